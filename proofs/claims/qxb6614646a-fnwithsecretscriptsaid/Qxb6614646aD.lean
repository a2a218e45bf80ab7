/-
  What a Maker keeps: values made stay; its free cells stay free or are taken.
-/
import Derived.Test.Qxb6614646aC
namespace Go.Proofs.Qxb6614646a
open Go.RowKit

/-- A number y is held at b, o. -/
def Held (w : World) (b o y : Nat) : Prop := o % 2 = 0 ∧ w.cell? ⟨b, o, none⟩ = some (hnd b o) ∧ w.cell? ⟨b, o + 1, none⟩ = some (.float .f64 y)
/-- A cell of a Maker's block, free or taken. -/
def Shape (w : World) (b o : Nat) : Prop := o % 2 = 0 ∧ (w.cell? ⟨b, o, none⟩ = some .nilIface ∨ ∃ v, w.cell? ⟨b, o, none⟩ = some (.iface 66 v)) ∧ (∃ y, w.cell? ⟨b, o + 1, none⟩ = some (.float .f64 y)) ∧ ∀ j, w.frozen? ⟨b, j, none⟩ = false
/-- A Maker lies at g, its memory at F and above. -/
def MkOk (w : World) (g F : Nat) : Prop := ∃ (cs : Array Value) (T : TypeId) (a : Option Addr) (len cap sz : Nat), w.heap[g]? = some (.cells cs T (0, 0)) ∧ cs.size = 8 ∧ cs[2]? = some (.slice a len cap) ∧ cs[3]? = some (.int .i64 (sz : Nat)) ∧ sz ≤ 128 ∧ len ≤ cap ∧ cap ≤ 128 ∧
  (0 < len → ∃ b o, a = some ⟨b, o, none⟩ ∧ F ≤ b ∧ ∀ j, j < len → Shape w b (o + 2 * j))

/-- Behind the making of the value y at b, o by the Maker at g. -/
structure Got (w w' : World) (g F b o y : Nat) : Prop where
  os : w'.os = w.os
  tape : w'.tape = w.tape
  output : w'.output = w.output
  size : w.heap.size ≤ w'.heap.size
  block : ∀ k, k < F → k ≠ g → w'.heap[k]? = w.heap[k]?
  held : ∀ b' o' y', F ≤ b' → Held w b' o' y' → Held w' b' o' y'
  shape : ∀ b' o', F ≤ b' → Shape w b' o' → Shape w' b' o'
  it : Held w' b o y
  at' : F ≤ b
  plain : ∀ k, k < w.heap.size → k ≠ g → (∀ o, ¬ Shape w k o) → w'.heap[k]? = w.heap[k]?
  maker : MkOk w' g F

theorem lt_of_cell {w : World} {b o : Nat} {v : Value} (h : w.cell? ⟨b, o, none⟩ = some v) : b < w.heap.size := World.block_lt_of_cell? w _ h

theorem blk_set {w : World} {g o : Nat} {cs : Array Value} {t : TypeId} (x : Value) (h : w.heap[g]? = some (.cells cs t (0, 0))) : (w.setCell ⟨g, o, none⟩ x).heap[g]? = some (.cells (cs.setIfInBounds o x) t (0, 0)) := by
  have hlt : g < w.heap.size := (Array.getElem?_eq_some_iff.1 h).1
  have h' : w.heap[g] = .cells cs t (0, 0) := by simpa [Array.getElem?_eq_getElem hlt] using h
  show (w.heap.modify g _)[g]? = _
  rw [Array.getElem?_eq_getElem (by simpa using hlt), Array.getElem_modify_self, h']
  rfl
theorem cell_set {v : World} {p : Addr} (u : Value) {x : Value} (h : v.cell? p = some x) : (v.setCell p u).cell? p = some u := World.cell?_setCell_same _ _ _ h

/-- makeIn takes the next free cell. -/
theorem got_take {w w' : World} {g F b o len cap c : Nat} {cs : Array Value} {T : TypeId} {sz : Nat} {a' : Option Addr} {y : Nat} (hgF : g < F) (hFb : F ≤ b) (ho : o % 2 = 0)
    (hrow : w.heap[g]? = some (.cells cs T (0, 0))) (h8 : cs.size = 8) (h3 : cs[3]? = some (.int .i64 (sz : Nat))) (hsz : sz ≤ 128) (hlc : len ≤ cap) (hcap : cap + 1 ≤ 128)
    (h0 : w.cell? ⟨b, o, none⟩ = some .nilIface) (h1 : w.cell? ⟨b, o + 1, none⟩ = some (.float .f64 y)) (hsh : ∀ j, j < len + 1 → Shape w b (o + 2 * j)) (ha' : 0 < len → a' = some ⟨b, o + 2, none⟩)
    (hbel : Below w.heap.size (((w.setCell ⟨g, 2, none⟩ (.slice a' len cap)).setCell ⟨b, o + 1, none⟩ (.float .f64 c)).setCell ⟨b, o, none⟩ (hnd b o)) w') : Got w w' g F b o c := by
  have hb := lt_of_cell h0
  have hg : g < w.heap.size := (Array.getElem?_eq_some_iff.1 hrow).1
  have hbg : b ≠ g := by omega
  have g0 : ∀ x, (w.setCell ⟨g, 2, none⟩ (.slice a' len cap)).cell? ⟨b, x, none⟩ = w.cell? ⟨b, x, none⟩ := fun x => World.cell?_of_block (w := w) (a := ⟨b, x, none⟩) (Below.heap_setCell w ⟨g, 2, none⟩ _ b hbg)
  have c0 : w'.cell? ⟨b, o, none⟩ = some (hnd b o) := by
    rw [hbel.cell (p := ⟨b, o, none⟩) hb]
    refine cell_set _ (x := .nilIface) ?_
    rw [cell_off _ (by omega), g0]; exact h0
  have c1 : w'.cell? ⟨b, o + 1, none⟩ = some (.float .f64 c) := by
    rw [hbel.cell (p := ⟨b, o + 1, none⟩) hb, cell_off _ (by omega)]
    refine cell_set _ (x := .float .f64 y) ?_
    rw [g0]; exact h1
  have cx : ∀ x, x ≠ o → x ≠ o + 1 → w'.cell? ⟨b, x, none⟩ = w.cell? ⟨b, x, none⟩ := fun x hx hx' => by
    rw [hbel.cell (p := ⟨b, x, none⟩) hb, cell_off _ (Ne.symm hx), cell_off _ (Ne.symm hx'), g0]
  have bk : ∀ k, k < w.heap.size → k ≠ g → k ≠ b → w'.heap[k]? = w.heap[k]? := fun k hk hkg hkb => by
    rw [hbel.block k hk, Below.heap_setCell _ _ _ _ hkb, Below.heap_setCell _ _ _ _ hkb, Below.heap_setCell _ _ _ _ hkg]
  have bc : ∀ k x, k < w.heap.size → k ≠ g → k ≠ b → w'.cell? ⟨k, x, none⟩ = w.cell? ⟨k, x, none⟩ := fun k x hk hkg hkb => World.cell?_of_block (w := w) (a := ⟨k, x, none⟩) (bk k hk hkg hkb)
  have fz : ∀ k x, k < w.heap.size → w'.frozen? ⟨k, x, none⟩ = w.frozen? ⟨k, x, none⟩ := fun k x hk => by
    rw [hbel.frozen (p := ⟨k, x, none⟩) hk, World.frozen?_setCell, World.frozen?_setCell, World.frozen?_setCell]
  have hshape : ∀ b' o', F ≤ b' → Shape w b' o' → Shape w' b' o' := by
    rintro b' o' hF' ⟨s1, s2, ⟨y', s3⟩, s4⟩
    have hb' := lt_of_cell s3
    have hb'g : b' ≠ g := by omega
    refine ⟨s1, ?_, ?_, fun j => (fz b' j hb').trans (s4 j)⟩
    · by_cases e : b' = b
      · subst e
        by_cases e2 : o' = o
        · subst e2; exact Or.inr ⟨_, c0⟩
        · rw [cx o' e2 (by omega)]; exact s2
      · rw [bc b' o' hb' hb'g e]; exact s2
    · by_cases e : b' = b
      · subst e
        by_cases e2 : o' = o
        · subst e2; exact ⟨_, c1⟩
        · rw [cx (o' + 1) (by omega) (by omega)]; exact ⟨_, s3⟩
      · rw [bc b' (o' + 1) hb' hb'g e]; exact ⟨_, s3⟩
  refine ⟨hbel.os, hbel.tape, hbel.output, ?_, fun k hk hkg => ?_, ?_, hshape, ⟨ho, c0, c1⟩, hFb, fun k hk hkg hns => bk k hk hkg (fun e => hns o (by subst e; exact hsh 0 (by omega))), ?_⟩
  · have := hbel.size
    rw [setSize, setSize, setSize] at this
    exact this
  · exact bk k (by omega) hkg (by omega)
  · rintro b' o' y' hF' ⟨s1, s2, s3⟩
    have hb' := lt_of_cell s3
    have hb'g : b' ≠ g := by omega
    by_cases e : b' = b
    · subst e
      have e2 : o' ≠ o := by
        intro e2; subst e2
        rw [h0] at s2
        cases s2
      exact ⟨s1, (cx o' e2 (by omega)).trans s2, (cx (o' + 1) (by omega) (by omega)).trans s3⟩
    · exact ⟨s1, (bc b' o' hb' hb'g e).trans s2, (bc b' (o' + 1) hb' hb'g e).trans s3⟩
  · refine ⟨cs.setIfInBounds 2 (.slice a' len cap), T, a', len, cap, sz, ?_, by simpa using h8, ?_, ?_, hsz, hlc, by omega, fun hl => ⟨b, o + 2, ha' hl, hFb, fun j hj => ?_⟩⟩
    · rw [hbel.block g hg, Below.heap_setCell _ _ _ _ (Ne.symm hbg), Below.heap_setCell _ _ _ _ (Ne.symm hbg)]
      exact blk_set _ hrow
    · rw [Array.getElem?_setIfInBounds, if_pos rfl, if_pos (by omega)]
    · rw [Array.getElem?_setIfInBounds, if_neg (by omega)]; exact h3
    · have := hsh (j + 1) (by omega)
      have e : o + 2 * (j + 1) = o + 2 + 2 * j := by omega
      rw [e] at this
      exact hshape b _ hFb this

/-- makeIn takes a new block. -/
theorem got_more {w w' : World} {g F m c : Nat} {cs : Array Value} {T : TypeId} (hgF : g < F) (hF : F ≤ w.heap.size)
    (hrow : w.heap[g]? = some (.cells cs T (0, 0))) (h8 : cs.size = 8) (hm : m + 1 ≤ 128) (h : Raw22 w w' g m c) : Got w w' g F (w.heap.size + 1) 0 c := by
  obtain ⟨z, w1, w4, u, hz, hn, hb4, rfl⟩ := h
  have hs1 := hn.size
  have hg : g < w.heap.size := (Array.getElem?_eq_some_iff.1 hrow).1
  have old : ∀ k, k < w.heap.size → k ≠ g → (w4.setCell ⟨w.heap.size, 0, none⟩ u).heap[k]? = w.heap[k]? := fun k hk hkg => by
    rw [Below.heap_setCell _ _ _ _ (by dsimp only; omega), hb4.block k (by omega), Below.heap_setCell _ _ _ _ (by dsimp only; omega), Below.heap_setCell _ _ _ _ (by dsimp only; omega), Below.heap_setCell _ _ _ _ hkg, Below.heap_setCell _ _ _ _ hkg, hn.old k hk, Below.heap_setCell _ _ _ _ hkg]
  have hnb : (w4.setCell ⟨w.heap.size, 0, none⟩ u).heap[w.heap.size + 1]? = some (.cells (((madeCells #[.nilIface, .float .f64 0] ((m + 1) * 2)).setIfInBounds 1 (.float .f64 c)).setIfInBounds 0 (hnd (w.heap.size + 1) 0)) 81 (0, 0)) := by
    rw [Below.heap_setCell _ _ _ _ (by dsimp only; omega), hb4.block _ (by omega)]
    refine blk_set _ (blk_set _ ?_)
    rw [Below.heap_setCell _ _ _ _ (by dsimp only; omega), Below.heap_setCell _ _ _ _ (by dsimp only; omega)]
    exact hn.row
  have hgr : (w4.setCell ⟨w.heap.size, 0, none⟩ u).heap[g]? = some (.cells (((cs.setIfInBounds 3 (.int .i64 z)).setIfInBounds 2 (.slice (some ⟨w.heap.size + 1, 0, none⟩) (m + 1) (m + 1))).setIfInBounds 2 (.slice (some ⟨w.heap.size + 1, 2, none⟩) m m)) T (0, 0)) := by
    rw [Below.heap_setCell _ _ _ _ (by dsimp only; omega), hb4.block g (by omega), Below.heap_setCell _ _ _ _ (by dsimp only; omega), Below.heap_setCell _ _ _ _ (by dsimp only; omega)]
    refine blk_set _ (blk_set _ ?_)
    rw [hn.old g hg]
    exact blk_set _ hrow
  have hos : (w4.setCell ⟨w.heap.size, 0, none⟩ u).os = w.os := hb4.os.trans hn.os
  have htp : (w4.setCell ⟨w.heap.size, 0, none⟩ u).tape = w.tape := hb4.tape.trans hn.tape
  have hou : (w4.setCell ⟨w.heap.size, 0, none⟩ u).output = w.output := hb4.output.trans hn.output
  have hsz : w.heap.size + 2 ≤ (w4.setCell ⟨w.heap.size, 0, none⟩ u).heap.size := by
    have := hb4.size
    rw [setSize, setSize, setSize, setSize] at this
    rw [setSize]; omega
  generalize w4.setCell ⟨w.heap.size, 0, none⟩ u = w' at *
  clear hb4 hn hs1
  have bc : ∀ k x, k < w.heap.size → k ≠ g → w'.cell? ⟨k, x, none⟩ = w.cell? ⟨k, x, none⟩ := fun k x hk hkg => World.cell?_of_block (w := w) (a := ⟨k, x, none⟩) (old k hk hkg)
  have n0 : w'.cell? ⟨w.heap.size + 1, 0, none⟩ = some (hnd (w.heap.size + 1) 0) := by
    rw [cell_of_row _ _ _ _ _ _ hnb, Array.getElem?_setIfInBounds, if_pos rfl, if_pos (by rw [Array.size_setIfInBounds, size_madeCells]; omega)]
  have n1 : w'.cell? ⟨w.heap.size + 1, 0 + 1, none⟩ = some (.float .f64 c) := by
    rw [cell_of_row _ _ _ _ _ _ hnb, Array.getElem?_setIfInBounds, if_neg (by omega), Array.getElem?_setIfInBounds, if_pos (by omega), if_pos (by rw [size_madeCells]; omega)]
  have nj : ∀ j, j < m → Shape w' (w.heap.size + 1) (2 + 2 * j) := by
    intro j hj
    have e := made_even .nilIface (.float .f64 0) ((m + 1) * 2) (j + 1) (by omega)
    have e2 : 2 * (j + 1) = 2 + 2 * j := by omega
    rw [e2] at e
    refine ⟨by omega, Or.inl ?_, ⟨0, ?_⟩, fun x => by simp [World.frozen?, hnb]⟩
    · rw [cell_of_row _ _ _ _ _ _ hnb, Array.getElem?_setIfInBounds, if_neg (by omega), Array.getElem?_setIfInBounds, if_neg (by omega)]
      exact e.1
    · rw [cell_of_row _ _ _ _ _ _ hnb, Array.getElem?_setIfInBounds, if_neg (by omega), Array.getElem?_setIfInBounds, if_neg (by omega)]
      exact e.2
  refine ⟨hos, htp, hou, by omega, fun k hk hkg => old k (by omega) hkg, ?_, ?_, ⟨rfl, n0, n1⟩, by omega, fun k hk hkg _ => old k hk hkg, ?_⟩
  · rintro b' o' y' hF' ⟨s1, s2, s3⟩
    have hb' := lt_of_cell s3
    exact ⟨s1, (bc b' o' hb' (by omega)).trans s2, (bc b' (o' + 1) hb' (by omega)).trans s3⟩
  · rintro b' o' hF' ⟨s1, s2, ⟨y', s3⟩, s4⟩
    have hb' := lt_of_cell s3
    refine ⟨s1, ?_, ⟨y', (bc b' (o' + 1) hb' (by omega)).trans s3⟩, fun j => (frozen_block (a := ⟨b', j, none⟩) (old b' hb' (by omega))).trans (s4 j)⟩
    rw [bc b' o' hb' (by omega)]; exact s2
  · refine ⟨_, T, _, m, m, m + 1, hgr, by simpa using h8, ?_, ?_, hm, Nat.le_refl _, by omega, fun _ => ⟨w.heap.size + 1, 2, rfl, by omega, nj⟩⟩
    · rw [Array.getElem?_setIfInBounds, if_pos rfl, if_pos (by simp; omega)]
    · rw [Array.getElem?_setIfInBounds, if_neg (by omega), Array.getElem?_setIfInBounds, if_neg (by omega), Array.getElem?_setIfInBounds, if_pos rfl, if_pos (by omega), hz]

/-- makeIn, whatever the Maker. -/
theorem makeIn22_any (g F c : Nat) (w : World) (hgF : g < F) (hF : F ≤ w.heap.size) (h : MkOk w g F) :
    Calls Try.prog 22 #[.pointer (some ⟨g, 2, none⟩), .float .f64 c] w fun e w' => ∃ b o, e = .returned (.agg #[.pointer (some ⟨b, o, none⟩)]) ∧ Got w w' g F b o c := by
  obtain ⟨cs, T, a, len, cap, sz, hrow, h8, h2, h3, hsz, hlc, hcap, hfree⟩ := h
  have hg : g < w.heap.size := by omega
  have c2 : w.cell? ⟨g, 2, none⟩ = some (.slice a len cap) := (cell_of_row _ _ _ _ _ _ hrow).trans h2
  have c3 : w.cell? ⟨g, 3, none⟩ = some (.int .i64 (sz : Nat)) := (cell_of_row _ _ _ _ _ _ hrow).trans h3
  have fz : ∀ j, w.frozen? ⟨g, j, none⟩ = false := fun j => by simp [World.frozen?, hrow]
  rcases Nat.eq_zero_or_pos len with hl | hl
  · subst hl
    by_cases ha : 2 * sz < 8
    · exact (makeIn22_empty_a g cap c a sz w hg c2 (fz 2) c3 (fz 3) hsz ha).mono fun e w' ⟨he, hr⟩ => ⟨_, _, he, got_more hgF hF hrow h8 (by omega) hr⟩
    · by_cases hb : 2 * sz ≤ 128
      · obtain ⟨m, hm⟩ : ∃ m, 2 * sz = m + 1 := ⟨2 * sz - 1, by omega⟩
        exact (makeIn22_empty_b g cap c m a sz w hg c2 (fz 2) c3 (fz 3) hsz (by omega) hb hm).mono fun e w' ⟨he, hr⟩ => ⟨_, _, he, got_more hgF hF hrow h8 (by omega) hr⟩
      · exact (makeIn22_empty_c g cap c a sz w hg c2 (fz 2) c3 (fz 3) hsz (by omega)).mono fun e w' ⟨he, hr⟩ => ⟨_, _, he, got_more hgF hF hrow h8 (by omega) hr⟩
  · obtain ⟨b, o, rfl, hFb, hsh⟩ := hfree hl
    obtain ⟨len, rfl⟩ : ∃ n, len = n + 1 := ⟨len - 1, by omega⟩
    obtain ⟨cap, rfl⟩ : ∃ n, cap = n + 1 := ⟨cap - 1, by omega⟩
    obtain ⟨s1, s2, ⟨y, s3⟩, s4⟩ := hsh 0 (by omega)
    rw [Nat.mul_zero, Nat.add_zero] at s1 s2 s3
    have hb := lt_of_cell s3
    rcases s2 with s2 | ⟨v, s2⟩
    · refine (makeIn22_take g b o len cap c y w hg hb (by omega) c2 (fz 2) (by omega) (by omega) s2 s3 (s4 _) (s4 _)).mono fun e w' ⟨he, a', ha', hr⟩ => ⟨_, _, he, ?_⟩
      exact got_take hgF hFb s1 hrow h8 h3 hsz (by omega) (by omega) s2 s3 hsh ha' hr
    · by_cases ha : 2 * sz < 8
      · exact (makeIn22_taken_a g b o len (cap + 1) c v sz w hg hb s2 c2 (fz 2) c3 (fz 3) hsz ha).mono fun e w' ⟨he, hr⟩ => ⟨_, _, he, got_more hgF hF hrow h8 (by omega) hr⟩
      · by_cases hb2 : 2 * sz ≤ 128
        · obtain ⟨m, hm⟩ : ∃ m, 2 * sz = m + 1 := ⟨2 * sz - 1, by omega⟩
          exact (makeIn22_taken_b g b o len (cap + 1) c m v sz w hg hb s2 c2 (fz 2) c3 (fz 3) hsz (by omega) hb2 hm).mono fun e w' ⟨he, hr⟩ => ⟨_, _, he, got_more hgF hF hrow h8 (by omega) hr⟩
        · exact (makeIn22_taken_c g b o len (cap + 1) c v sz w hg hb s2 c2 (fz 2) c3 (fz 3) hsz (by omega)).mono fun e w' ⟨he, hr⟩ => ⟨_, _, he, got_more hgF hF hrow h8 (by omega) hr⟩

end Go.Proofs.Qxb6614646a
