/-
  Makers that share memory: a Maker's block bears no float, its memory does; so whatever one Maker makes, the blocks without floats stay, and so do the values made.
-/
import Derived.Test.Qxb6614646aG
namespace Go.Proofs.Qxb6614646a
open Go.RowKit

/-- No cell of the block is a float. -/
def NoF (w : World) (g : Nat) : Prop := ∀ o y, w.cell? ⟨g, o, none⟩ ≠ some (.float .f64 y)
theorem NoF.ne {w : World} {g b o : Nat} (h : NoF w g) (hs : Shape w b o) : b ≠ g := by
  obtain ⟨_, _, ⟨y, s3⟩, _⟩ := hs
  intro e; subst e; exact h _ _ s3
theorem NoF.neH {w : World} {g b o y : Nat} (h : NoF w g) (hs : Held w b o y) : b ≠ g := by
  intro e; subst e; exact h _ _ hs.2.2
theorem NoF.block {w w' : World} {g : Nat} (e : w'.heap[g]? = w.heap[g]?) (h : NoF w g) : NoF w' g := fun o y hc => h o y ((World.cell?_of_block (w := w) (a := ⟨g, o, none⟩) e).symm.trans hc)
theorem noF_row {w : World} {g : Nat} {cs : Array Value} {T : TypeId} (hr : w.heap[g]? = some (.cells cs T (0, 0))) (h : ∀ (j y : Nat), cs[j]? ≠ some (Value.float .f64 y)) : NoF w g := fun o y hc => h o y ((cell_of_row _ _ _ _ _ _ hr).symm.trans hc)

/-- The kinds of a Maker's cells: four blocks of a slice and a size. -/
def Kinds (cs : Array Value) : Prop := ∀ j, j < 4 → (∃ a l c, cs[2 * j]? = some (.slice a l c)) ∧ (∃ s, cs[2 * j + 1]? = some (Value.int .i64 s))
theorem kinds_slice {cs : Array Value} {a : Option Addr} {l c : Nat} (h8 : cs.size = 8) (h : Kinds cs) : Kinds (cs.setIfInBounds 2 (.slice a l c)) := by
  intro j hj
  obtain ⟨h1, h2⟩ := h j hj
  refine ⟨?_, ?_⟩
  · rw [Array.getElem?_setIfInBounds]
    by_cases e : 2 = 2 * j
    · rw [if_pos e, if_pos (by omega)]; exact ⟨_, _, _, rfl⟩
    · rw [if_neg e]; exact h1
  · rw [Array.getElem?_setIfInBounds, if_neg (by omega)]; exact h2
theorem kinds_int {cs : Array Value} {z : Int} (h8 : cs.size = 8) (h : Kinds cs) : Kinds (cs.setIfInBounds 3 (.int .i64 z)) := by
  intro j hj
  obtain ⟨h1, h2⟩ := h j hj
  refine ⟨?_, ?_⟩
  · rw [Array.getElem?_setIfInBounds, if_neg (by omega)]; exact h1
  · rw [Array.getElem?_setIfInBounds]
    by_cases e : 3 = 2 * j + 1
    · rw [if_pos e, if_pos (by omega)]; exact ⟨_, rfl⟩
    · rw [if_neg e]; exact h2

/-- A Maker lies at g, its memory at F and above. -/
def MkOk2 (w : World) (g F : Nat) : Prop := ∃ (cs : Array Value) (T : TypeId) (a : Option Addr) (len cap sz : Nat), w.heap[g]? = some (.cells cs T (0, 0)) ∧ cs.size = 8 ∧ cs[2]? = some (.slice a len cap) ∧ cs[3]? = some (.int .i64 (sz : Nat)) ∧ sz ≤ 128 ∧ len ≤ cap ∧ cap ≤ 128 ∧
  (∀ (j y : Nat), cs[j]? ≠ some (Value.float .f64 y)) ∧ Kinds cs ∧ (0 < len → ∃ b o, a = some ⟨b, o, none⟩ ∧ F ≤ b ∧ ∀ j, j < len → Shape w b (o + 2 * j))
theorem MkOk2.noF {w : World} {g F : Nat} (h : MkOk2 w g F) : NoF w g := by
  obtain ⟨cs, T, a, len, cap, sz, hr, _, _, _, _, _, _, hn, _, _⟩ := h
  exact noF_row hr hn
theorem MkOk2.lt {w : World} {g F : Nat} (h : MkOk2 w g F) : g < w.heap.size := by
  obtain ⟨cs, T, a, len, cap, sz, hr, _⟩ := h
  exact (Array.getElem?_eq_some_iff.1 hr).1

/-- Behind the making of the value y at b, o by the Maker at g. -/
structure Got2 (w w' : World) (g F b o y : Nat) : Prop where
  os : w'.os = w.os
  tape : w'.tape = w.tape
  output : w'.output = w.output
  size : w.heap.size ≤ w'.heap.size
  held : ∀ b' o' y', Held w b' o' y' → Held w' b' o' y'
  shape : ∀ b' o', Shape w b' o' → Shape w' b' o'
  it : Held w' b o y
  plain : ∀ k, k < w.heap.size → k ≠ g → NoF w k → w'.heap[k]? = w.heap[k]?
  low : ∀ k, k < F → w'.heap[k]? = w.heap[k]?
  at' : F ≤ b
  maker : MkOk2 w' g F

theorem set_nof {cs : Array Value} {i : Nat} {v : Value} (h : ∀ (j y : Nat), cs[j]? ≠ some (Value.float .f64 y)) (hv : ∀ y, v ≠ .float .f64 y) : ∀ (j y : Nat), (cs.setIfInBounds i v)[j]? ≠ some (Value.float .f64 y) := by
  intro j y
  rw [Array.getElem?_setIfInBounds]
  split
  · split
    · intro e; injection e with e; exact hv y e
    · intro e; cases e
  · exact h j y

theorem got_take2 {w w' : World} {g F b o len cap c : Nat} {cs : Array Value} {T : TypeId} {sz : Nat} {a' : Option Addr} {y : Nat} (hFg : F ≤ g) (hFb : F ≤ b) (ho : o % 2 = 0)
    (hrow : w.heap[g]? = some (.cells cs T (0, 0))) (h8 : cs.size = 8) (h3 : cs[3]? = some (.int .i64 (sz : Nat))) (hsz : sz ≤ 128) (hlc : len ≤ cap) (hcap : cap + 1 ≤ 128) (hnf : ∀ (j y : Nat), cs[j]? ≠ some (Value.float .f64 y)) (hkd : Kinds cs)
    (h0 : w.cell? ⟨b, o, none⟩ = some .nilIface) (h1 : w.cell? ⟨b, o + 1, none⟩ = some (.float .f64 y)) (hsh : ∀ j, j < len + 1 → Shape w b (o + 2 * j)) (ha' : 0 < len → a' = some ⟨b, o + 2, none⟩)
    (hbel : Below w.heap.size (((w.setCell ⟨g, 2, none⟩ (.slice a' len cap)).setCell ⟨b, o + 1, none⟩ (.float .f64 c)).setCell ⟨b, o, none⟩ (hnd b o)) w') : Got2 w w' g F b o c := by
  have hng := noF_row hrow hnf
  have hb := lt_of_cell h0
  have hg : g < w.heap.size := (Array.getElem?_eq_some_iff.1 hrow).1
  have hbg : b ≠ g := fun e => by subst e; exact hng _ _ h1
  have g0 : ∀ x, (w.setCell ⟨g, 2, none⟩ (.slice a' len cap)).cell? ⟨b, x, none⟩ = w.cell? ⟨b, x, none⟩ := fun x => World.cell?_of_block (w := w) (a := ⟨b, x, none⟩) (Below.heap_setCell w ⟨g, 2, none⟩ _ b hbg)
  have c0 : w'.cell? ⟨b, o, none⟩ = some (hnd b o) := by
    rw [hbel.cell (p := ⟨b, o, none⟩) hb]
    refine cell_set _ (x := .nilIface) ?_
    rw [cell_off _ (by omega), g0]; exact h0
  have c1 : w'.cell? ⟨b, o + 1, none⟩ = some (.float .f64 c) := by
    rw [hbel.cell (p := ⟨b, o + 1, none⟩) hb, cell_off _ (by omega)]
    refine cell_set _ (x := .float .f64 y) ?_
    rw [g0]; exact h1
  have cx : ∀ x, x ≠ o → x ≠ o + 1 → w'.cell? ⟨b, x, none⟩ = w.cell? ⟨b, x, none⟩ := fun x hx hx' => by
    rw [hbel.cell (p := ⟨b, x, none⟩) hb, cell_off _ (Ne.symm hx), cell_off _ (Ne.symm hx'), g0]
  have bk : ∀ k, k < w.heap.size → k ≠ g → k ≠ b → w'.heap[k]? = w.heap[k]? := fun k hk hkg hkb => by
    rw [hbel.block k hk, Below.heap_setCell _ _ _ _ hkb, Below.heap_setCell _ _ _ _ hkb, Below.heap_setCell _ _ _ _ hkg]
  have bc : ∀ k x, k < w.heap.size → k ≠ g → k ≠ b → w'.cell? ⟨k, x, none⟩ = w.cell? ⟨k, x, none⟩ := fun k x hk hkg hkb => World.cell?_of_block (w := w) (a := ⟨k, x, none⟩) (bk k hk hkg hkb)
  have fz : ∀ k x, k < w.heap.size → w'.frozen? ⟨k, x, none⟩ = w.frozen? ⟨k, x, none⟩ := fun k x hk => by
    rw [hbel.frozen (p := ⟨k, x, none⟩) hk, World.frozen?_setCell, World.frozen?_setCell, World.frozen?_setCell]
  have hshape : ∀ b' o', Shape w b' o' → Shape w' b' o' := by
    intro b' o' hs
    have hb'g : b' ≠ g := hng.ne hs
    obtain ⟨s1, s2, ⟨y', s3⟩, s4⟩ := hs
    have hb' := lt_of_cell s3
    refine ⟨s1, ?_, ?_, fun j => (fz b' j hb').trans (s4 j)⟩
    · by_cases e : b' = b
      · subst e
        by_cases e2 : o' = o
        · subst e2; exact Or.inr ⟨_, c0⟩
        · rw [cx o' e2 (by omega)]; exact s2
      · rw [bc b' o' hb' hb'g e]; exact s2
    · by_cases e : b' = b
      · subst e
        by_cases e2 : o' = o
        · subst e2; exact ⟨_, c1⟩
        · rw [cx (o' + 1) (by omega) (by omega)]; exact ⟨_, s3⟩
      · rw [bc b' (o' + 1) hb' hb'g e]; exact ⟨_, s3⟩
  refine ⟨hbel.os, hbel.tape, hbel.output, ?_, ?_, hshape, ⟨ho, c0, c1⟩, fun k hk hkg hns => bk k hk hkg (fun e => by subst e; exact hns _ _ h1), fun k hk => bk k (by omega) (by omega) (by omega), hFb, ?_⟩
  · have := hbel.size
    rw [setSize, setSize, setSize] at this
    exact this
  · intro b' o' y' hs
    have hb'g : b' ≠ g := hng.neH hs
    obtain ⟨s1, s2, s3⟩ := hs
    have hb' := lt_of_cell s3
    by_cases e : b' = b
    · subst e
      have e2 : o' ≠ o := by
        intro e2; subst e2
        rw [h0] at s2
        cases s2
      exact ⟨s1, (cx o' e2 (by omega)).trans s2, (cx (o' + 1) (by omega) (by omega)).trans s3⟩
    · exact ⟨s1, (bc b' o' hb' hb'g e).trans s2, (bc b' (o' + 1) hb' hb'g e).trans s3⟩
  · refine ⟨cs.setIfInBounds 2 (.slice a' len cap), T, a', len, cap, sz, ?_, by simpa using h8, ?_, ?_, hsz, hlc, by omega, set_nof hnf (fun y e => by cases e), kinds_slice h8 hkd, fun hl => ⟨b, o + 2, ha' hl, hFb, fun j hj => ?_⟩⟩
    · rw [hbel.block g hg, Below.heap_setCell _ _ _ _ (Ne.symm hbg), Below.heap_setCell _ _ _ _ (Ne.symm hbg)]
      exact blk_set _ hrow
    · rw [Array.getElem?_setIfInBounds, if_pos rfl, if_pos (by omega)]
    · rw [Array.getElem?_setIfInBounds, if_neg (by omega)]; exact h3
    · have := hsh (j + 1) (by omega)
      have e : o + 2 * (j + 1) = o + 2 + 2 * j := by omega
      rw [e] at this
      exact hshape b _ this

theorem got_more2 {w w' : World} {g F m c : Nat} {cs : Array Value} {T : TypeId} (hFg : F ≤ g)
    (hrow : w.heap[g]? = some (.cells cs T (0, 0))) (h8 : cs.size = 8) (hm : m + 1 ≤ 128) (hnf : ∀ (j y : Nat), cs[j]? ≠ some (Value.float .f64 y)) (hkd : Kinds cs) (h : Raw22 w w' g m c) : Got2 w w' g F (w.heap.size + 1) 0 c := by
  have hng := noF_row hrow hnf
  obtain ⟨z, w1, w4, u, hz, hn, hb4, rfl⟩ := h
  have hs1 := hn.size
  have hg : g < w.heap.size := (Array.getElem?_eq_some_iff.1 hrow).1
  have old : ∀ k, k < w.heap.size → k ≠ g → (w4.setCell ⟨w.heap.size, 0, none⟩ u).heap[k]? = w.heap[k]? := fun k hk hkg => by
    rw [Below.heap_setCell _ _ _ _ (by dsimp only; omega), hb4.block k (by omega), Below.heap_setCell _ _ _ _ (by dsimp only; omega), Below.heap_setCell _ _ _ _ (by dsimp only; omega), Below.heap_setCell _ _ _ _ hkg, Below.heap_setCell _ _ _ _ hkg, hn.old k hk, Below.heap_setCell _ _ _ _ hkg]
  have hnb : (w4.setCell ⟨w.heap.size, 0, none⟩ u).heap[w.heap.size + 1]? = some (.cells (((madeCells #[.nilIface, .float .f64 0] ((m + 1) * 2)).setIfInBounds 1 (.float .f64 c)).setIfInBounds 0 (hnd (w.heap.size + 1) 0)) 81 (0, 0)) := by
    rw [Below.heap_setCell _ _ _ _ (by dsimp only; omega), hb4.block _ (by omega)]
    refine blk_set _ (blk_set _ ?_)
    rw [Below.heap_setCell _ _ _ _ (by dsimp only; omega), Below.heap_setCell _ _ _ _ (by dsimp only; omega)]
    exact hn.row
  have hgr : (w4.setCell ⟨w.heap.size, 0, none⟩ u).heap[g]? = some (.cells (((cs.setIfInBounds 3 (.int .i64 z)).setIfInBounds 2 (.slice (some ⟨w.heap.size + 1, 0, none⟩) (m + 1) (m + 1))).setIfInBounds 2 (.slice (some ⟨w.heap.size + 1, 2, none⟩) m m)) T (0, 0)) := by
    rw [Below.heap_setCell _ _ _ _ (by dsimp only; omega), hb4.block g (by omega), Below.heap_setCell _ _ _ _ (by dsimp only; omega), Below.heap_setCell _ _ _ _ (by dsimp only; omega)]
    refine blk_set _ (blk_set _ ?_)
    rw [hn.old g hg]
    exact blk_set _ hrow
  have hos : (w4.setCell ⟨w.heap.size, 0, none⟩ u).os = w.os := hb4.os.trans hn.os
  have htp : (w4.setCell ⟨w.heap.size, 0, none⟩ u).tape = w.tape := hb4.tape.trans hn.tape
  have hou : (w4.setCell ⟨w.heap.size, 0, none⟩ u).output = w.output := hb4.output.trans hn.output
  have hsz : w.heap.size + 2 ≤ (w4.setCell ⟨w.heap.size, 0, none⟩ u).heap.size := by
    have := hb4.size
    rw [setSize, setSize, setSize, setSize] at this
    rw [setSize]; omega
  generalize w4.setCell ⟨w.heap.size, 0, none⟩ u = w' at *
  clear hb4 hn hs1
  have bc : ∀ k x, k < w.heap.size → k ≠ g → w'.cell? ⟨k, x, none⟩ = w.cell? ⟨k, x, none⟩ := fun k x hk hkg => World.cell?_of_block (w := w) (a := ⟨k, x, none⟩) (old k hk hkg)
  have n0 : w'.cell? ⟨w.heap.size + 1, 0, none⟩ = some (hnd (w.heap.size + 1) 0) := by
    rw [cell_of_row _ _ _ _ _ _ hnb, Array.getElem?_setIfInBounds, if_pos rfl, if_pos (by rw [Array.size_setIfInBounds, size_madeCells]; omega)]
  have n1 : w'.cell? ⟨w.heap.size + 1, 0 + 1, none⟩ = some (.float .f64 c) := by
    rw [cell_of_row _ _ _ _ _ _ hnb, Array.getElem?_setIfInBounds, if_neg (by omega), Array.getElem?_setIfInBounds, if_pos (by omega), if_pos (by rw [size_madeCells]; omega)]
  have nj : ∀ j, j < m → Shape w' (w.heap.size + 1) (2 + 2 * j) := by
    intro j hj
    have e := made_even .nilIface (.float .f64 0) ((m + 1) * 2) (j + 1) (by omega)
    have e2 : 2 * (j + 1) = 2 + 2 * j := by omega
    rw [e2] at e
    refine ⟨by omega, Or.inl ?_, ⟨0, ?_⟩, fun x => by simp [World.frozen?, hnb]⟩
    · rw [cell_of_row _ _ _ _ _ _ hnb, Array.getElem?_setIfInBounds, if_neg (by omega), Array.getElem?_setIfInBounds, if_neg (by omega)]
      exact e.1
    · rw [cell_of_row _ _ _ _ _ _ hnb, Array.getElem?_setIfInBounds, if_neg (by omega), Array.getElem?_setIfInBounds, if_neg (by omega)]
      exact e.2
  refine ⟨hos, htp, hou, by omega, ?_, ?_, ⟨rfl, n0, n1⟩, fun k hk hkg _ => old k hk hkg, fun k hk => old k (by omega) (by omega), by omega, ?_⟩
  · intro b' o' y' hs
    exact held_block (old b' (held_lt hs) (hng.neH hs)) hs
  · intro b' o' hs
    exact shape_block (old b' (shape_lt hs) (hng.ne hs)) hs
  · refine ⟨_, T, _, m, m, m + 1, hgr, by simpa using h8, ?_, ?_, hm, Nat.le_refl _, by omega, set_nof (set_nof (set_nof hnf (fun y e => by cases e)) (fun y e => by cases e)) (fun y e => by cases e), kinds_slice (by simpa using h8) (kinds_slice (by simpa using h8) (kinds_int h8 hkd)), fun _ => ⟨w.heap.size + 1, 2, rfl, by omega, nj⟩⟩
    · rw [Array.getElem?_setIfInBounds, if_pos rfl, if_pos (by simp; omega)]
    · rw [Array.getElem?_setIfInBounds, if_neg (by omega), Array.getElem?_setIfInBounds, if_neg (by omega), Array.getElem?_setIfInBounds, if_pos rfl, if_pos (by omega), hz]

/-- makeIn, whatever the Maker. -/
theorem makeIn22_any2 (g F c : Nat) (w : World) (hFg : F ≤ g) (h : MkOk2 w g F) :
    Calls Try.prog 22 #[.pointer (some ⟨g, 2, none⟩), .float .f64 c] w fun e w' => ∃ b o, e = .returned (.agg #[.pointer (some ⟨b, o, none⟩)]) ∧ Got2 w w' g F b o c := by
  have hg := h.lt
  have hng := h.noF
  obtain ⟨cs, T, a, len, cap, sz, hrow, h8, h2, h3, hsz, hlc, hcap, hnf, hkd, hfree⟩ := h
  have c2 : w.cell? ⟨g, 2, none⟩ = some (.slice a len cap) := (cell_of_row _ _ _ _ _ _ hrow).trans h2
  have c3 : w.cell? ⟨g, 3, none⟩ = some (.int .i64 (sz : Nat)) := (cell_of_row _ _ _ _ _ _ hrow).trans h3
  have fz : ∀ j, w.frozen? ⟨g, j, none⟩ = false := fun j => by simp [World.frozen?, hrow]
  rcases Nat.eq_zero_or_pos len with hl | hl
  · subst hl
    by_cases ha : 2 * sz < 8
    · exact (makeIn22_empty_a g cap c a sz w hg c2 (fz 2) c3 (fz 3) hsz ha).mono fun e w' ⟨he, hr⟩ => ⟨_, _, he, got_more2 hFg hrow h8 (by omega) hnf hkd hr⟩
    · by_cases hb : 2 * sz ≤ 128
      · obtain ⟨m, hm⟩ : ∃ m, 2 * sz = m + 1 := ⟨2 * sz - 1, by omega⟩
        exact (makeIn22_empty_b g cap c m a sz w hg c2 (fz 2) c3 (fz 3) hsz (by omega) hb hm).mono fun e w' ⟨he, hr⟩ => ⟨_, _, he, got_more2 hFg hrow h8 (by omega) hnf hkd hr⟩
      · exact (makeIn22_empty_c g cap c a sz w hg c2 (fz 2) c3 (fz 3) hsz (by omega)).mono fun e w' ⟨he, hr⟩ => ⟨_, _, he, got_more2 hFg hrow h8 (by omega) hnf hkd hr⟩
  · obtain ⟨b, o, rfl, hFb, hsh⟩ := hfree hl
    obtain ⟨len, rfl⟩ : ∃ n, len = n + 1 := ⟨len - 1, by omega⟩
    obtain ⟨cap, rfl⟩ : ∃ n, cap = n + 1 := ⟨cap - 1, by omega⟩
    have hbg := hng.ne (hsh 0 (by omega))
    obtain ⟨s1, s2, ⟨y, s3⟩, s4⟩ := hsh 0 (by omega)
    rw [Nat.mul_zero, Nat.add_zero] at s1 s2 s3
    have hb := lt_of_cell s3
    rcases s2 with s2 | ⟨v, s2⟩
    · refine (makeIn22_take g b o len cap c y w hg hb (Ne.symm hbg) c2 (fz 2) (by omega) (by omega) s2 s3 (s4 _) (s4 _)).mono fun e w' ⟨he, a', ha', hr⟩ => ⟨_, _, he, ?_⟩
      exact got_take2 hFg hFb s1 hrow h8 h3 hsz (by omega) (by omega) hnf hkd s2 s3 hsh ha' hr
    · by_cases ha : 2 * sz < 8
      · exact (makeIn22_taken_a g b o len (cap + 1) c v sz w hg hb s2 c2 (fz 2) c3 (fz 3) hsz ha).mono fun e w' ⟨he, hr⟩ => ⟨_, _, he, got_more2 hFg hrow h8 (by omega) hnf hkd hr⟩
      · by_cases hb2 : 2 * sz ≤ 128
        · obtain ⟨m, hm⟩ : ∃ m, 2 * sz = m + 1 := ⟨2 * sz - 1, by omega⟩
          exact (makeIn22_taken_b g b o len (cap + 1) c m v sz w hg hb s2 c2 (fz 2) c3 (fz 3) hsz (by omega) hb2 hm).mono fun e w' ⟨he, hr⟩ => ⟨_, _, he, got_more2 hFg hrow h8 (by omega) hnf hkd hr⟩
        · exact (makeIn22_taken_c g b o len (cap + 1) c v sz w hg hb s2 c2 (fz 2) c3 (fz 3) hsz (by omega)).mono fun e w' ⟨he, hr⟩ => ⟨_, _, he, got_more2 hFg hrow h8 (by omega) hnf hkd hr⟩

theorem mk_block2 {w w' : World} {g F : Nat} (hg : w'.heap[g]? = w.heap[g]?) (h : MkOk2 w g F) (hb : ∀ b o, Shape w b o → Shape w' b o) : MkOk2 w' g F := by
  obtain ⟨cs, T, a, len, cap, sz, hrow, h8, h2, h3, hsz, hlc, hcap, hnf, hkd, hfree⟩ := h
  refine ⟨cs, T, a, len, cap, sz, hg.trans hrow, h8, h2, h3, hsz, hlc, hcap, hnf, hkd, fun hl => ?_⟩
  obtain ⟨b, o, ha, hF, hs⟩ := hfree hl
  exact ⟨b, o, ha, hF, fun j hj => hb _ _ (hs j hj)⟩

/-- What a step of the law leaves: every value made, every cell of a Maker's memory; the blocks below F; the blocks without floats but those excepted. -/
structure Stp (w w' : World) (F : Nat) (ex : Nat → Prop) : Prop where
  os : w'.os = w.os
  tape : w'.tape = w.tape
  output : w'.output = w.output
  size : w.heap.size ≤ w'.heap.size
  held : ∀ b o y, Held w b o y → Held w' b o y
  shape : ∀ b o, Shape w b o → Shape w' b o
  low : ∀ k, k < F → w'.heap[k]? = w.heap[k]?
  plain : ∀ k, k < w.heap.size → ¬ ex k → NoF w k → w'.heap[k]? = w.heap[k]?

theorem Stp.trans {w w1 w2 : World} {F : Nat} {e1 e2 : Nat → Prop} (h1 : Stp w w1 F e1) (h2 : Stp w1 w2 F e2) : Stp w w2 F (fun k => e1 k ∨ e2 k) :=
  ⟨h2.os.trans h1.os, h2.tape.trans h1.tape, h2.output.trans h1.output, Nat.le_trans h1.size h2.size, fun b o y h => h2.held b o y (h1.held b o y h), fun b o h => h2.shape b o (h1.shape b o h), fun k hk => (h2.low k hk).trans (h1.low k hk),
    fun k hk he hn => (h2.plain k (Nat.lt_of_lt_of_le hk h1.size) (fun h => he (Or.inr h)) (NoF.block (h1.plain k hk (fun h => he (Or.inl h)) hn) hn)).trans (h1.plain k hk (fun h => he (Or.inl h)) hn)⟩
theorem Stp.of_below {w w' : World} {F : Nat} (hF : F ≤ w.heap.size) (h : Below w.heap.size w w') : Stp w w' F (fun _ => False) :=
  ⟨h.os, h.tape, h.output, h.size, fun b _ _ hh => held_block (h.block b (held_lt hh)) hh, fun b _ hh => shape_block (h.block b (shape_lt hh)) hh, fun k hk => h.block k (by omega), fun k hk _ _ => h.block k hk⟩
theorem Got2.stp {w w' : World} {g F b o y : Nat} (h : Got2 w w' g F b o y) : Stp w w' F (fun k => k = g) :=
  ⟨h.os, h.tape, h.output, h.size, h.held, h.shape, h.low, fun k hk he hn => h.plain k hk he hn⟩
theorem Stp.maker {w w' : World} {F g : Nat} {ex : Nat → Prop} (h : Stp w w' F ex) (hm : MkOk2 w g F) (he : ¬ ex g) : MkOk2 w' g F := mk_block2 (h.plain g hm.lt he hm.noF) hm h.shape

/-- A cell set in a block without floats, to no float. -/
theorem Stp.set {w : World} {F k j : Nat} {v : Value} (hk : F ≤ k) (hn : NoF w k) : Stp w (w.setCell ⟨k, j, none⟩ v) F (fun x => x = k) := by
  have e : ∀ x, x ≠ k → (w.setCell ⟨k, j, none⟩ v).heap[x]? = w.heap[x]? := fun x hx => Below.heap_setCell w _ _ x hx
  exact ⟨rfl, rfl, rfl, by rw [setSize]; exact Nat.le_refl _, fun b _ _ hh => held_block (e b (hn.neH hh)) hh, fun b _ hh => shape_block (e b (hn.ne hh)) hh, fun x hx => e x (by omega), fun x _ he _ => e x he⟩
theorem Stp.alloc {w : World} {F : Nat} (x : Obj) (hF : F ≤ w.heap.size) : Stp w (w.alloc x) F (fun _ => False) := Stp.of_below hF ((Below.refl _ _).alloc (Nat.le_refl _) x)

/-- The caller's result in a block of its own, ahead of the call and behind it. -/
theorem got_wrap2 {w w4 : World} {g F b o y : Nat} {a : Option Addr} (hg : g < w.heap.size) (hF : F ≤ w.heap.size) (h : Got2 (w.alloc (.cells #[.pointer none] 43)) w4 g F b o y) :
    w4.heap[w.heap.size]? = some (.cells #[.pointer none] 43 (0, 0)) ∧ Got2 w (w4.setCell ⟨w.heap.size, 0, none⟩ (.pointer a)) g F b o y := by
  have hn : (w.alloc (.cells #[.pointer none] 43)).heap[w.heap.size]? = some (.cells #[.pointer none] 43 (0, 0)) := heap_alloc_new w _
  have nf : ∀ (j y : Nat), (#[Value.pointer none] : Array Value)[j]? ≠ some (Value.float .f64 y) := fun j y => by
    cases j with
    | zero => simp
    | succ j => simp
  have e : w4.heap[w.heap.size]? = some (.cells #[.pointer none] 43 (0, 0)) := (h.plain _ (by simp) (by omega) (noF_row hn nf)).trans hn
  have hnf := noF_row e nf
  have st := ((Stp.alloc (.cells #[.pointer none] 43) hF).trans h.stp).trans (Stp.set (j := 0) (v := .pointer a) hF hnf)
  have s3 := Stp.set (j := 0) (v := .pointer a) hF hnf
  refine ⟨e, st.os, st.tape, st.output, st.size, st.held, st.shape, s3.held _ _ _ h.it, fun k hk hkg hk' => st.plain k hk (fun hh => ?_) hk', st.low, h.at', s3.maker h.maker (by omega)⟩
  rcases hh with (hh | hh) | hh
  · exact hh
  · exact hkg hh
  · omega

set_option maxRecDepth 100000 in
set_option maxHeartbeats 1600000 in
theorem number8_fin2 (g F x : Nat) (w : World) (hx : x < 18446744073709551616) (hf : Fl.fin x = true) (hFg : F ≤ g) (hmk : MkOk2 w g F) :
    Calls Try.prog 8 #[.pointer (some ⟨g, 0, none⟩), .float .f64 x] w fun e w' => ∃ b o, e = .returned (.tuple #[.agg #[.pointer (some ⟨b, o, none⟩)], .bool true]) ∧ Got2 w w' g F b o (Fl.norm x) := by
  have hg := hmk.lt
  have HM : Hid (MkOk2 (w.alloc (.cells #[.pointer none] 43)) g F) := (Stp.alloc _ (by omega)).maker hmk (fun h => h)
  clear hmk
  go_enter Try.func8, Try.ntmps8
  go_wp2_with fail
  refine (numberOf21_fin x hx hf _).mono ?_
  rintro e w3 ⟨rfl, hw⟩
  rw [hw]
  clear hw
  go_wp2_with fail
  refine (makeIn22_any2 g F (Fl.norm x) _ hFg HM.out).mono ?_
  rintro e w4 ⟨b, o, rfl, hgot⟩
  obtain ⟨hres, hgo⟩ := got_wrap2 (a := some ⟨b, o, none⟩) hg (by omega) hgot
  have HG := show Hid _ from hgo
  have r0 : w4.cell? ⟨w.heap.size, 0, none⟩ = some (.pointer none) := cell_of_row _ _ _ _ _ _ hres
  have rf : w4.frozen? ⟨w.heap.size, 0, none⟩ = false := by simp [World.frozen?, hres]
  clear hgot hres hgo
  go_wp2
  exact bodyPost_ret (v := .tuple #[.agg #[.pointer (some ⟨b, o, none⟩)], .bool true]) (by simp [results, Try.results8, go_sem, r0]) rfl ⟨b, o, rfl, HG.out⟩

end Go.Proofs.Qxb6614646a
