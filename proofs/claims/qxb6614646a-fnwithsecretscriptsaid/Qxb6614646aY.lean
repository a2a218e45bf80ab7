/-
  ZZWithDeps, ZZDeps; the state of the script of FnWithSecretScript.
-/
import Derived.Test.Qxb6614646aV
namespace Go.Proofs.Qxb6614646a
open Go.RowKit

/-- A block that bears one pointer, and nothing else: what else lies in memory outlives a store there. -/
theorem far_ptr {w : World} {r : Nat} {z : Option Addr} {T : TypeId} (hr : w.heap[r]? = some (.cells #[.pointer z] T (0, 0))) (u : Value) : ∀ k j v, w.cell? ⟨k, j, none⟩ = some v → (∀ q, v ≠ .pointer q) → (w.setCell ⟨r, 0, none⟩ u).heap[k]? = w.heap[k]? := by
  intro k j v hc hv
  refine Below.heap_setCell _ _ _ _ ?_
  intro hk
  dsimp only at hk
  subst hk
  rw [cell_of_row _ _ _ _ _ _ hr] at hc
  cases j with
  | zero => simp at hc; exact hv z hc.symm
  | succ j => simp at hc

theorem PlainV.set {w : World} {r : Nat} {z a : Option Addr} {T : TypeId} (h : PlainV w a) (hr : w.heap[r]? = some (.cells #[.pointer z] T (0, 0))) (u : Value) : PlainV (w.setCell ⟨r, 0, none⟩ u) a := by
  rcases h with h | ⟨b, o, v, e1, e2⟩
  · exact Or.inl h
  · exact Or.inr ⟨b, o, v, e1, (World.cell?_of_block (w := w) (a := ⟨b, o, none⟩) (far_ptr hr u b o _ e2 (fun q e => by cases e))).trans e2⟩

theorem Vl.set {w : World} {r : Nat} {z a p d : Option Addr} {s : Bool} {T : TypeId} (h : Vl w a p s d) (hr : w.heap[r]? = some (.cells #[.pointer z] T (0, 0))) (u : Value) : Vl (w.setCell ⟨r, 0, none⟩ u) a p s d := by
  rcases h with ⟨hpl, h2⟩ | ⟨m, h1, h2⟩
  · exact Or.inl ⟨hpl.set hr u, h2⟩
  · have e : ∀ j, (w.setCell ⟨r, 0, none⟩ u).cell? ⟨m, j, none⟩ = w.cell? ⟨m, j, none⟩ := fun j => World.cell?_of_block (w := w) (a := ⟨m, j, none⟩) (far_ptr hr u m 0 _ h2.1 (fun q e => by cases e))
    exact Or.inr ⟨m, h1, (e 0).trans h2.1, (e 1).trans h2.2.1, (e 2).trans h2.2.2.1, (e 3).trans h2.2.2.2⟩

theorem isVal_set {w : World} {r F x : Nat} {z a : Option Addr} {T : TypeId} (h : IsVal w F a x) (hr : w.heap[r]? = some (.cells #[.pointer z] T (0, 0))) (u : Value) : IsVal (w.setCell ⟨r, 0, none⟩ u) F a x := by
  rcases h with h | ⟨h1, b, o, h2, h3, h4⟩
  · exact Or.inl h
  · exact Or.inr ⟨h1, b, o, h2, h3, held_block (far_ptr hr u b o _ h4.2.1 (fun q e => by cases e)) h4⟩

/-- A slice of bools, as the walk is told. -/
def IsBools (w : World) (a : Option Addr) (n : Nat) (B : Nat → Bool) : Prop := n ≤ maxLen ∧ (0 < n → ∃ b o, a = some ⟨b, o, none⟩ ∧ b < w.heap.size ∧ ∀ j, j < n → w.cell? ⟨b, o + j, none⟩ = some (.bool (B j)))

theorem IsStrs.below {w w' : World} {B n : Nat} {a : Option Addr} {U : Nat → ByteArray} (h : IsStrs w a n U) (hb : Below B w w') (hB : w.heap.size ≤ B) : IsStrs w' a n U := by
  obtain ⟨h1, h2, h3⟩ := h
  refine ⟨h1, h2, fun hn => ?_⟩
  obtain ⟨b, o, e1, e2, e3⟩ := h3 hn
  exact ⟨b, o, e1, by have := hb.size; omega, fun j hj => (hb.cell (p := ⟨b, o + j, none⟩) (Nat.lt_of_lt_of_le e2 hB)).trans (e3 j hj)⟩
theorem IsBools.below {w w' : World} {N n : Nat} {a : Option Addr} {B : Nat → Bool} (h : IsBools w a n B) (hb : Below N w w') (hB : w.heap.size ≤ N) : IsBools w' a n B := by
  obtain ⟨h1, h3⟩ := h
  refine ⟨h1, fun hn => ?_⟩
  obtain ⟨b, o, e1, e2, e3⟩ := h3 hn
  exact ⟨b, o, e1, by have := hb.size; omega, fun j hj => (hb.cell (p := ⟨b, o + j, none⟩) (Nat.lt_of_lt_of_le e2 hB)).trans (e3 j hj)⟩
theorem IsStrs.set {w : World} {r n : Nat} {z a : Option Addr} {T : TypeId} {U : Nat → ByteArray} (h : IsStrs w a n U) (hr : w.heap[r]? = some (.cells #[.pointer z] T (0, 0))) (u : Value) : IsStrs (w.setCell ⟨r, 0, none⟩ u) a n U := by
  obtain ⟨h1, h2, h3⟩ := h
  refine ⟨h1, h2, fun hn => ?_⟩
  obtain ⟨b, o, e1, e2, e3⟩ := h3 hn
  exact ⟨b, o, e1, by rw [setSize]; exact e2, fun j hj => (World.cell?_of_block (w := w) (a := ⟨b, o + j, none⟩) (far_ptr hr u b _ _ (e3 j hj) (fun q e => by cases e))).trans (e3 j hj)⟩
theorem IsBools.set {w : World} {r n : Nat} {z a : Option Addr} {T : TypeId} {B : Nat → Bool} (h : IsBools w a n B) (hr : w.heap[r]? = some (.cells #[.pointer z] T (0, 0))) (u : Value) : IsBools (w.setCell ⟨r, 0, none⟩ u) a n B := by
  obtain ⟨h1, h3⟩ := h
  refine ⟨h1, fun hn => ?_⟩
  obtain ⟨b, o, e1, e2, e3⟩ := h3 hn
  exact ⟨b, o, e1, by rw [setSize]; exact e2, fun j hj => (World.cell?_of_block (w := w) (a := ⟨b, o + j, none⟩) (far_ptr hr u b _ _ (e3 j hj) (fun q e => by cases e))).trans (e3 j hj)⟩

theorem IsStrs.at {w : World} {n b o k : Nat} {U : Nat → ByteArray} (h : IsStrs w (some ⟨b, o, none⟩) n U) (hk : k < n) : w.cell? ⟨b, o + k, none⟩ = some (.string (U k)) := by
  obtain ⟨b', o', e, _, h3⟩ := h.2.2 (by omega)
  simp at e
  obtain ⟨rfl, rfl⟩ := e
  exact h3 k hk
theorem IsBools.at {w : World} {n b o k : Nat} {B : Nat → Bool} (h : IsBools w (some ⟨b, o, none⟩) n B) (hk : k < n) : w.cell? ⟨b, o + k, none⟩ = some (.bool (B k)) := by
  obtain ⟨b', o', e, _, h3⟩ := h.2 (by omega)
  simp at e
  obtain ⟨rfl, rfl⟩ := e
  exact h3 k hk

/-- What the value depends on: nothing where the list is empty, else a block that holds a copy of the list. -/
def IsDeps (w : World) (d : Option Addr) (n : Nat) (U : Nat → ByteArray) : Prop := (n = 0 ∧ d = none) ∨ (0 < n ∧ ∃ g c cp, d = some ⟨g, 0, none⟩ ∧ w.cell? ⟨g, 0, none⟩ = some (.slice cp n c) ∧ IsStrs w cp n U)
theorem IsDeps.below {w w' : World} {B n : Nat} {d : Option Addr} {U : Nat → ByteArray} (h : IsDeps w d n U) (hb : Below B w w') (hB : w.heap.size ≤ B) : IsDeps w' d n U := by
  rcases h with h | ⟨hn, g, c, cp, e1, e2, e3⟩
  · exact Or.inl h
  · exact Or.inr ⟨hn, g, c, cp, e1, (hb.cell (p := ⟨g, 0, none⟩) (Nat.lt_of_lt_of_le (lt_of_cell e2) hB)).trans e2, e3.below hb hB⟩
theorem IsDeps.set {w : World} {r n : Nat} {z d : Option Addr} {T : TypeId} {U : Nat → ByteArray} (h : IsDeps w d n U) (hr : w.heap[r]? = some (.cells #[.pointer z] T (0, 0))) (u : Value) : IsDeps (w.setCell ⟨r, 0, none⟩ u) d n U := by
  rcases h with h | ⟨hn, g, c, cp, e1, e2, e3⟩
  · exact Or.inl h
  · exact Or.inr ⟨hn, g, c, cp, e1, (World.cell?_of_block (w := w) (a := ⟨g, 0, none⟩) (far_ptr hr u g 0 _ e2 (fun q e => by cases e))).trans e2, e3.set hr u⟩

set_option maxRecDepth 100000 in
set_option maxHeartbeats 400000 in
theorem withDeps14_any (a q : Option Addr) (n c : Nat) (w : World) (hp : PlainV w a) :
    Calls Try.prog 14 #[.agg #[.pointer a], .slice q n c] w fun e w' => ∃ a' g, e = .returned (.agg #[.pointer a']) ∧ Vl w' a' a false (some ⟨g, 0, none⟩) ∧ w'.cell? ⟨g, 0, none⟩ = some (.slice q n c) ∧ Below w.heap.size w w' := by
  have hb0 : Below w.heap.size w (((w.alloc (.cells #[.pointer a] 43)).alloc (.cells #[.pointer none] 43)).alloc (.cells #[.slice q n c] 71)) := (((Below.refl w.heap.size w).alloc (Nat.le_refl _) _).alloc (by simp) _).alloc (by simp; omega) _
  have HP : Hid (PlainV (((w.alloc (.cells #[.pointer a] 43)).alloc (.cells #[.pointer none] 43)).alloc (.cells #[.slice q n c] 71)) a) := hp.below hb0 (Nat.le_refl _)
  have HB0 : Hid (Below w.heap.size w (((w.alloc (.cells #[.pointer a] 43)).alloc (.cells #[.pointer none] 43)).alloc (.cells #[.slice q n c] 71))) := hb0
  have HR : Hid ((((w.alloc (.cells #[.pointer a] 43)).alloc (.cells #[.pointer none] 43)).alloc (.cells #[.slice q n c] 71)).heap[w.heap.size + 1]? = some (.cells #[.pointer none] 43 (0, 0))) := (Below.heap_alloc _ _ _ (by simp)).trans (heap_alloc_at _ _ _ (by simp))
  have HQ : Hid ((((w.alloc (.cells #[.pointer a] 43)).alloc (.cells #[.pointer none] 43)).alloc (.cells #[.slice q n c] 71)).heap[w.heap.size + 1 + 1]? = some (.cells #[.slice q n c] 71 (0, 0))) := heap_alloc_at _ _ _ (by simp)
  have hs4 : (((w.alloc (.cells #[.pointer a] 43)).alloc (.cells #[.pointer none] 43)).alloc (.cells #[.slice q n c] 71)).heap.size = w.heap.size + 3 := by simp
  clear hp hb0
  go_enter Try.func14, Try.ntmps14
  go_wp2_with fail
  generalize (((w.alloc (.cells #[.pointer a] 43)).alloc (.cells #[.pointer none] 43)).alloc (.cells #[.slice q n c] 71)) = w1 at *
  refine (withMarks24_any a (some ⟨w.heap.size + 1 + 1, 0, none⟩) false w1 HP.out).mono ?_
  rintro e w7 ⟨a', rfl, hv, _, hb⟩
  have r7 : w7.heap[w.heap.size + 1]? = some (.cells #[.pointer none] 43 (0, 0)) := (hb.block (w.heap.size + 1) (by omega)).trans HR.out
  have q7 : w7.heap[w.heap.size + 1 + 1]? = some (.cells #[.slice q n c] 71 (0, 0)) := (hb.block (w.heap.size + 1 + 1) (by omega)).trans HQ.out
  have r0 : w7.cell? ⟨w.heap.size + 1, 0, none⟩ = some (.pointer none) := cell_of_row _ _ _ _ _ _ r7
  have rf : w7.frozen? ⟨w.heap.size + 1, 0, none⟩ = false := by simp [World.frozen?, r7]
  have HB : Hid (Below w.heap.size w w7) := HB0.out.trans (hb.mono (by omega))
  have HV : Hid (∀ u, Vl (w7.setCell ⟨w.heap.size + 1, 0, none⟩ u) a' a false (some ⟨w.heap.size + 1 + 1, 0, none⟩) ∧ (w7.setCell ⟨w.heap.size + 1, 0, none⟩ u).cell? ⟨w.heap.size + 1 + 1, 0, none⟩ = some (.slice q n c)) := fun u => ⟨hv.set r7 u, cell_of_row _ _ _ _ _ _ ((Below.heap_setCell _ _ _ _ (by dsimp only; omega)).trans q7)⟩
  clear hv hb r7 q7 HR HQ HB0 HP
  go_wp2
  exact bodyPost_ret (v := .agg #[.pointer a']) (by simp [results, Try.results14, go_sem, r0]) rfl ⟨a', _, rfl, (HV.out _).1, (HV.out _).2, HB.out.setCell (by dsimp only; omega) _⟩

set_option maxRecDepth 100000 in
set_option maxHeartbeats 400000 in
theorem deps19_none (a p : Option Addr) (s : Bool) (w : World) (h : Vl w a p s none) : Calls Try.prog 19 #[.agg #[.pointer a]] w fun e w' => e = .returned (.slice none 0 0) ∧ Below w.heap.size w w' := by
  have HV : Hid (Vl (w.alloc (.cells #[.pointer a] 43)) a p s none) := h.below ((Below.refl w.heap.size w).alloc (Nat.le_refl _) _) (Nat.le_refl _)
  clear h
  go_enter Try.func19, Try.ntmps19
  go_wp2_with fail
  refine (marks25_any a p none s _ HV.out).mono ?_
  rintro e w3 ⟨rfl, hb⟩
  have HB : Hid (Below w.heap.size w w3) := ((Below.refl _ _).alloc (Nat.le_refl _) _).trans (hb.mono (by simp))
  clear hb HV
  go_wp2
  go_ret
  exact ⟨rfl, HB.out⟩

set_option maxRecDepth 100000 in
set_option maxHeartbeats 400000 in
theorem deps19_some (a p q : Option Addr) (s : Bool) (g n c : Nat) (w : World) (h : Vl w a p s (some ⟨g, 0, none⟩)) (hc : w.cell? ⟨g, 0, none⟩ = some (.slice q n c)) : Calls Try.prog 19 #[.agg #[.pointer a]] w fun e w' => e = .returned (.slice q n c) ∧ Below w.heap.size w w' := by
  have hb0 : Below w.heap.size w (w.alloc (.cells #[.pointer a] 43)) := (Below.refl w.heap.size w).alloc (Nat.le_refl _) _
  have HV : Hid (Vl (w.alloc (.cells #[.pointer a] 43)) a p s (some ⟨g, 0, none⟩)) := h.below hb0 (Nat.le_refl _)
  have HC : Hid ((w.alloc (.cells #[.pointer a] 43)).cell? ⟨g, 0, none⟩ = some (.slice q n c)) := (hb0.cell (p := ⟨g, 0, none⟩) (lt_of_cell hc)).trans hc
  clear h hb0 hc
  go_enter Try.func19, Try.ntmps19
  go_wp2_with fail
  refine (marks25_any a p (some ⟨g, 0, none⟩) s _ HV.out).mono ?_
  rintro e w3 ⟨rfl, hb⟩
  have HB : Hid (Below w.heap.size w w3) := ((Below.refl _ _).alloc (Nat.le_refl _) _).trans (hb.mono (by simp))
  have c3 : w3.cell? ⟨g, 0, none⟩ = some (.slice q n c) := (hb.cell (p := ⟨g, 0, none⟩) (lt_of_cell HC.out)).trans HC.out
  clear hb HV HC
  go_wp2
  go_ret
  exact ⟨rfl, HB.out⟩

/-- The state of the script: the value's pointer a' lies at g; it is the plain value a with the secret marker s. -/
structure S5 (w wr : World) (x n m : Nat) (sa sb d : Option Addr) (U : Nat → ByteArray) (B : Nat → Bool) (g : Nat) (a a' : Option Addr) (s : Bool) : Prop where
  su : IsStrs wr sa n U
  sb : IsBools wr sb m B
  i : IsVal wr 0 a x
  v : Vl wr a' a s d
  c : wr.heap[g]? = some (.cells #[.pointer a'] 43 (0, 0))
  d : IsDeps wr d n U
  lo : w.heap.size ≤ g
  below : Below w.heap.size w wr

theorem S5.lt {w wr : World} {x n m : Nat} {sa sb d : Option Addr} {U : Nat → ByteArray} {B : Nat → Bool} {g : Nat} {a a' : Option Addr} {s : Bool} (h : S5 w wr x n m sa sb d U B g a a' s) : g < wr.heap.size := (Array.getElem?_eq_some_iff.1 h.c).1
theorem S5.cell {w wr : World} {x n m : Nat} {sa sb d : Option Addr} {U : Nat → ByteArray} {B : Nat → Bool} {g : Nat} {a a' : Option Addr} {s : Bool} (h : S5 w wr x n m sa sb d U B g a a' s) : wr.cell? ⟨g, 0, none⟩ = some (.pointer a') := cell_of_row _ _ _ _ _ _ h.c
theorem S5.froz {w wr : World} {x n m : Nat} {sa sb d : Option Addr} {U : Nat → ByteArray} {B : Nat → Bool} {g : Nat} {a a' : Option Addr} {s : Bool} (h : S5 w wr x n m sa sb d U B g a a' s) : wr.frozen? ⟨g, 0, none⟩ = false := by simp [World.frozen?, h.c]
theorem S5.next {w wr w' : World} {x n m : Nat} {sa sb d : Option Addr} {U : Nat → ByteArray} {B : Nat → Bool} {g : Nat} {a a' : Option Addr} {s : Bool} (h : S5 w wr x n m sa sb d U B g a a' s) (hb : Below wr.heap.size wr w') : S5 w w' x n m sa sb d U B g a a' s :=
  ⟨h.su.below hb (Nat.le_refl _), h.sb.below hb (Nat.le_refl _), isVal_below h.i hb (Nat.le_refl _), h.v.below hb (Nat.le_refl _), (hb.block g h.lt).trans h.c, h.d.below hb (Nat.le_refl _), h.lo, h.below.trans (hb.mono h.below.size)⟩
theorem S5.nextD {w wr v w' : World} {x n m : Nat} {sa sb d : Option Addr} {U : Nat → ByteArray} {B : Nat → Bool} {g : Nat} {a a' : Option Addr} {s : Bool} (h : S5 w wr x n m sa sb d U B g a a' s) (hb : Below v.heap.size v w') (e : Below wr.heap.size wr v) : S5 w w' x n m sa sb d U B g a a' s :=
  h.next (e.trans (hb.mono e.size))
/-- The step's new value is stored. -/
theorem S5.put {w wr : World} {x n m : Nat} {sa sb d : Option Addr} {U : Nat → ByteArray} {B : Nat → Bool} {g : Nat} {a a' b' : Option Addr} {s t : Bool} (h : S5 w wr x n m sa sb d U B g a a' s) (hv : Vl wr b' a t d) : S5 w (wr.setCell ⟨g, 0, none⟩ (.pointer b')) x n m sa sb d U B g a b' t :=
  ⟨h.su.set h.c _, h.sb.set h.c _, isVal_set h.i h.c _, hv.set h.c _, blk_set _ h.c, h.d.set h.c _, h.lo, h.below.setCell (by exact h.lo) _⟩

/-- The value's cell takes its first value. -/
theorem S5.start {w wr : World} {x n m : Nat} {sa sb d : Option Addr} {U : Nat → ByteArray} {B : Nat → Bool} {g : Nat} {a z b' : Option Addr} {t : Bool} (su : IsStrs wr sa n U) (hsb : IsBools wr sb m B) (i : IsVal wr 0 a x) (hv : Vl wr b' a t d) (c : wr.heap[g]? = some (.cells #[.pointer z] 43 (0, 0))) (hd : IsDeps wr d n U) (lo : w.heap.size ≤ g) (below : Below w.heap.size w wr) : S5 w (wr.setCell ⟨g, 0, none⟩ (.pointer b')) x n m sa sb d U B g a b' t :=
  ⟨su.set c _, hsb.set c _, isVal_set i c _, hv.set c _, blk_set _ c, hd.set c _, lo, below.setCell (by exact lo) _⟩

/-- The copy of the list: k strings are laid. -/
structure C5 (w wr : World) (cb n k : Nat) (U : Nat → ByteArray) : Prop where
  row : ∃ cs : Array Value, wr.heap[cb]? = some (.cells cs 9 (0, 0)) ∧ cs.size = n ∧ ∀ j, j < k → cs[j]? = some (.string (U j))
  lo : w.heap.size ≤ cb
  below : Below w.heap.size w wr
theorem C5.next {w wr : World} {cb n k : Nat} {U : Nat → ByteArray} (h : C5 w wr cb n k U) (hk : k < n) : C5 w (wr.setCell ⟨cb, k, none⟩ (.string (U k))) cb n (k + 1) U := by
  obtain ⟨cs, r1, r2, r3⟩ := h.row
  refine ⟨⟨cs.setIfInBounds k (.string (U k)), blk_set _ r1, by simpa using r2, fun j hj => ?_⟩, h.lo, h.below.setCell (by exact h.lo) _⟩
  rw [Array.getElem?_setIfInBounds]
  by_cases e : j = k
  · subst e
    rw [if_pos rfl, if_pos (by omega)]
  · rw [if_neg (Ne.symm e)]
    exact r3 j (by omega)
theorem C5.strs {w wr : World} {cb n : Nat} {U : Nat → ByteArray} (h : C5 w wr cb n n U) (h1 : n ≤ maxLen) (h2 : ∀ j, j < n → (U j).size ≤ maxLen) : IsStrs wr (some ⟨cb, 0, none⟩) n U := by
  obtain ⟨cs, r1, r2, r3⟩ := h.row
  refine ⟨h1, h2, fun _ => ⟨cb, 0, rfl, (Array.getElem?_eq_some_iff.1 r1).1, fun j hj => ?_⟩⟩
  rw [cell_of_row _ _ _ _ _ _ r1, Nat.zero_add]
  exact r3 j hj

end Go.Proofs.Qxb6614646a
