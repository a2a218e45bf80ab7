/-
  The walk of FnLeastInTwoStepsIsLeastInOne: the pieces.
-/
import Derived.Test.Qxb6614502aV
namespace Go.Proofs.Qxb6614502a
open Go.RowKit

/-- The six words of a rating lie at block g. -/
def AtR (w : World) (g : Nat) (V U : Nat → Nat) : Prop := w.cell? ⟨g, 0, none⟩ = some (.int .u64 (V 0 : Nat)) ∧ w.cell? ⟨g, 1, none⟩ = some (.int .u64 (V 1 : Nat)) ∧ w.cell? ⟨g, 2, none⟩ = some (.int .u64 (V 2 : Nat)) ∧ w.cell? ⟨g, 3, none⟩ = some (.int .u64 (U 0 : Nat)) ∧ w.cell? ⟨g, 4, none⟩ = some (.int .u64 (U 1 : Nat)) ∧ w.cell? ⟨g, 5, none⟩ = some (.int .u64 (U 2 : Nat))
theorem atR_other {x : World} {g : Nat} {V U : Nat → Nat} (p : Addr) (y : Value) (h : AtR x g V U) (hp : p.block ≠ g) : AtR (x.setCell p y) g V U := by
  unfold AtR at h ⊢
  have e : ∀ j, (x.setCell p y).cell? ⟨g, j, none⟩ = x.cell? ⟨g, j, none⟩ := fun j => World.cell?_of_block (w := x) (a := ⟨g, j, none⟩) (Below.heap_setCell x p y g (Ne.symm hp))
  simp only [e]
  exact h
theorem atR_below {B : Nat} {x x' : World} {g : Nat} {V U : Nat → Nat} (hb : Below B x x') (h : AtR x g V U) (hg : g < B) : AtR x' g V U := by
  unfold AtR at h ⊢
  rw [hb.cell (by simp; omega), hb.cell (by simp; omega), hb.cell (by simp; omega), hb.cell (by simp; omega), hb.cell (by simp; omega), hb.cell (by simp; omega)]
  exact h
theorem atR_alloc {x : World} {g : Nat} {V U : Nat → Nat} (o : Obj) (h : AtR x g V U) (hg : g < x.heap.size) : AtR (x.alloc o) g V U :=
  atR_below ((Below.refl x.heap.size x).alloc (Nat.le_refl _) o) h hg
theorem atR_of {x : World} {g : Nat} {V U : Nat → Nat} {T : TypeId} (e : x.heap[g]? = some (.cells #[.int .u64 (V 0 : Nat), .int .u64 (V 1 : Nat), .int .u64 (V 2 : Nat), .int .u64 (U 0 : Nat), .int .u64 (U 1 : Nat), .int .u64 (U 2 : Nat)] T (0, 0))) : AtR x g V U :=
  ⟨cell_of_row _ _ _ _ _ _ e, cell_of_row _ _ _ _ _ _ e, cell_of_row _ _ _ _ _ _ e, cell_of_row _ _ _ _ _ _ e, cell_of_row _ _ _ _ _ _ e, cell_of_row _ _ _ _ _ _ e⟩
theorem atR_new {x : World} {g : Nat} {V U : Nat → Nat} (T : TypeId) (hg : x.heap.size = g) : AtR (x.alloc (.cells #[.int .u64 (V 0 : Nat), .int .u64 (V 1 : Nat), .int .u64 (V 2 : Nat), .int .u64 (U 0 : Nat), .int .u64 (U 1 : Nat), .int .u64 (U 2 : Nat)] T)) g V U :=
  atR_of (T := T) (heap_alloc_at x _ g hg)
theorem atR_six {x : World} {g : Nat} {V U : Nat → Nat} (h0 : (x.cell? ⟨g, 0, none⟩).isSome = true) (h1 : (x.cell? ⟨g, 1, none⟩).isSome = true) (h2 : (x.cell? ⟨g, 2, none⟩).isSome = true) (h3 : (x.cell? ⟨g, 3, none⟩).isSome = true) (h4 : (x.cell? ⟨g, 4, none⟩).isSome = true) (h5 : (x.cell? ⟨g, 5, none⟩).isSome = true) :
    AtR ((((((x.setCell ⟨g, 0, none⟩ (.int .u64 (V 0 : Nat))).setCell ⟨g, 1, none⟩ (.int .u64 (V 1 : Nat))).setCell ⟨g, 2, none⟩ (.int .u64 (V 2 : Nat))).setCell ⟨g, 3, none⟩ (.int .u64 (U 0 : Nat))).setCell ⟨g, 4, none⟩ (.int .u64 (U 1 : Nat))).setCell ⟨g, 5, none⟩ (.int .u64 (U 2 : Nat))) g V U := by
  refine ⟨?_, ?_, ?_, ?_, ?_, ?_⟩
  · rw [cell_off _ (by decide), cell_off _ (by decide), cell_off _ (by decide), cell_off _ (by decide), cell_off _ (by decide)]; exact cell_set _ h0
  · rw [cell_off _ (by decide), cell_off _ (by decide), cell_off _ (by decide), cell_off _ (by decide)]; exact cell_set _ (some_set _ _ h1)
  · rw [cell_off _ (by decide), cell_off _ (by decide), cell_off _ (by decide)]; exact cell_set _ (some_set _ _ (some_set _ _ h2))
  · rw [cell_off _ (by decide), cell_off _ (by decide)]; exact cell_set _ (some_set _ _ (some_set _ _ (some_set _ _ h3)))
  · rw [cell_off _ (by decide)]; exact cell_set _ (some_set _ _ (some_set _ _ (some_set _ _ (some_set _ _ h4))))
  · exact cell_set _ (some_set _ _ (some_set _ _ (some_set _ _ (some_set _ _ (some_set _ _ h5)))))

/-- What the drawn region of the two calls reads: the quality at p, the rating at g. -/
def S7 (p : Nat) (q : Value) (g : Nat) (v u : Nat → Nat) (w' : World) : Prop := w'.cell? ⟨p, 0, none⟩ = some q ∧ w'.cell? ⟨g, 0, none⟩ = some (.int .u64 (v 0 : Nat)) ∧ w'.cell? ⟨g, 1, none⟩ = some (.int .u64 (v 1 : Nat)) ∧ w'.cell? ⟨g, 2, none⟩ = some (.int .u64 (v 2 : Nat)) ∧ w'.cell? ⟨g, 3, none⟩ = some (.int .u64 (u 0 : Nat)) ∧ w'.cell? ⟨g, 4, none⟩ = some (.int .u64 (u 1 : Nat)) ∧ w'.cell? ⟨g, 5, none⟩ = some (.int .u64 (u 2 : Nat))
theorem s7_below {B p g : Nat} {q : Value} {v u : Nat → Nat} {x x' : World} (hb : Below B x x') (h : S7 p q g v u x) (hp : p < B) (hg : g < B) : S7 p q g v u x' := by
  unfold S7 at h ⊢
  rw [hb.cell (by simp; omega), hb.cell (by simp; omega), hb.cell (by simp; omega), hb.cell (by simp; omega), hb.cell (by simp; omega), hb.cell (by simp; omega), hb.cell (by simp; omega)]
  exact h
theorem s7_drew {p g : Nat} {q : Value} {v u : Nat → Nat} {x : World} (h : S7 p q g v u x) : S7 p q g v u x.drew := h
theorem s7_alloc {p g : Nat} {q : Value} {v u : Nat → Nat} {x : World} (o : Obj) (h : S7 p q g v u x) (hp : p < x.heap.size) (hg : g < x.heap.size) : S7 p q g v u (x.alloc o) :=
  s7_below ((Below.refl x.heap.size x).alloc (Nat.le_refl _) o) h hp hg
theorem s7_setCell {p g : Nat} {q : Value} {v u : Nat → Nat} {x : World} (a : Addr) (y : Value) (h : S7 p q g v u x) (hp : p < a.block) (hg : g < a.block) : S7 p q g v u (x.setCell a y) :=
  s7_below ((Below.refl a.block x).setCell (Nat.le_refl _) y) h hp hg

/-- What the last drawn region reads. -/
def S18 (g17 g21 g22 g19 g20 : Nat) (X Y : Nat → Nat) (w' : World) : Prop := w'.cell? ⟨g17, 0, none⟩ = some (.int .u64 (X 0 : Nat)) ∧ w'.cell? ⟨g17, 1, none⟩ = some (.int .u64 (X 1 : Nat)) ∧ w'.cell? ⟨g17, 2, none⟩ = some (.int .u64 (X 2 : Nat)) ∧ w'.cell? ⟨g17, 3, none⟩ = some (.int .u64 (Y 0 : Nat)) ∧ w'.cell? ⟨g17, 4, none⟩ = some (.int .u64 (Y 1 : Nat)) ∧ w'.cell? ⟨g17, 5, none⟩ = some (.int .u64 (Y 2 : Nat)) ∧ w'.cell? ⟨g21, 0, none⟩ = some (.int .u64 (X 0 : Nat)) ∧ w'.cell? ⟨g21, 1, none⟩ = some (.int .u64 (X 1 : Nat)) ∧ w'.cell? ⟨g21, 2, none⟩ = some (.int .u64 (X 2 : Nat)) ∧ w'.cell? ⟨g22, 0, none⟩ = some (.int .u64 (Y 0 : Nat)) ∧ w'.cell? ⟨g22, 1, none⟩ = some (.int .u64 (Y 1 : Nat)) ∧ w'.cell? ⟨g22, 2, none⟩ = some (.int .u64 (Y 2 : Nat)) ∧ w'.cell? ⟨g19, 0, none⟩ = some (.int .u64 (X 0 : Nat)) ∧ w'.cell? ⟨g19, 1, none⟩ = some (.int .u64 (X 1 : Nat)) ∧ w'.cell? ⟨g19, 2, none⟩ = some (.int .u64 (X 2 : Nat)) ∧ w'.cell? ⟨g20, 0, none⟩ = some (.int .u64 (Y 0 : Nat)) ∧ w'.cell? ⟨g20, 1, none⟩ = some (.int .u64 (Y 1 : Nat)) ∧ w'.cell? ⟨g20, 2, none⟩ = some (.int .u64 (Y 2 : Nat))
theorem s18_below {B g17 g21 g22 g19 g20 : Nat} {X Y : Nat → Nat} {x x' : World} (hb : Below B x x') (h : S18 g17 g21 g22 g19 g20 X Y x) (h1 : g17 < B) (h2 : g21 < B) (h3 : g22 < B) (h4 : g19 < B) (h5 : g20 < B) : S18 g17 g21 g22 g19 g20 X Y x' := by
  have e1 : ∀ j, x'.cell? ⟨g17, j, none⟩ = x.cell? ⟨g17, j, none⟩ := fun j => hb.cell (p := ⟨g17, j, none⟩) h1
  have e2 : ∀ j, x'.cell? ⟨g21, j, none⟩ = x.cell? ⟨g21, j, none⟩ := fun j => hb.cell (p := ⟨g21, j, none⟩) h2
  have e3 : ∀ j, x'.cell? ⟨g22, j, none⟩ = x.cell? ⟨g22, j, none⟩ := fun j => hb.cell (p := ⟨g22, j, none⟩) h3
  have e4 : ∀ j, x'.cell? ⟨g19, j, none⟩ = x.cell? ⟨g19, j, none⟩ := fun j => hb.cell (p := ⟨g19, j, none⟩) h4
  have e5 : ∀ j, x'.cell? ⟨g20, j, none⟩ = x.cell? ⟨g20, j, none⟩ := fun j => hb.cell (p := ⟨g20, j, none⟩) h5
  unfold S18 at h ⊢
  rw [e1, e1, e1, e1, e1, e1, e2, e2, e2, e3, e3, e3, e4, e4, e4, e5, e5, e5]
  exact h
theorem s18_drew {g17 g21 g22 g19 g20 : Nat} {X Y : Nat → Nat} {x : World} (h : S18 g17 g21 g22 g19 g20 X Y x) : S18 g17 g21 g22 g19 g20 X Y x.drew := h

theorem eqI3_self (x : Nat → Nat) : eqI3 (x 0 : Nat) (x 1 : Nat) (x 2 : Nat) (x 0 : Nat) (x 1 : Nat) (x 2 : Nat) = true := by simp [eqI3]

theorem blk_set3 {w : World} {g : Nat} {t : TypeId} {v : Nat → Nat} (n : Nat → Nat) (h : w.heap[g]? = some (.cells #[.int .u64 (v 0 : Nat), .int .u64 (v 1 : Nat), .int .u64 (v 2 : Nat)] t (0, 0))) :
    (((w.setCell ⟨g, 0, none⟩ (.int .u64 (n 0 : Nat))).setCell ⟨g, 1, none⟩ (.int .u64 (n 1 : Nat))).setCell ⟨g, 2, none⟩ (.int .u64 (n 2 : Nat))).heap[g]? = some (.cells #[.int .u64 (n 0 : Nat), .int .u64 (n 1 : Nat), .int .u64 (n 2 : Nat)] t (0, 0)) := blk_set _ (blk_set _ (blk_set _ h))

end Go.Proofs.Qxb6614502a
