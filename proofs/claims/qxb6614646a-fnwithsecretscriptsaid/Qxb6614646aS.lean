/-
  FnWithSecretUndoGivesSameValue: the walk.
-/
import Derived.Test.Qxb6614646aR
import Derived.Test.Qxb6614646aJ
namespace Go.Proofs.Qxb6614646a
open Go.RowKit

/-- The value's plain reading. -/
theorem isVal_plain {w : World} {F x : Nat} {a : Option Addr} (h : IsVal w F a x) : PlainV w a := by
  rcases h with ⟨_, h⟩ | ⟨_, b, o, h, _, hh⟩
  · exact Or.inl h
  · exact Or.inr ⟨b, o, _, h, hh.2.1⟩

/-- A zero Maker makes one float. -/
theorem number8_zero (x : Nat) (w : World) (hx : x < 18446744073709551616) :
    Calls Try.prog 8 #[.pointer (some ⟨w.heap.size, 0, none⟩), .float .f64 x] (w.alloc (.cells ZM 37)) fun e w' => ∃ a, e = .returned (.tuple #[.agg #[.pointer a], .bool (Fl.fin x)]) ∧ IsVal w' 0 a x ∧ Below w.heap.size w w' ∧ w.heap.size < w'.heap.size := by
  have hmk : MkOk (w.alloc (.cells ZM 37)) w.heap.size (w.heap.size + 1) := ⟨ZM, 37, none, 0, 0, 0, heap_alloc_new w _, rfl, rfl, rfl, by omega, by omega, by omega, fun h => by omega⟩
  cases hf : Fl.fin x with
  | true =>
    refine (number8_fin w.heap.size (w.heap.size + 1) x _ hx hf (by omega) (by simp) hmk).mono ?_
    rintro e w' ⟨b, o, rfl, hg⟩
    refine ⟨_, rfl, Or.inr ⟨hf, b, o, rfl, Nat.zero_le _, hg.it⟩, ⟨hg.os, hg.tape, hg.output, ?_, fun k hk => ?_⟩, ?_⟩
    · have := hg.size; rw [allocSize] at this; omega
    · rw [hg.block k (by omega) (by omega), Below.heap_alloc _ _ _ hk]
    · have := hg.size; rw [allocSize] at this; omega
  | false =>
    refine (number8_inf _ x _ hx hf).mono ?_
    rintro e w' ⟨rfl, hb⟩
    refine ⟨_, rfl, Or.inl ⟨hf, rfl⟩, ((Below.refl _ _).alloc (Nat.le_refl _) _).trans (hb.mono (by simp)), ?_⟩
    have := hb.size; rw [allocSize] at this; omega

theorem eq41 (a : Option Addr) (w : World) : (Op.equalIn 10000 41 (.pointer a) (.pointer a)).run Try.prog w = .ok true w := by
  have z := Try.sizeOf79
  cases a with
  | none => exact run_equalIn_pointer_nil w 9999 41 none (by kernel_rfl)
  | some a =>
    rw [show (10000 : Nat) = 9999 + 1 from rfl, Op.equalIn]
    simp only [Sem.run_bind, run_underlying Try.underlying41, Result.andThen_ok]
    go_simp
    simp [sameAddr]

/-- What the law's last tests read. -/
structure U6 (w wr : World) (x : Nat) (a s t : Option Addr) (g4 g6 g7 g8 g9 : Nat) : Prop where
  c4 : wr.cell? ⟨g4, 0, none⟩ = some (.pointer a)
  c6 : wr.cell? ⟨g6, 0, none⟩ = some (.pointer s)
  c7 : wr.cell? ⟨g7, 0, none⟩ = some (.pointer t)
  c8 : wr.cell? ⟨g8, 0, none⟩ = some (.pointer a)
  c9 : wr.cell? ⟨g9, 0, none⟩ = some (.pointer a)
  i : IsVal wr 0 a x
  vs : Vl wr s a true none
  vt : Vl wr t a true none
  below : Below w.heap.size w wr
theorem U6.next {w wr w' : World} {x : Nat} {a s t : Option Addr} {g4 g6 g7 g8 g9 : Nat} (h : U6 w wr x a s t g4 g6 g7 g8 g9) (hb : Below wr.heap.size wr w') : U6 w w' x a s t g4 g6 g7 g8 g9 :=
  ⟨(hb.cell (p := ⟨g4, 0, none⟩) (lt_of_cell h.c4)).trans h.c4, (hb.cell (p := ⟨g6, 0, none⟩) (lt_of_cell h.c6)).trans h.c6, (hb.cell (p := ⟨g7, 0, none⟩) (lt_of_cell h.c7)).trans h.c7, (hb.cell (p := ⟨g8, 0, none⟩) (lt_of_cell h.c8)).trans h.c8, (hb.cell (p := ⟨g9, 0, none⟩) (lt_of_cell h.c9)).trans h.c9,
    isVal_below h.i hb (Nat.le_refl _), h.vs.below hb (Nat.le_refl _), h.vt.below hb (Nat.le_refl _), h.below.trans (hb.mono h.below.size)⟩

theorem U6.nextD {w wr v w' : World} {x : Nat} {a s t : Option Addr} {g4 g6 g7 g8 g9 : Nat} (h : U6 w wr x a s t g4 g6 g7 g8 g9) (hb : Below v.heap.size v w') (e : Below wr.heap.size wr v) : U6 w w' x a s t g4 g6 g7 g8 g9 :=
  h.next (e.trans (hb.mono e.size))

theorem neq41 (a : Option Addr) (w : World) : (binOp .neq 41 (.pointer a) (.pointer a)).run Try.prog w = .ok (.bool false) w := by
  have h : (Op.equal 41 (.pointer a) (.pointer a)).run Try.prog w = .ok true w := eq41 a w
  simp [binOp, h]

end Go.Proofs.Qxb6614646a
