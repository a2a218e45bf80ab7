/-
  Markers: hold, withMarks, marks, plain, WithSecret, ZZSecret, ZZPlain.
-/
import Derived.Test.Qxb6614646aG
namespace Go.Proofs.Qxb6614646a
open Go.RowKit

/-- A marked value lies at m: the plain value p, the secret marker s, the dependencies d. -/
def Marked (w : World) (m : Nat) (p : Option Addr) (s : Bool) (d : Option Addr) : Prop := w.cell? ⟨m, 0, none⟩ = some (.iface 87 (.pointer (some ⟨m, 1, none⟩))) ∧ w.cell? ⟨m, 1, none⟩ = some (.pointer p) ∧ w.cell? ⟨m, 2, none⟩ = some (.bool s) ∧ w.cell? ⟨m, 3, none⟩ = some (.pointer d)
/-- A value without markers: null, or a number. -/
def PlainV (w : World) (a : Option Addr) : Prop := a = none ∨ ∃ b o v, a = some ⟨b, o, none⟩ ∧ w.cell? ⟨b, o, none⟩ = some (.iface 66 v)
/-- The value a is the plain value p with the markers s, d. -/
def Vl (w : World) (a p : Option Addr) (s : Bool) (d : Option Addr) : Prop := (PlainV w a ∧ p = a ∧ s = false ∧ d = none) ∨ ∃ m, a = some ⟨m, 0, none⟩ ∧ Marked w m p s d

theorem Marked.below {w w' : World} {B m : Nat} {p d : Option Addr} {s : Bool} (h : Marked w m p s d) (hb : Below B w w') (hB : w.heap.size ≤ B) : Marked w' m p s d := by
  have hlt : m < B := Nat.lt_of_lt_of_le (lt_of_cell h.1) hB
  exact ⟨(hb.cell (p := ⟨m, 0, none⟩) hlt).trans h.1, (hb.cell (p := ⟨m, 1, none⟩) hlt).trans h.2.1, (hb.cell (p := ⟨m, 2, none⟩) hlt).trans h.2.2.1, (hb.cell (p := ⟨m, 3, none⟩) hlt).trans h.2.2.2⟩
theorem PlainV.below {w w' : World} {B : Nat} {a : Option Addr} (h : PlainV w a) (hb : Below B w w') (hB : w.heap.size ≤ B) : PlainV w' a := by
  rcases h with h | ⟨b, o, v, h1, h2⟩
  · exact Or.inl h
  · exact Or.inr ⟨b, o, v, h1, (hb.cell (p := ⟨b, o, none⟩) (Nat.lt_of_lt_of_le (lt_of_cell h2) hB)).trans h2⟩
theorem Vl.below {w w' : World} {B : Nat} {a p d : Option Addr} {s : Bool} (h : Vl w a p s d) (hb : Below B w w') (hB : w.heap.size ≤ B) : Vl w' a p s d := by
  rcases h with ⟨h1, h2⟩ | ⟨m, h1, h2⟩
  · exact Or.inl ⟨h1.below hb hB, h2⟩
  · exact Or.inr ⟨m, h1, h2.below hb hB⟩

set_option maxRecDepth 100000 in
set_option maxHeartbeats 400000 in
theorem valueIn34_any (m : Nat) (w : World) (v0 : Value) (hb : m < w.heap.size) (hc : w.cell? ⟨m, 0, none⟩ = some v0) (hf : w.frozen? ⟨m, 0, none⟩ = false) :
    Calls Try.prog 34 #[.pointer (some ⟨m, 0, none⟩)] w fun e w' => e = .returned (.agg #[.pointer (some ⟨m, 0, none⟩)]) ∧ Below w.heap.size (w.setCell ⟨m, 0, none⟩ (.iface 87 (.pointer (some ⟨m, 1, none⟩)))) w' := by
  have hne : m ≠ w.heap.size := by omega
  go_enter Try.func34, Try.ntmps34
  go_wp2
  exact bodyPost_ret (v := .agg #[.pointer (some ⟨m, 0, none⟩)]) (by simp [results, Try.results34, go_sem]) rfl ⟨rfl, (Below.refl _ _).alloc (by rw [setSize]; exact Nat.le_refl _) _⟩

theorem ta_nil87 (w : World) : (Instr.typeAssert .nilIface 79 87 true).run Try.prog w = .ok (.tuple #[.pointer none, .bool false]) w := by kernel_rfl
theorem ta_num87 (v : Value) (w : World) : (Instr.typeAssert (.iface 66 v) 79 87 true).run Try.prog w = .ok (.tuple #[.pointer none, .bool false]) w := by kernel_rfl
theorem ta_mark (v : Value) (w : World) : (Instr.typeAssert (.iface 87 v) 79 87 true).run Try.prog w = .ok (.tuple #[v, .bool true]) w := by kernel_rfl

set_option maxRecDepth 100000 in
set_option maxHeartbeats 400000 in
theorem hold31_any (p d : Option Addr) (s : Bool) (w : World) :
    Calls Try.prog 31 #[.agg #[.pointer p, .bool s, .pointer d]] w fun e w' => ∃ m, e = .returned (.agg #[.pointer (some ⟨m, 0, none⟩)]) ∧ Marked w' m p s d ∧ Below w.heap.size w w' := by
  have hrow : (((w.alloc (.cells #[.pointer p, .bool s, .pointer d] 86)).alloc (.cells #[.pointer none] 43)).alloc (.cells #[.nilIface, .pointer p, .bool s, .pointer d] 95)).heap[w.heap.size + 1 + 1]? = some (.cells #[.nilIface, .pointer p, .bool s, .pointer d] 95 (0, 0)) := heap_alloc_at _ _ _ (by simp)
  have hres : (((w.alloc (.cells #[.pointer p, .bool s, .pointer d] 86)).alloc (.cells #[.pointer none] 43)).alloc (.cells #[.nilIface, .pointer p, .bool s, .pointer d] 95)).heap[w.heap.size + 1]? = some (.cells #[.pointer none] 43 (0, 0)) := by rw [Below.heap_alloc _ _ _ (by simp)]; exact heap_alloc_at _ _ _ (by simp)
  have hsz : (((w.alloc (.cells #[.pointer p, .bool s, .pointer d] 86)).alloc (.cells #[.pointer none] 43)).alloc (.cells #[.nilIface, .pointer p, .bool s, .pointer d] 95)).heap.size = w.heap.size + 3 := by simp
  have HB0 : Hid (Below w.heap.size w (((w.alloc (.cells #[.pointer p, .bool s, .pointer d] 86)).alloc (.cells #[.pointer none] 43)).alloc (.cells #[.nilIface, .pointer p, .bool s, .pointer d] 95))) := (((Below.refl _ _).alloc (Nat.le_refl _) _).alloc (by simp) _).alloc (by simp; omega) _
  have HRow := show Hid _ from hrow
  have HRes := show Hid _ from hres
  clear hrow hres
  go_enter Try.func31, Try.ntmps31
  go_wp2_with fail
  generalize (((w.alloc (.cells #[.pointer p, .bool s, .pointer d] 86)).alloc (.cells #[.pointer none] 43)).alloc (.cells #[.nilIface, .pointer p, .bool s, .pointer d] 95)) = w1 at *
  refine (valueIn34_any (w.heap.size + 1 + 1) w1 .nilIface (by omega) (cell_of_row _ _ _ _ _ _ HRow.out) (by simp [World.frozen?, HRow.out])).mono ?_
  rintro e w4 ⟨rfl, hb4⟩
  have r4 : w4.heap[w.heap.size + 1]? = some (.cells #[.pointer none] 43 (0, 0)) := by
    rw [hb4.block _ (by omega), Below.heap_setCell _ _ _ _ (by dsimp only; omega)]; exact HRes.out
  have m4 : w4.heap[w.heap.size + 1 + 1]? = some (.cells #[.iface 87 (.pointer (some ⟨w.heap.size + 1 + 1, 1, none⟩)), .pointer p, .bool s, .pointer d] 95 (0, 0)) := by
    rw [hb4.block _ (by omega)]; exact blk_set _ HRow.out
  have hb : Below w.heap.size w w4 := HB0.out.trans ⟨hb4.os, hb4.tape, hb4.output, by have := hb4.size; rw [setSize] at this; exact this, fun k hk => (hb4.block k (by omega)).trans (Below.heap_setCell _ _ _ _ (by dsimp only; omega))⟩
  have r0 : w4.cell? ⟨w.heap.size + 1, 0, none⟩ = some (.pointer none) := cell_of_row _ _ _ _ _ _ r4
  have rf : w4.frozen? ⟨w.heap.size + 1, 0, none⟩ = false := by simp [World.frozen?, r4]
  have HM : Hid (∀ u, Marked (w4.setCell ⟨w.heap.size + 1, 0, none⟩ u) (w.heap.size + 1 + 1) p s d) := fun u => by
    have e : (w4.setCell ⟨w.heap.size + 1, 0, none⟩ u).heap[w.heap.size + 1 + 1]? = w4.heap[w.heap.size + 1 + 1]? := Below.heap_setCell _ _ _ _ (by dsimp only; omega)
    have e' := e.trans m4
    exact ⟨cell_of_row _ _ _ _ _ _ e', cell_of_row _ _ _ _ _ _ e', cell_of_row _ _ _ _ _ _ e', cell_of_row _ _ _ _ _ _ e'⟩
  have HB : Hid (Below w.heap.size w w4) := hb
  clear hb hb4 r4 m4 HRow HRes HB0
  go_wp2
  exact bodyPost_ret (v := .agg #[.pointer (some ⟨w.heap.size + 1 + 1, 0, none⟩)]) (by simp [results, Try.results31, go_sem, r0]) rfl ⟨_, rfl, HM.out _, HB.out.setCell (by dsimp only; omega) _⟩

set_option maxRecDepth 100000 in
set_option maxHeartbeats 400000 in
theorem withMarks24_none (p : Option Addr) (w : World) :
    Calls Try.prog 24 #[.agg #[.pointer p], .bool false, .pointer none] w fun e w' => e = .returned (.agg #[.pointer p]) ∧ Below w.heap.size w w' := by
  go_enter Try.func24, Try.ntmps24
  go_wp2
  exact bodyPost_ret (v := .agg #[.pointer p]) (by simp [results, Try.results24, go_sem]) rfl ⟨rfl, ((Below.refl _ _).alloc (Nat.le_refl _) _).alloc (by simp) _⟩

set_option maxRecDepth 100000 in
set_option maxHeartbeats 400000 in
theorem withMarks24_some (p d : Option Addr) (s : Bool) (hsd : s = true ∨ ∃ a, d = some a) (w : World) :
    Calls Try.prog 24 #[.agg #[.pointer p], .bool s, .pointer d] w fun e w' => ∃ m, e = .returned (.agg #[.pointer (some ⟨m, 0, none⟩)]) ∧ Marked w' m p s d ∧ Below w.heap.size w w' := by
  have key : ∀ w1, w1 = (w.alloc (.cells #[.pointer p] 43)).alloc (.cells #[.pointer none] 43) → Calls Try.prog 31 #[.agg #[.pointer p, .bool s, .pointer d]] w1 fun e w' => ∃ m, e = .returned (.agg #[.pointer (some ⟨m, 0, none⟩)]) ∧ w'.cell? ⟨w.heap.size + 1, 0, none⟩ = some (.pointer none) ∧ w'.frozen? ⟨w.heap.size + 1, 0, none⟩ = false ∧ ∀ u, Marked (w'.setCell ⟨w.heap.size + 1, 0, none⟩ u) m p s d ∧ Below w.heap.size w (w'.setCell ⟨w.heap.size + 1, 0, none⟩ u) := by
    rintro w1 rfl
    refine (hold31_any p d s _).mono ?_
    rintro e w4 ⟨m, rfl, hm, hb⟩
    have hr : w4.heap[w.heap.size + 1]? = some (.cells #[.pointer none] 43 (0, 0)) := (hb.block _ (by simp)).trans (heap_alloc_at _ _ _ (by simp))
    have hne : m ≠ w.heap.size + 1 := by
      intro e
      have := hm.1
      rw [e, cell_of_row _ _ _ _ _ _ hr] at this
      simp at this
    refine ⟨m, rfl, cell_of_row _ _ _ _ _ _ hr, by simp [World.frozen?, hr], fun u => ⟨?_, ?_⟩⟩
    · have e : ∀ j, (w4.setCell ⟨w.heap.size + 1, 0, none⟩ u).cell? ⟨m, j, none⟩ = w4.cell? ⟨m, j, none⟩ := fun j => World.cell?_of_block (w := w4) (a := ⟨m, j, none⟩) (Below.heap_setCell _ _ _ _ hne)
      exact ⟨(e 0).trans hm.1, (e 1).trans hm.2.1, (e 2).trans hm.2.2.1, (e 3).trans hm.2.2.2⟩
    · exact (((Below.refl _ _).alloc (Nat.le_refl _) _).alloc (by simp) _).trans (hb.mono (by simp; omega)) |>.setCell (by dsimp only; omega) _
  cases s with
  | true =>
    clear hsd
    go_enter Try.func24, Try.ntmps24
    go_wp2_with fail
    refine (key _ rfl).mono ?_
    rintro e w4 ⟨m, rfl, r0, rf, hh⟩
    have HH := show Hid _ from hh
    clear hh key
    go_wp2
    exact bodyPost_ret (v := .agg #[.pointer (some ⟨m, 0, none⟩)]) (by simp [results, Try.results24, go_sem, r0]) rfl ⟨m, rfl, (HH.out _).1, (HH.out _).2⟩
  | false =>
    obtain ⟨a, rfl⟩ : ∃ a, d = some a := by
      rcases hsd with h | h
      · cases h
      · exact h
    clear hsd
    go_enter Try.func24, Try.ntmps24
    go_wp2_with fail
    refine (key _ rfl).mono ?_
    rintro e w4 ⟨m, rfl, r0, rf, hh⟩
    have HH := show Hid _ from hh
    clear hh key
    go_wp2
    exact bodyPost_ret (v := .agg #[.pointer (some ⟨m, 0, none⟩)]) (by simp [results, Try.results24, go_sem, r0]) rfl ⟨m, rfl, (HH.out _).1, (HH.out _).2⟩

end Go.Proofs.Qxb6614646a
