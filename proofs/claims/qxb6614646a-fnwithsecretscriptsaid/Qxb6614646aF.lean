/-
  Reading a value: held, ZZNumberOf, ZZHandle, plainIs.
-/
import Derived.Test.Qxb6614646aE
namespace Go.Proofs.Qxb6614646a
open Go.RowKit

set_option maxHeartbeats 400000 in
theorem held32_none (w : World) : Calls Try.prog 32 #[.agg #[.pointer none]] w fun e w' => e = .returned .nilIface ∧ Below w.heap.size w w' := by
  go_enter Try.func32, Try.ntmps32
  go_wp2
  go_ret
  exact ⟨rfl, (Below.refl _ _).alloc (Nat.le_refl _) _⟩

set_option maxHeartbeats 400000 in
theorem held32_some (b o : Nat) (v : Value) (w : World) (h : w.cell? ⟨b, o, none⟩ = some (.iface 66 v)) : Calls Try.prog 32 #[.agg #[.pointer (some ⟨b, o, none⟩)]] w fun e w' => e = .returned (.iface 66 v) ∧ Below w.heap.size w w' := by
  have hlt : b < w.heap.size := lt_of_cell h
  have hne : b ≠ w.heap.size := by omega
  go_enter Try.func32, Try.ntmps32
  go_wp2
  go_ret
  exact ⟨rfl, (Below.refl _ _).alloc (Nat.le_refl _) _⟩

theorem ta_nil (w : World) : (Instr.typeAssert .nilIface 79 66 true).run Try.prog w = .ok (.tuple #[.pointer none, .bool false]) w := by kernel_rfl
theorem ta_num (v : Value) (w : World) : (Instr.typeAssert (.iface 66 v) 79 66 true).run Try.prog w = .ok (.tuple #[v, .bool true]) w := by kernel_rfl

set_option maxRecDepth 100000 in
set_option maxHeartbeats 400000 in
theorem numOf27_none (w : World) : Calls Try.prog 27 #[.agg #[.pointer none]] w fun e w' => e = .returned (.tuple #[.float .f64 0, .bool false]) ∧ Below w.heap.size w w' := by
  go_enter Try.func27, Try.ntmps27
  go_wp2_with fail
  refine (held32_none _).mono ?_
  rintro e w3 ⟨rfl, hb⟩
  have HB : Hid (Below w.heap.size w w3) := ((Below.refl _ _).alloc (Nat.le_refl _) _).trans (hb.mono (by simp))
  clear hb
  have hta := ta_nil
  go_wp2
  exact bodyPost_ret (v := .tuple #[.float .f64 0, .bool false]) (by simp [results, Try.results27, go_sem]) rfl ⟨rfl, HB.out⟩

set_option maxRecDepth 100000 in
set_option maxHeartbeats 400000 in
theorem numOf27_some (b o y : Nat) (w : World) (h : Held w b o y) : Calls Try.prog 27 #[.agg #[.pointer (some ⟨b, o, none⟩)]] w fun e w' => e = .returned (.tuple #[.float .f64 y, .bool true]) ∧ Below w.heap.size w w' := by
  have hlt := held_lt h
  have HH : Hid (Held (w.alloc (.cells #[.pointer (some ⟨b, o, none⟩)] 43)) b o y) := held_block (Below.heap_alloc w _ b hlt) h
  clear h
  go_enter Try.func27, Try.ntmps27
  go_wp2_with fail
  refine (held32_some b o _ _ HH.out.2.1).mono ?_
  rintro e w3 ⟨rfl, hb⟩
  have HB : Hid (Below w.heap.size w w3) := ((Below.refl _ _).alloc (Nat.le_refl _) _).trans (hb.mono (by simp))
  have c1 : w3.cell? ⟨b, o + 1, none⟩ = some (.float .f64 y) := (hb.cell (p := ⟨b, o + 1, none⟩) (by simp; omega)).trans HH.out.2.2
  clear hb HH
  have hta := ta_num
  go_wp2
  exact bodyPost_ret (v := .tuple #[.float .f64 y, .bool true]) (by simp [results, Try.results27, go_sem]) rfl ⟨rfl, HB.out⟩

set_option maxHeartbeats 400000 in
theorem handle20_any (a : Option Addr) (w : World) : Calls Try.prog 20 #[.agg #[.pointer a]] w fun e w' => e = .returned (.pointer a) ∧ Below w.heap.size w w' := by
  go_enter Try.func20, Try.ntmps20
  go_wp2
  go_ret
  exact ⟨rfl, (Below.refl _ _).alloc (Nat.le_refl _) _⟩

theorem drewN_below {w : World} {B : Nat} (q : Nat) : Below B w (w.drewN q) := ⟨rfl, rfl, rfl, Nat.le_refl _, fun _ _ => rfl⟩

set_option maxHeartbeats 1600000 in
theorem plainIs17_inf (x : Nat) (hf : Fl.fin x = false) (w : World) : Calls Try.prog 17 #[.agg #[.pointer none], .float .f64 x] w fun e w' => e = .returned (.bool true) ∧ Below w.heap.size w w' := by
  go_enter Try.func17, Try.ntmps17
  go_wp2_with fail
  refine (numOf27_none _).mono ?_
  rintro e w3 ⟨rfl, hb⟩
  have c0 : w3.cell? ⟨w.heap.size, 0, none⟩ = some (.pointer none) := (hb.cell (p := ⟨w.heap.size, 0, none⟩) (by simp)).trans (cell_of_row _ _ _ _ _ _ (heap_alloc_new w _))
  have HB : Hid (Below w.heap.size w w3) := ((Below.refl _ _).alloc (Nat.le_refl _) _).trans (hb.mono (by simp))
  clear hb
  go_wp2_with fail
  refine (finite23_any x _).mono ?_
  rintro e w4 ⟨rfl, q, hw⟩
  rw [hw, hf]
  clear hw
  go_wp2_with fail
  refine (handle20_any none _).mono ?_
  rintro e w5 ⟨rfl, hb⟩
  have HB5 : Hid (Below w.heap.size w w5) := HB.out.trans ((drewN_below q).trans (hb.mono HB.out.size))
  clear hb
  go_wp2
  go_ret
  exact ⟨rfl, HB5.out⟩

open Fl in
set_option maxHeartbeats 1600000 in
theorem plainIs17_fin (b o x : Nat) (hf : Fl.fin x = true) (w : World) (h : Held w b o (Fl.norm x)) : Calls Try.prog 17 #[.agg #[.pointer (some ⟨b, o, none⟩)], .float .f64 x] w fun e w' => e = .returned (.bool true) ∧ Below w.heap.size w w' := by
  have hlt := held_lt h
  have HH : Hid (Held (w.alloc (.cells #[.pointer (some ⟨b, o, none⟩)] 43)) b o (Fl.norm x)) := held_block (Below.heap_alloc w _ b hlt) h
  clear h
  have o1 : (FloatKind.f64.format.order (norm x) x != some .eq) = false := by
    have : FloatKind.f64.format.order (norm x) x = some .eq := order_norm hf
    rw [this]; rfl
  have o3 : (FloatKind.f64.format.order x 0 == some .eq) = zer x := order_zero hf
  have o4 : (FloatKind.f64.format.order x 0 != some .eq) = !zer x := by rw [bne, o3]
  go_enter Try.func17, Try.ntmps17
  go_wp2_with fail
  refine (numOf27_some b o (norm x) _ HH.out).mono ?_
  rintro e w3 ⟨rfl, hb⟩
  have HB : Hid (Below w.heap.size w w3) := ((Below.refl _ _).alloc (Nat.le_refl _) _).trans (hb.mono (by simp))
  clear hb HH
  go_wp2_with fail
  refine (finite23_any x _).mono ?_
  rintro e w4 ⟨rfl, q, hw⟩
  rw [hw, hf]
  clear hw
  have HB4 : Hid (Below w.heap.size w (w3.drewN q)) := HB.out.trans (drewN_below q)
  generalize w3.drewN q = w5 at *
  cases hz : zer x with
  | false =>
    rw [hz] at o3 o4
    generalize norm x = y at *
    go_wp2
    go_ret
    exact ⟨rfl, HB4.out⟩
  | true =>
    rw [hz] at o3 o4
    have hn : norm x = 0 := if_pos hz
    rw [hn] at o1 ⊢
    have hdiv : ∀ wq, (binOp .quo 46 (.float .f64 4607182418800017408) (.float .f64 0)).run Try.prog wq = .ok (.float .f64 9218868437227405312) wq := fun wq => run_float_arith wq .quo 46 .f64 _ _ _ one_over
    have hpos : (FloatKind.f64.format.order 9218868437227405312 0 == some .gt) = true := inf_pos
    clear hn
    go_wp2
    go_ret
    exact ⟨rfl, HB4.out⟩

end Go.Proofs.Qxb6614646a
