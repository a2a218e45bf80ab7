/-
  The law's floats in Go: math.IsNaN, math.Abs, math.IsInf, numberOf, finite.
-/
import Derived.Test.Qxb6614646aRows
import Derived.Test.Qxb6614646aA
import Derived.WalkKit
import Derived.WalkSpells
import Derived.WalkLawsBesides
import Derived.StillTactics
import Derived.Laws.Pointers
import Derived.Laws.Bits64b
import Derived.Laws.BitsAllLaws
import Derived.Laws.Externs
import Derived.Laws.Cover2
import Derived.Laws.FloatArith
import Derived.Deep.RegionHeld3
import Derived.Deep.QuietTactic
import Derived.BigQuiet
namespace Go.Proofs.Qxb6614646a
open Go.RowKit

theorem bits36 (b : Nat) (w : World) : (callFunc 36 #[.float .f64 b]).run Try.prog w = .ok (.value (.int .u64 (b : Nat))) w := by
  rw [run_callFunc_extern Try.func36 (by kernel_rfl) (by kernel_rfl) (by kernel_rfl) (e := Extern.MathFloatBits.float64bits) (by kernel_rfl)]
  rfl
theorem from35 (b : Nat) (w : World) : (callFunc 35 #[.int .u64 (b : Nat)]).run Try.prog w = .ok (.value (.float .f64 b)) w := by
  rw [run_callFunc_extern Try.func35 (by kernel_rfl) (by kernel_rfl) (by kernel_rfl) (e := Extern.MathFloatBits.float64frombits) (by kernel_rfl)]
  rfl

theorem from35m (x : Nat) (w : World) : (callFunc 35 #[.int .u64 ((x : Int) % 9223372036854775808)]).run Try.prog w = .ok (.value (.float .f64 (x % 9223372036854775808))) w := from35 (x % 9223372036854775808) w

theorem fmt : FloatKind.f64.format = Ieee.double := rfl

theorem absN (x : Nat) (hx : x < 18446744073709551616) : bits .andNot .u64 (x : Int) 9223372036854775808 = ((x % 9223372036854775808 : Nat) : Int) := by
  have h := u64_andNot_nat x 9223372036854775808 hx (by omega)
  have e : x &&& 9223372036854775807 = x % 9223372036854775808 := Nat.and_two_pow_sub_one_eq_mod x 63
  have e2 : (18446744073709551615 - 9223372036854775808 : Nat) = 9223372036854775807 := by decide
  rw [e2, e] at h
  exact h

set_option maxHeartbeats 400000 in
theorem isNaN28_any (x : Nat) (w : World) : Calls Try.prog 28 #[.float .f64 x] w fun e w' => e = .returned (.bool (Ieee.double.order x x != some .eq)) ∧ w' = w := by
  go_enter Try.func28, Try.ntmps28
  go_wp2
  go_ret
  exact ⟨rfl, rfl⟩

set_option maxHeartbeats 400000 in
theorem abs33_any (x : Nat) (hx : x < 18446744073709551616) (w : World) : Calls Try.prog 33 #[.float .f64 x] w fun e w' => e = .returned (.float .f64 (x % 9223372036854775808)) ∧ w' = w := by
  have ha := absN x hx
  go_enter Try.func33, Try.ntmps33
  go_wp2_with (first | simp only [bits36] | simp only [from35m])
  go_ret
  exact ⟨rfl, rfl⟩

set_option maxHeartbeats 400000 in
theorem isInf29_any (x : Nat) (hx : x < 18446744073709551616) (w : World) : Calls Try.prog 29 #[.float .f64 x, .int .i64 0] w fun e w' => e = .returned (.bool (Ieee.double.order (x % 9223372036854775808) 9218868437227405311 == some .gt)) ∧ w' = w := by
  go_enter Try.func29, Try.ntmps29
  go_wp2_with (go_at_call 33; refine (abs33_any x hx _).mono ?_; rintro e w4 ⟨rfl, hw⟩; rw [hw]; clear hw)
  go_ret
  exact ⟨rfl, rfl⟩

open Fl in
set_option maxHeartbeats 400000 in
/-- numberOf: a finite number, negative zero made zero; or none. -/
theorem numberOf21_fin (x : Nat) (hx : x < 18446744073709551616) (hf : fin x = true) (w : World) : Calls Try.prog 21 #[.float .f64 x] w fun e w' => e = .returned (.tuple #[.float .f64 (norm x), .bool true]) ∧ w' = w := by
  have o1 : (Ieee.double.order x x != some .eq) = false := by rw [order_self hf]; rfl
  have o2 := abs_fin hf
  have o3 := order_zero hf
  cases hz : zer x with
  | true =>
    rw [hz] at o3
    have HN : Hid (norm x = 0) := if_pos hz
    have f1 : (FloatKind.f64.format.order x 0 == some .eq) = true := o3
    go_enter Try.func21, Try.ntmps21
    go_wp2_with (first
      | (go_at_call 28; refine (isNaN28_any x _).mono ?_; rintro e w4 ⟨rfl, hw⟩; rw [hw]; clear hw)
      | (go_at_call 29; refine (isInf29_any x hx _).mono ?_; rintro e w4 ⟨rfl, hw⟩; rw [hw]; clear hw))
    exact bodyPost_ret (v := .tuple #[.float .f64 0, .bool true]) (by simp [results, Try.results21, go_sem]) rfl ⟨by rw [HN.out], rfl⟩
  | false =>
    rw [hz] at o3
    have HN : Hid (norm x = x) := if_neg (by rw [hz]; decide)
    have f1 : (FloatKind.f64.format.order x 0 == some .eq) = false := o3
    go_enter Try.func21, Try.ntmps21
    go_wp2_with (first
      | (go_at_call 28; refine (isNaN28_any x _).mono ?_; rintro e w4 ⟨rfl, hw⟩; rw [hw]; clear hw)
      | (go_at_call 29; refine (isInf29_any x hx _).mono ?_; rintro e w4 ⟨rfl, hw⟩; rw [hw]; clear hw))
    exact bodyPost_ret (v := .tuple #[.float .f64 x, .bool true]) (by simp [results, Try.results21, go_sem]) rfl ⟨by rw [HN.out], rfl⟩

open Fl in
set_option maxHeartbeats 400000 in
theorem numberOf21_inf (x : Nat) (hx : x < 18446744073709551616) (hf : fin x = false) (w : World) : Calls Try.prog 21 #[.float .f64 x] w fun e w' => e = .returned (.tuple #[.float .f64 0, .bool false]) ∧ w' = w := by
  rcases inf_read hf with ⟨s, t, h⟩ | ⟨s, h, h'⟩
  · have o1 : (Ieee.double.order x x != some .eq) = true := by rw [nan_self h]; rfl
    go_enter Try.func21, Try.ntmps21
    go_wp2_with (go_at_call 28; refine (isNaN28_any x _).mono ?_; rintro e w4 ⟨rfl, hw⟩; rw [hw]; clear hw)
    exact bodyPost_ret (v := .tuple #[.float .f64 0, .bool false]) (by simp [results, Try.results21, go_sem]) rfl ⟨rfl, rfl⟩
  · obtain ⟨o2, e2⟩ := abs_inf h h'
    have o1 : (Ieee.double.order x x != some .eq) = false := by rw [e2]; rfl
    go_enter Try.func21, Try.ntmps21
    go_wp2_with (first
      | (go_at_call 28; refine (isNaN28_any x _).mono ?_; rintro e w4 ⟨rfl, hw⟩; rw [hw]; clear hw)
      | (go_at_call 29; refine (isInf29_any x hx _).mono ?_; rintro e w4 ⟨rfl, hw⟩; rw [hw]; clear hw))
    exact bodyPost_ret (v := .tuple #[.float .f64 0, .bool false]) (by simp [results, Try.results21, go_sem]) rfl ⟨rfl, rfl⟩

theorem nan_cut (x t : Nat) : Ieee.double.order (Question.cut (.nanBits .f64 x x) t) 0 = none := by
  show Ieee.double.order ((t % 2) * 2 ^ 63 + 0x7ff0000000000000 + 1 + (t / 2) % (2 ^ 52 - 1)) 0 = none
  exact Fl.nan_zero (t % 2) (t / 2 % (2 ^ 52 - 1)) (by have : (2 ^ 52 - 1 : Nat) = 4503599627370495 := by decide
                                                       rw [this]; exact Nat.mod_lt _ (by omega))

theorem run_sub_inf (x : Nat) (hf : Fl.fin x = false) (w : World) : (binOp .sub 46 (.float .f64 x) (.float .f64 x)).run Try.prog w = .ok (.float .f64 (Question.cut (.nanBits .f64 x x) (w.tape w.drawn (.nanBits .f64 x x)))) w.drew := by
  have h : FloatKind.f64.format.sub x x = none := Fl.sub_inf hf
  simp [binOp, Op.floatArith, h, Question.forced]

theorem run_sub_fin (x : Nat) (hf : Fl.fin x = true) (w : World) : (binOp .sub 46 (.float .f64 x) (.float .f64 x)).run Try.prog w = .ok (.float .f64 0) w :=
  run_float_arith w .sub 46 .f64 x x 0 (Fl.sub_fin hf)

set_option maxHeartbeats 400000 in
/-- finite, the law's own. -/
theorem finite23_any (x : Nat) (w : World) : Calls Try.prog 23 #[.float .f64 x] w fun e w' => e = .returned (.bool (Fl.fin x)) ∧ ∃ q, w' = w.drewN q := by
  cases hf : Fl.fin x with
  | true =>
    have hs := run_sub_fin x hf
    have h0 : (FloatKind.f64.format.order 0 0 == some .eq) = true := by decide
    go_enter Try.func23, Try.ntmps23
    go_wp2
    go_ret
    exact ⟨rfl, 0, rfl⟩
  | false =>
    have hs := run_sub_inf x hf
    have h0 : ∀ t, (FloatKind.f64.format.order (Question.cut (.nanBits .f64 x x) t) 0 == some .eq) = false := fun t => by
      have : FloatKind.f64.format.order (Question.cut (.nanBits .f64 x x) t) 0 = none := nan_cut x t
      rw [this]; rfl
    go_enter Try.func23, Try.ntmps23
    go_wp2
    go_ret
    exact ⟨rfl, 1, rfl⟩

end Go.Proofs.Qxb6614646a
