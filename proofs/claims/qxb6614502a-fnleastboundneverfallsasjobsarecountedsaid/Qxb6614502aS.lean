/-
  ZZleast; the law's own small functions.
-/
import Derived.Test.Qxb6614502aR
namespace Go.Proofs.Qxb6614502a
open Go.RowKit

set_option maxRecDepth 100000 in
set_option maxHeartbeats 1600000 in
theorem zzleast_mk (v u : Nat → Nat) (c x r : Int) (w : World) :
    Calls Try.prog 11 #[.agg #[.nilFunc], .agg #[.int .u64 (v 0 : Nat), .int .u64 (v 1 : Nat), .int .u64 (v 2 : Nat), .int .u64 (u 0 : Nat), .int .u64 (u 1 : Nat), .int .u64 (u 2 : Nat)], .int .i64 c, .int .i64 x, .int .i64 r] w fun e w' => e = .returned (.agg #[.int .u64 (v 0 : Nat), .int .u64 (v 1 : Nat), .int .u64 (v 2 : Nat), .int .u64 (u 0 : Nat), .int .u64 (u 1 : Nat), .int .u64 (u 2 : Nat)]) ∧ Below w.heap.size w w' := by
  go_enter Try.func11, Try.ntmps11
  go_wp2_with fail
  refine (least28_mk v u c x r _).mono ?_
  rintro e w4 ⟨rfl, hb4⟩
  have HB : Hid (Below w.heap.size w w4) := ((((Below.refl _ _).alloc (Nat.le_refl _) _).alloc (by simp) _).alloc (by simp; omega) _).trans (hb4.mono (by simp; omega))
  obtain ⟨z0, z1, z2, z3, z4, z5, zf⟩ := zero6 (t := 31) ((hb4.block (w.heap.size + 1 + 1) (by simp)).trans (heap_alloc_at _ _ _ (by simp)))
  clear hb4
  go_wp2
  exact bodyPost_ret (v := .agg #[.int .u64 (v 0 : Nat), .int .u64 (v 1 : Nat), .int .u64 (v 2 : Nat), .int .u64 (u 0 : Nat), .int .u64 (u 1 : Nat), .int .u64 (u 2 : Nat)]) (by simp [results, Try.results11, go_sem, z0, z1, z2, z3, z4, z5]) rfl ⟨rfl, ((((((HB.out.setCell (by simp; omega) _).setCell (by simp; omega) _).setCell (by simp; omega) _).setCell (by simp; omega) _).setCell (by simp; omega) _).setCell (by simp; omega) _)⟩

set_option maxRecDepth 100000 in
set_option maxHeartbeats 1600000 in
theorem zzleast_any (v u : Nat → Nat) (c r : Nat) (x : Int) (hv : W.Words v 3) (hu : W.Words u 3) (hc : c < 9223372036854775808) (hr : r < 9223372036854775808) (w : World) :
    Calls Try.prog 11 #[.agg #[.func (.func 27) #[] #[]], .agg #[.int .u64 (v 0 : Nat), .int .u64 (v 1 : Nat), .int .u64 (v 2 : Nat), .int .u64 (u 0 : Nat), .int .u64 (u 1 : Nat), .int .u64 (u 2 : Nat)], .int .i64 (c : Nat), .int .i64 x, .int .i64 (r : Nat)] w fun e w' => e = .returned (.agg #[.int .u64 (lstV v u c r 0 : Nat), .int .u64 (lstV v u c r 1 : Nat), .int .u64 (lstV v u c r 2 : Nat), .int .u64 (lstU v u c r 0 : Nat), .int .u64 (lstU v u c r 1 : Nat), .int .u64 (lstU v u c r 2 : Nat)]) ∧ Below w.heap.size w w' := by
  go_enter Try.func11, Try.ntmps11
  go_wp2_with fail
  refine (least28_any v u c r x hv hu hc hr _).mono ?_
  rintro e w4 ⟨rfl, hb4⟩
  have HB : Hid (Below w.heap.size w w4) := ((((Below.refl _ _).alloc (Nat.le_refl _) _).alloc (by simp) _).alloc (by simp; omega) _).trans (hb4.mono (by simp; omega))
  obtain ⟨z0, z1, z2, z3, z4, z5, zf⟩ := zero6 (t := 31) ((hb4.block (w.heap.size + 1 + 1) (by simp)).trans (heap_alloc_at _ _ _ (by simp)))
  clear hb4
  go_wp2
  exact bodyPost_ret (v := .agg #[.int .u64 (lstV v u c r 0 : Nat), .int .u64 (lstV v u c r 1 : Nat), .int .u64 (lstV v u c r 2 : Nat), .int .u64 (lstU v u c r 0 : Nat), .int .u64 (lstU v u c r 1 : Nat), .int .u64 (lstU v u c r 2 : Nat)]) (by simp [results, Try.results11, go_sem, z0, z1, z2, z3, z4, z5]) rfl ⟨rfl, ((((((HB.out.setCell (by simp; omega) _).setCell (by simp; omega) _).setCell (by simp; omega) _).setCell (by simp; omega) _).setCell (by simp; omega) _).setCell (by simp; omega) _)⟩

theorem nat_eq0 (x : Nat) : (((x : Nat) : Int) == 0) = (x == 0) := by
  rw [Bool.eq_iff_iff]; simp only [beq_iff_eq]; omega

set_option maxHeartbeats 400000 in
theorem isZero26_any (u : Nat → Nat) (w : World) : Calls Try.prog 26 #[.agg #[.int .u64 (u 0 : Nat), .int .u64 (u 1 : Nat), .int .u64 (u 2 : Nat)]] w fun e w' => e = .returned (.bool (W.isz u)) ∧ Below w.heap.size w w' := by
  have e0 := nat_eq0 (u 0)
  have e1 := nat_eq0 (u 1)
  have e2 := nat_eq0 (u 2)
  have HE : Hid (W.isz u = (u 0 == 0 && u 1 == 0 && u 2 == 0)) := rfl
  cases h0 : (u 0 == 0) with
  | false =>
    rw [h0] at e0 HE
    go_enter Try.func26, Try.ntmps26
    go_wp2
    go_ret
    exact ⟨by rw [HE.out]; rfl, (Below.refl _ _).alloc (Nat.le_refl _) _⟩
  | true =>
    rw [h0] at e0 HE
    cases h1 : (u 1 == 0) with
    | false =>
      rw [h1] at e1 HE
      go_enter Try.func26, Try.ntmps26
      go_wp2
      go_ret
      exact ⟨by rw [HE.out]; rfl, (Below.refl _ _).alloc (Nat.le_refl _) _⟩
    | true =>
      rw [h1] at e1 HE
      cases h2 : (u 2 == 0) with
      | false =>
        rw [h2] at e2 HE
        go_enter Try.func26, Try.ntmps26
        go_wp2
        go_ret
        exact ⟨by rw [HE.out]; rfl, (Below.refl _ _).alloc (Nat.le_refl _) _⟩
      | true =>
        rw [h2] at e2 HE
        go_enter Try.func26, Try.ntmps26
        go_wp2
        go_ret
        exact ⟨by rw [HE.out]; rfl, (Below.refl _ _).alloc (Nat.le_refl _) _⟩

/-- The domain of a mean's rating. -/
def dom (v u : Nat → Nat) : Bool := decide (v 2 < 4611686018427387904) && (u 2 == 0) && decide (u 1 < 9223372036854775808) && (!W.isz u || W.isz v)

set_option maxHeartbeats 1600000 in
theorem dom7_any (v u : Nat → Nat) (w : World) : Calls Try.prog 7 #[.agg #[.int .u64 (v 0 : Nat), .int .u64 (v 1 : Nat), .int .u64 (v 2 : Nat)], .agg #[.int .u64 (u 0 : Nat), .int .u64 (u 1 : Nat), .int .u64 (u 2 : Nat)]] w fun e w' => e = .returned (.bool (dom v u)) ∧ Below w.heap.size w w' := by
  have HE : Hid (dom v u = (decide (v 2 < 4611686018427387904) && (u 2 == 0) && decide (u 1 < 9223372036854775808) && (!W.isz u || W.isz v))) := rfl
  by_cases c1 : v 2 < 4611686018427387904
  · have d1 : decide ((4611686018427387904 : Int) ≤ ((v 2 : Nat) : Int)) = false := decide_eq_false (by omega)
    by_cases c2 : u 2 = 0
    · have d2 : (((u 2 : Nat) : Int) != 0) = false := by rw [bne, nat_eq0]; simp [c2]
      by_cases c3 : u 1 < 9223372036854775808
      · have d3 : decide ((9223372036854775808 : Int) ≤ ((u 1 : Nat) : Int)) = false := decide_eq_false (by omega)
        have HF : Hid (dom v u = (!W.isz u || W.isz v)) := by show _ = _; rw [HE.out]; simp [c1, c2, c3]
        clear HE c1 c2 c3
        cases hz : W.isz u with
        | false =>
          rw [hz] at HF
          go_enter Try.func7, Try.ntmps7
          go_wp2_with (go_at_call 26; refine (isZero26_any u _).mono ?_; rintro e w4 ⟨rfl, hb4⟩)
          go_ret
          exact ⟨by rw [HF.out]; rfl, (((Below.refl _ _).alloc (Nat.le_refl _) _).alloc (by simp) _).trans (hb4.mono (by simp; omega))⟩
        | true =>
          rw [hz] at HF
          have hd : (!true || W.isz v) = W.isz v := by simp
          rw [hd] at HF
          clear hd
          go_enter Try.func7, Try.ntmps7
          go_wp2_with fail
          refine (isZero26_any u _).mono ?_
          rintro e w4 ⟨rfl, hb4⟩
          have v0 : w4.cell? ⟨w.heap.size, 0, none⟩ = some (.int .u64 (v 0 : Nat)) := by rw [hb4.cell (by simp; omega)]; simp [go_sem, World.cell?_alloc_past]
          have v1 : w4.cell? ⟨w.heap.size, 1, none⟩ = some (.int .u64 (v 1 : Nat)) := by rw [hb4.cell (by simp; omega)]; simp [go_sem, World.cell?_alloc_past]
          have v2 : w4.cell? ⟨w.heap.size, 2, none⟩ = some (.int .u64 (v 2 : Nat)) := by rw [hb4.cell (by simp; omega)]; simp [go_sem, World.cell?_alloc_past]
          have HB : Hid (Below w.heap.size w w4) := (((Below.refl _ _).alloc (Nat.le_refl _) _).alloc (by simp) _).trans (hb4.mono (by simp; omega))
          have hsz : w.heap.size ≤ w4.heap.size := HB.out.size
          clear hb4
          go_wp2_with (go_at_call 26; refine (isZero26_any v _).mono ?_; rintro e w5 ⟨rfl, hb5⟩)
          go_ret
          exact ⟨by rw [HF.out]; rfl, HB.out.trans (hb5.mono (by omega))⟩
      · have d3 : decide ((9223372036854775808 : Int) ≤ ((u 1 : Nat) : Int)) = true := decide_eq_true (by omega)
        have HF : Hid (dom v u = false) := by show _ = _; rw [HE.out]; simp [c3]
        clear HE c1 c2 c3
        go_enter Try.func7, Try.ntmps7
        go_wp2
        go_ret
        exact ⟨by rw [HF.out]; rfl, ((Below.refl _ _).alloc (Nat.le_refl _) _).alloc (by simp) _⟩
    · have d2 : (((u 2 : Nat) : Int) != 0) = true := by rw [bne, nat_eq0]; simp [c2]
      have HF : Hid (dom v u = false) := by show _ = _; rw [HE.out]; simp [c2]
      clear HE c1 c2
      go_enter Try.func7, Try.ntmps7
      go_wp2
      go_ret
      exact ⟨by rw [HF.out]; rfl, ((Below.refl _ _).alloc (Nat.le_refl _) _).alloc (by simp) _⟩
  · have d1 : decide ((4611686018427387904 : Int) ≤ ((v 2 : Nat) : Int)) = true := decide_eq_true (by omega)
    have HF : Hid (dom v u = false) := by show _ = _; rw [HE.out]; simp [c1]
    clear HE c1
    go_enter Try.func7, Try.ntmps7
    go_wp2
    go_ret
    exact ⟨by rw [HF.out]; rfl, ((Below.refl _ _).alloc (Nat.le_refl _) _).alloc (by simp) _⟩

end Go.Proofs.Qxb6614502a
