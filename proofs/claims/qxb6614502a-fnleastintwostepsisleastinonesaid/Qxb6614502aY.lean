/-
  The walk of FnLeastInTwoStepsIsLeastInOne.
-/
import Derived.Test.Qxb6614502aX
namespace Go.Proofs.Qxb6614502a
open Go.RowKit

theorem atR_congr {w : World} {g : Nat} {V U X Y : Nat → Nat} (e1 : ∀ j, j < 3 → V j = X j) (e2 : ∀ j, j < 3 → U j = Y j) (h : AtR w g V U) : AtR w g X Y := by
  unfold AtR at h ⊢
  rw [← e1 0 (by omega), ← e1 1 (by omega), ← e1 2 (by omega), ← e2 0 (by omega), ← e2 1 (by omega), ← e2 2 (by omega)]
  exact h

set_option maxRecDepth 100000 in
set_option maxHeartbeats 6400000 in
theorem fn3_mk (v u : Nat → Nat) (f s r : Nat) (x : Int) (hfs : f + s < 9223372036854775808) (w : World) :
    Calls Try.prog 3 #[.bool true, .agg #[.int .u64 (v 0 : Nat), .int .u64 (v 1 : Nat), .int .u64 (v 2 : Nat)], .agg #[.int .u64 (u 0 : Nat), .int .u64 (u 1 : Nat), .int .u64 (u 2 : Nat)], .int .i64 (f : Nat), .int .i64 (s : Nat), .int .i64 x, .int .i64 (r : Nat)] w fun e w' => e = .returned (.bool true) ∧ Below w.heap.size w w' := by
  have d1 : decide (((f : Nat) : Int) < 0) = false := decide_eq_false (by omega)
  have d2 : decide (((s : Nat) : Int) < 0) = false := decide_eq_false (by omega)
  have d3 : decide (((r : Nat) : Int) < 0) = false := decide_eq_false (by omega)
  have e1 : IntKind.i64.wrap (9223372036854775807 - ((s : Nat) : Int)) = 9223372036854775807 - ((s : Nat) : Int) := by rw [IntKind.wrap_i64]; omega
  have e2 : IntKind.i64.wrap (((f : Nat) : Int) + ((s : Nat) : Int)) = ((f + s : Nat) : Int) := by rw [IntKind.wrap_i64]; omega
  have d4 : decide (9223372036854775807 - ((s : Nat) : Int) < ((f : Nat) : Int)) = false := decide_eq_false (by omega)
  have HA : Hid (((w.alloc (.cells #[.int .u64 (v 0 : Nat), .int .u64 (v 1 : Nat), .int .u64 (v 2 : Nat)] 23)).alloc (.cells #[.int .u64 (u 0 : Nat), .int .u64 (u 1 : Nat), .int .u64 (u 2 : Nat)] 23)).heap[w.heap.size]? = some (.cells #[.int .u64 (v 0 : Nat), .int .u64 (v 1 : Nat), .int .u64 (v 2 : Nat)] 23 (0, 0))) := by show _ = _; rw [Below.heap_alloc _ _ _ (by simp)]; exact heap_alloc_new w _
  have HB : Hid (((w.alloc (.cells #[.int .u64 (v 0 : Nat), .int .u64 (v 1 : Nat), .int .u64 (v 2 : Nat)] 23)).alloc (.cells #[.int .u64 (u 0 : Nat), .int .u64 (u 1 : Nat), .int .u64 (u 2 : Nat)] 23)).heap[w.heap.size + 1]? = some (.cells #[.int .u64 (u 0 : Nat), .int .u64 (u 1 : Nat), .int .u64 (u 2 : Nat)] 23 (0, 0))) := heap_alloc_at _ _ _ (by simp)
  have HW : Hid (Below w.heap.size w ((w.alloc (.cells #[.int .u64 (v 0 : Nat), .int .u64 (v 1 : Nat), .int .u64 (v 2 : Nat)] 23)).alloc (.cells #[.int .u64 (u 0 : Nat), .int .u64 (u 1 : Nat), .int .u64 (u 2 : Nat)] 23))) := ((Below.refl _ _).alloc (Nat.le_refl _) _).alloc (by simp) _
  have HZ : w.heap.size + 2 ≤ ((w.alloc (.cells #[.int .u64 (v 0 : Nat), .int .u64 (v 1 : Nat), .int .u64 (v 2 : Nat)] 23)).alloc (.cells #[.int .u64 (u 0 : Nat), .int .u64 (u 1 : Nat), .int .u64 (u 2 : Nat)] 23)).heap.size := by simp
  go_enter Try.func3, Try.ntmps3
  go_wp2_with fail
  generalize ((w.alloc (.cells #[.int .u64 (v 0 : Nat), .int .u64 (v 1 : Nat), .int .u64 (v 2 : Nat)] 23)).alloc (.cells #[.int .u64 (u 0 : Nat), .int .u64 (u 1 : Nat), .int .u64 (u 2 : Nat)] 23)) = w2 at *
  refine (mean8_any w2).mono ?_
  rintro e w3 ⟨rfl, hb⟩
  replace HA := show Hid _ from (hb.block _ (by omega)).trans HA.out
  replace HB := show Hid _ from (hb.block _ (by omega)).trans HB.out
  replace HW : Hid (Below w.heap.size w w3) := HW.out.trans (hb.mono (by omega))
  replace HZ : w.heap.size + 2 ≤ w3.heap.size := Nat.le_trans HZ hb.size
  clear hb
  go_wp2_with fail
  have HQ : Hid ((w3.alloc (.cells #[.func (.func 27) #[] #[]] 27)).heap[w3.heap.size]? = some (.cells #[.func (.func 27) #[] #[]] 27 (0, 0))) := heap_alloc_new w3 _
  have hs3 : (w3.alloc (.cells #[.func (.func 27) #[] #[]] 27)).heap.size = w3.heap.size + 1 := by simp
  replace HA := show Hid _ from (Below.heap_alloc w3 (.cells #[.func (.func 27) #[] #[]] 27) _ (by omega)).trans HA.out
  replace HB := show Hid _ from (Below.heap_alloc w3 (.cells #[.func (.func 27) #[] #[]] 27) _ (by omega)).trans HB.out
  replace HW := show Hid _ from HW.out.alloc (by omega) (.cells #[.func (.func 27) #[] #[]] 27)
  generalize w3.alloc (.cells #[.func (.func 27) #[] #[]] 27) = w4 at *
  generalize w3.heap.size = g15 at *
  refine (make9_any w4).mono ?_
  rintro e w5 ⟨rfl, hb⟩
  replace HQ := show Hid _ from (hb.block g15 (by omega)).trans HQ.out
  replace HA := show Hid _ from (hb.block _ (by omega)).trans HA.out
  replace HB := show Hid _ from (hb.block _ (by omega)).trans HB.out
  replace HW : Hid (Below w.heap.size w w5) := HW.out.trans (hb.mono (by omega))
  have hz5 : g15 < w5.heap.size := by have := hb.size; omega
  clear hb hs3
  have q0 : w5.cell? ⟨g15, 0, none⟩ = some (.func (.func 27) #[] #[]) := cell_of_row _ _ _ _ _ _ HQ.out
  have qf : w5.frozen? ⟨g15, 0, none⟩ = false := by simp [World.frozen?, HQ.out]
  obtain ⟨v0, v1, v2⟩ := row3 HA.out
  obtain ⟨u0, u1, u2⟩ := row3 HB.out
  have n1 : g15 ≠ w.heap.size := by omega
  have n2 : g15 ≠ w.heap.size + 1 := by omega
  go_wp2_with fail
  clear v0 v1 v2 u0 u1 u2 q0 qf
  replace HQ : Hid ((w5.setCell ⟨g15, 0, none⟩ .nilFunc).heap[g15]? = some (.cells #[.nilFunc] 27 (0, 0))) := blk_set _ HQ.out
  replace HA := show Hid _ from (Below.heap_setCell w5 ⟨g15, 0, none⟩ .nilFunc _ (Ne.symm n1)).trans HA.out
  replace HB := show Hid _ from (Below.heap_setCell w5 ⟨g15, 0, none⟩ .nilFunc _ (Ne.symm n2)).trans HB.out
  replace HW := show Hid _ from HW.out.setCell (p := ⟨g15, 0, none⟩) (by dsimp only; omega) .nilFunc
  have hz6 : g15 < (w5.setCell ⟨g15, 0, none⟩ .nilFunc).heap.size := by rw [setSize]; exact hz5
  generalize w5.setCell ⟨g15, 0, none⟩ .nilFunc = w6 at *
  refine (new10_any v u w6).mono ?_
  rintro e w7 ⟨rfl, hb⟩
  replace HQ := show Hid _ from (hb.block g15 (by omega)).trans HQ.out
  replace HA := show Hid _ from (hb.block _ (by omega)).trans HA.out
  replace HB := show Hid _ from (hb.block _ (by omega)).trans HB.out
  replace HW : Hid (Below w.heap.size w w7) := HW.out.trans (hb.mono (by omega))
  have hz7 : g15 < w7.heap.size := by have := hb.size; omega
  clear hb hz6
  go_wp2_with fail
  have HR : Hid (Rat (w7.alloc (.cells #[.int .u64 (v 0 : Nat), .int .u64 (v 1 : Nat), .int .u64 (v 2 : Nat), .int .u64 (u 0 : Nat), .int .u64 (u 1 : Nat), .int .u64 (u 2 : Nat)] 31)) w7.heap.size v u) := heap_alloc_new w7 _
  have hz8 : w7.heap.size < (w7.alloc (.cells #[.int .u64 (v 0 : Nat), .int .u64 (v 1 : Nat), .int .u64 (v 2 : Nat), .int .u64 (u 0 : Nat), .int .u64 (u 1 : Nat), .int .u64 (u 2 : Nat)] 31)).heap.size := by simp
  replace HQ := show Hid _ from (Below.heap_alloc w7 (.cells #[.int .u64 (v 0 : Nat), .int .u64 (v 1 : Nat), .int .u64 (v 2 : Nat), .int .u64 (u 0 : Nat), .int .u64 (u 1 : Nat), .int .u64 (u 2 : Nat)] 31) _ (by omega)).trans HQ.out
  replace HA := show Hid _ from (Below.heap_alloc w7 (.cells #[.int .u64 (v 0 : Nat), .int .u64 (v 1 : Nat), .int .u64 (v 2 : Nat), .int .u64 (u 0 : Nat), .int .u64 (u 1 : Nat), .int .u64 (u 2 : Nat)] 31) _ (by omega)).trans HA.out
  replace HB := show Hid _ from (Below.heap_alloc w7 (.cells #[.int .u64 (v 0 : Nat), .int .u64 (v 1 : Nat), .int .u64 (v 2 : Nat), .int .u64 (u 0 : Nat), .int .u64 (u 1 : Nat), .int .u64 (u 2 : Nat)] 31) _ (by omega)).trans HB.out
  replace HW := show Hid _ from HW.out.alloc (by omega) (.cells #[.int .u64 (v 0 : Nat), .int .u64 (v 1 : Nat), .int .u64 (v 2 : Nat), .int .u64 (u 0 : Nat), .int .u64 (u 1 : Nat), .int .u64 (u 2 : Nat)] 31)
  generalize w7.alloc (.cells #[.int .u64 (v 0 : Nat), .int .u64 (v 1 : Nat), .int .u64 (v 2 : Nat), .int .u64 (u 0 : Nat), .int .u64 (u 1 : Nat), .int .u64 (u 2 : Nat)] 31) = w8 at *
  generalize w7.heap.size = g16 at *
  have HS : Hid (S7 g15 (.nilFunc) g16 v u w8) := ⟨cell_of_row _ _ _ _ _ _ HQ.out, (rat6 HR.out).1, (rat6 HR.out).2.1, (rat6 HR.out).2.2.1, (rat6 HR.out).2.2.2.1, (rat6 HR.out).2.2.2.2.1, (rat6 HR.out).2.2.2.2.2⟩
  have k15 : g15 < w8.heap.size := by omega
  go_cut [17] (fun v17 wx => ∃ g17 : Nat, v17 = .pointer (some ⟨g17, 0, none⟩) ∧ g17 < wx.heap.size ∧ AtR wx g17 (v) (u) ∧ Below w8.heap.size w8 wx)
  case first =>
    go_region_held3 (fun w' => w'.cell? ⟨g15, 0, none⟩ = some (.nilFunc) ∧ w'.cell? ⟨g16, 0, none⟩ = some (.int .u64 (v 0 : Nat)) ∧ w'.cell? ⟨g16, 1, none⟩ = some (.int .u64 (v 1 : Nat)) ∧ w'.cell? ⟨g16, 2, none⟩ = some (.int .u64 (v 2 : Nat)) ∧ w'.cell? ⟨g16, 3, none⟩ = some (.int .u64 (u 0 : Nat)) ∧ w'.cell? ⟨g16, 4, none⟩ = some (.int .u64 (u 1 : Nat)) ∧ w'.cell? ⟨g16, 5, none⟩ = some (.int .u64 (u 2 : Nat)))
      ((show S7 g15 (.nilFunc) g16 v u _; (repeat (first | with_reducible exact HS.out | with_reducible refine s7_drew ?_ | with_reducible refine s7_alloc _ ?_ ?_ ?_ | with_reducible refine s7_setCell _ _ ?_ ?_ ?_ | with_reducible refine s7_below HB4.out ?_ ?_ ?_ | with_reducible refine s7_below HB3.out ?_ ?_ ?_)); all_goals (first | omega | (simp only [drewSize, allocSize]; omega))))
      (first
        | (go_at_call_of 11 (Value.int IntKind.i64 (f : Nat)); refine (zzleast_mk v u _ _ _ _).mono ?_; rintro e y3 ⟨rfl, hb3⟩; obtain ⟨hc3, hf3⟩ := bcellM hb3; have HB3 := show Hid _ from hb3; have hsz3 := hb3.size; (try simp at hsz3); (try simp at hc3); (try simp at hf3); clear hb3; (try have z3 : w8.heap.size < y3.heap.size := by omega))
        | (go_at_call_of 11 (Value.int IntKind.i64 (s : Nat)); refine (zzleast_mk v u _ _ _ _).mono ?_; rintro e y4 ⟨rfl, hb4⟩; obtain ⟨hc4, hf4⟩ := bcellM hb4; have HB4 := show Hid _ from hb4; have hsz4 := hb4.size; (try simp at hsz4); (try simp at hc4); (try simp at hf4); clear hb4; (try have z4 : y3.heap.size < y4.heap.size := by omega); (try have z6 : w8.heap.size < y4.heap.size := by omega)))
    all_goals
      go_wp2_with fail
      go_meet
      case rel =>
        refine ⟨_, rfl, ?_, ?_, ?_⟩
        · first | (simp only [allocSize, setSize]; omega) | (simp; omega) | simp
        all_goals ((repeat (first
          | with_reducible exact Below.refl _ _
          | with_reducible refine atR_six ?_ ?_ ?_ ?_ ?_ ?_
          | with_reducible refine atR_new _ ?_
          | with_reducible refine atR_alloc _ ?_ ?_
          | with_reducible refine bl_drew ?_
          | with_reducible refine bl_alloc _ ?_ ?_
          | with_reducible refine bl_setCell _ _ ?_ ?_
          | with_reducible refine bl_call HB4.out ?_ ?_
          | with_reducible refine bl_call HB3.out ?_ ?_)); all_goals (first | omega | (simp only [drewSize, allocSize]; omega) | (dsimp only; omega) | (simp [go_sem, *]; done)))
  case rest =>
    obtain ⟨g17, rfl, hz17, h17, hbc⟩ := hcut
    have H17 : Hid _ := h17
    have HBC : Hid _ := hbc
    clear h17 hbc HS
    replace HQ := show Hid _ from (HBC.out.block g15 (by omega)).trans HQ.out
    replace HA := show Hid _ from (HBC.out.block _ (by omega)).trans HA.out
    replace HB := show Hid _ from (HBC.out.block _ (by omega)).trans HB.out
    replace HR := show Hid _ from rat_below HR.out HBC.out (by omega)
    replace HW := show Hid _ from HW.out.trans (HBC.out.mono (by omega))
    have hz9 : w8.heap.size ≤ wc.heap.size := HBC.out.size
    clear HBC
    have q0 : wc.cell? ⟨g15, 0, none⟩ = some (.nilFunc) := cell_of_row _ _ _ _ _ _ HQ.out
    obtain ⟨r0, r1, r2, r3, r4, r5⟩ := rat6 HR.out
    go_wp2_with fail
    clear q0 r0 r1 r2 r3 r4 r5
    refine (zzleast_mk v u _ _ _ _).mono ?_
    rintro e w9 ⟨rfl, hb⟩
    replace HA := show Hid _ from (hb.block _ (by omega)).trans HA.out
    replace HB := show Hid _ from (hb.block _ (by omega)).trans HB.out
    replace H17 := show Hid _ from atR_below hb H17.out (by omega)
    replace HW : Hid (Below w.heap.size w w9) := HW.out.trans (hb.mono (by omega))
    have hz10 := hb.size
    clear hb HQ HR
    replace hz17 : g17 < w9.heap.size := by omega
    have hzA : w.heap.size + 1 < w9.heap.size := by omega
    clear hz10 hz9 k15 hz8 hz7
    obtain ⟨v0, v1, v2⟩ := row3 HA.out
    obtain ⟨u0, u1, u2⟩ := row3 HB.out
    have k1 : w.heap.size < w9.heap.size := by omega
    have k2 : w.heap.size < w9.heap.size + 1 := by omega
    have k3 : w.heap.size < w9.heap.size + 1 + 1 := by omega
    have k4 : w.heap.size + 1 < w9.heap.size + 1 + 1 := by omega
    have k5 : w.heap.size + 1 < w9.heap.size + 1 := by omega
    go_wp2_with fail
    clear v0 v1 v2 u0 u1 u2 k1 k2 k3 k4 k5
    have H18 : Hid (Rat (((w9.alloc (.cells #[.int .u64 (v 0 : Nat), .int .u64 (v 1 : Nat), .int .u64 (v 2 : Nat), .int .u64 (u 0 : Nat), .int .u64 (u 1 : Nat), .int .u64 (u 2 : Nat)] 31)).alloc (.cells #[.int .u64 (v 0 : Nat), .int .u64 (v 1 : Nat), .int .u64 (v 2 : Nat)] 23)).alloc (.cells #[.int .u64 (u 0 : Nat), .int .u64 (u 1 : Nat), .int .u64 (u 2 : Nat)] 23)) w9.heap.size (v) (u)) := by
      show _ = _
      rw [Below.heap_alloc _ _ _ (by simp; omega), Below.heap_alloc _ _ _ (by simp)]; exact heap_alloc_new w9 _
    have H19 : Hid ((((w9.alloc (.cells #[.int .u64 (v 0 : Nat), .int .u64 (v 1 : Nat), .int .u64 (v 2 : Nat), .int .u64 (u 0 : Nat), .int .u64 (u 1 : Nat), .int .u64 (u 2 : Nat)] 31)).alloc (.cells #[.int .u64 (v 0 : Nat), .int .u64 (v 1 : Nat), .int .u64 (v 2 : Nat)] 23)).alloc (.cells #[.int .u64 (u 0 : Nat), .int .u64 (u 1 : Nat), .int .u64 (u 2 : Nat)] 23)).heap[w9.heap.size + 1]? = some (.cells #[.int .u64 (v 0 : Nat), .int .u64 (v 1 : Nat), .int .u64 (v 2 : Nat)] 23 (0, 0))) := by
      show _ = _
      rw [Below.heap_alloc _ _ _ (by simp)]; exact heap_alloc_at _ _ _ (by simp)
    have H20 : Hid ((((w9.alloc (.cells #[.int .u64 (v 0 : Nat), .int .u64 (v 1 : Nat), .int .u64 (v 2 : Nat), .int .u64 (u 0 : Nat), .int .u64 (u 1 : Nat), .int .u64 (u 2 : Nat)] 31)).alloc (.cells #[.int .u64 (v 0 : Nat), .int .u64 (v 1 : Nat), .int .u64 (v 2 : Nat)] 23)).alloc (.cells #[.int .u64 (u 0 : Nat), .int .u64 (u 1 : Nat), .int .u64 (u 2 : Nat)] 23)).heap[w9.heap.size + 1 + 1]? = some (.cells #[.int .u64 (u 0 : Nat), .int .u64 (u 1 : Nat), .int .u64 (u 2 : Nat)] 23 (0, 0))) := heap_alloc_at _ _ _ (by simp)
    have hz11 : (((w9.alloc (.cells #[.int .u64 (v 0 : Nat), .int .u64 (v 1 : Nat), .int .u64 (v 2 : Nat), .int .u64 (u 0 : Nat), .int .u64 (u 1 : Nat), .int .u64 (u 2 : Nat)] 31)).alloc (.cells #[.int .u64 (v 0 : Nat), .int .u64 (v 1 : Nat), .int .u64 (v 2 : Nat)] 23)).alloc (.cells #[.int .u64 (u 0 : Nat), .int .u64 (u 1 : Nat), .int .u64 (u 2 : Nat)] 23)).heap.size = w9.heap.size + 3 := by simp
    replace H17 : Hid (AtR (((w9.alloc (.cells #[.int .u64 (v 0 : Nat), .int .u64 (v 1 : Nat), .int .u64 (v 2 : Nat), .int .u64 (u 0 : Nat), .int .u64 (u 1 : Nat), .int .u64 (u 2 : Nat)] 31)).alloc (.cells #[.int .u64 (v 0 : Nat), .int .u64 (v 1 : Nat), .int .u64 (v 2 : Nat)] 23)).alloc (.cells #[.int .u64 (u 0 : Nat), .int .u64 (u 1 : Nat), .int .u64 (u 2 : Nat)] 23)) g17 (v) (u)) := atR_alloc _ (atR_alloc _ (atR_alloc _ H17.out hz17) (by simp; omega)) (by simp; omega)
    replace HW : Hid (Below w.heap.size w (((w9.alloc (.cells #[.int .u64 (v 0 : Nat), .int .u64 (v 1 : Nat), .int .u64 (v 2 : Nat), .int .u64 (u 0 : Nat), .int .u64 (u 1 : Nat), .int .u64 (u 2 : Nat)] 31)).alloc (.cells #[.int .u64 (v 0 : Nat), .int .u64 (v 1 : Nat), .int .u64 (v 2 : Nat)] 23)).alloc (.cells #[.int .u64 (u 0 : Nat), .int .u64 (u 1 : Nat), .int .u64 (u 2 : Nat)] 23))) := ((HW.out.alloc (by omega) _).alloc (by simp; omega) _).alloc (by simp; omega) _
    clear HA HB
    generalize (((w9.alloc (.cells #[.int .u64 (v 0 : Nat), .int .u64 (v 1 : Nat), .int .u64 (v 2 : Nat), .int .u64 (u 0 : Nat), .int .u64 (u 1 : Nat), .int .u64 (u 2 : Nat)] 31)).alloc (.cells #[.int .u64 (v 0 : Nat), .int .u64 (v 1 : Nat), .int .u64 (v 2 : Nat)] 23)).alloc (.cells #[.int .u64 (u 0 : Nat), .int .u64 (u 1 : Nat), .int .u64 (u 2 : Nat)] 23)) = w10 at *
    generalize w9.heap.size = g18 at *
    have hz12 : g18 + 3 ≤ w10.heap.size := by omega
    clear hz11
    obtain ⟨w12, hw12⟩ : ∃ y, y = w10 := ⟨_, rfl⟩
    rw [← hw12] at H17 H18 H19 H20 HW hz12 ⊢
    clear hw12
    have hq3 := eqI3_self (v)
    have hq4 := eqI3_self (u)
    refine (value13_any (v) (u) w12).mono ?_
    rintro e w13 ⟨rfl, hb⟩
    replace H17 := show Hid _ from atR_below hb H17.out (by omega)
    replace H18 := show Hid _ from rat_below H18.out hb (by omega)
    replace H19 := show Hid _ from (hb.block _ (by omega)).trans H19.out
    replace H20 := show Hid _ from (hb.block _ (by omega)).trans H20.out
    replace HW : Hid (Below w.heap.size w w13) := HW.out.trans (hb.mono (by omega))
    have hz13 : g18 + 3 ≤ w13.heap.size := by have := hb.size; omega
    clear hb hz12
    obtain ⟨r0, r1, r2, r3, r4, r5⟩ := rat6 H18.out
    have k1 : g18 < w13.heap.size := by omega
    go_wp2_with fail
    clear r0 r1 r2 r3 r4 r5 k1
    refine (weight14_any (v) (u) _).mono ?_
    rintro e w14 ⟨rfl, hb⟩
    have hs13 : (w13.alloc (.cells #[.int .u64 (v 0 : Nat), .int .u64 (v 1 : Nat), .int .u64 (v 2 : Nat)] 23)).heap.size = w13.heap.size + 1 := by simp
    have H21 : Hid (w14.heap[w13.heap.size]? = some (.cells #[.int .u64 (v 0 : Nat), .int .u64 (v 1 : Nat), .int .u64 (v 2 : Nat)] 23 (0, 0))) := (hb.block _ (by omega)).trans (heap_alloc_new w13 _)
    replace H17 := show Hid _ from atR_below hb (atR_alloc _ H17.out (by omega)) (by omega)
    replace H19 := show Hid _ from (hb.block _ (by omega)).trans ((Below.heap_alloc w13 _ _ (by omega)).trans H19.out)
    replace H20 := show Hid _ from (hb.block _ (by omega)).trans ((Below.heap_alloc w13 _ _ (by omega)).trans H20.out)
    replace HW : Hid (Below w.heap.size w w14) := (HW.out.alloc (by omega) _).trans (hb.mono (by omega))
    have hz14 : w13.heap.size < w14.heap.size := by have := hb.size; omega
    clear hb hs13 H18
    go_wp2_with fail
    have HS : Hid (S18 g17 w13.heap.size w14.heap.size (g18 + 1) (g18 + 1 + 1) (v) (u) (w14.alloc (.cells #[.int .u64 (u 0 : Nat), .int .u64 (u 1 : Nat), .int .u64 (u 2 : Nat)] 23))) := by
      have e22 : (w14.alloc (.cells #[.int .u64 (u 0 : Nat), .int .u64 (u 1 : Nat), .int .u64 (u 2 : Nat)] 23)).heap[w14.heap.size]? = some (.cells #[.int .u64 (u 0 : Nat), .int .u64 (u 1 : Nat), .int .u64 (u 2 : Nat)] 23 (0, 0)) := heap_alloc_new w14 _
      have e21 := (Below.heap_alloc w14 (.cells #[.int .u64 (u 0 : Nat), .int .u64 (u 1 : Nat), .int .u64 (u 2 : Nat)] 23) _ (by omega)).trans H21.out
      have e19 := (Below.heap_alloc w14 (.cells #[.int .u64 (u 0 : Nat), .int .u64 (u 1 : Nat), .int .u64 (u 2 : Nat)] 23) _ (by omega)).trans H19.out
      have e20 := (Below.heap_alloc w14 (.cells #[.int .u64 (u 0 : Nat), .int .u64 (u 1 : Nat), .int .u64 (u 2 : Nat)] 23) _ (by omega)).trans H20.out
      have a := atR_alloc (.cells #[.int .u64 (u 0 : Nat), .int .u64 (u 1 : Nat), .int .u64 (u 2 : Nat)] 23) H17.out (by omega)
      exact ⟨a.1, a.2.1, a.2.2.1, a.2.2.2.1, a.2.2.2.2.1, a.2.2.2.2.2, (row3 e21).1, (row3 e21).2.1, (row3 e21).2.2, (row3 e22).1, (row3 e22).2.1, (row3 e22).2.2, (row3 e19).1, (row3 e19).2.1, (row3 e19).2.2, (row3 e20).1, (row3 e20).2.1, (row3 e20).2.2⟩
    replace HW := show Hid _ from HW.out.alloc (by omega) (.cells #[.int .u64 (u 0 : Nat), .int .u64 (u 1 : Nat), .int .u64 (u 2 : Nat)] 23)
    have hz15 : (w14.alloc (.cells #[.int .u64 (u 0 : Nat), .int .u64 (u 1 : Nat), .int .u64 (u 2 : Nat)] 23)).heap.size = w14.heap.size + 1 := by simp
    clear H17 H19 H20 H21
    generalize w14.alloc (.cells #[.int .u64 (u 0 : Nat), .int .u64 (u 1 : Nat), .int .u64 (u 2 : Nat)] 23) = w15 at *
    generalize w13.heap.size = g21 at *
    generalize w14.heap.size = g22 at *
    have heq := eq23
    go_region_held3 (fun w' => w'.cell? ⟨g17, 0, none⟩ = some (.int .u64 (v 0 : Nat)) ∧ w'.cell? ⟨g17, 1, none⟩ = some (.int .u64 (v 1 : Nat)) ∧ w'.cell? ⟨g17, 2, none⟩ = some (.int .u64 (v 2 : Nat)) ∧ w'.cell? ⟨g17, 3, none⟩ = some (.int .u64 (u 0 : Nat)) ∧ w'.cell? ⟨g17, 4, none⟩ = some (.int .u64 (u 1 : Nat)) ∧ w'.cell? ⟨g17, 5, none⟩ = some (.int .u64 (u 2 : Nat)) ∧ w'.cell? ⟨g21, 0, none⟩ = some (.int .u64 (v 0 : Nat)) ∧ w'.cell? ⟨g21, 1, none⟩ = some (.int .u64 (v 1 : Nat)) ∧ w'.cell? ⟨g21, 2, none⟩ = some (.int .u64 (v 2 : Nat)) ∧ w'.cell? ⟨g22, 0, none⟩ = some (.int .u64 (u 0 : Nat)) ∧ w'.cell? ⟨g22, 1, none⟩ = some (.int .u64 (u 1 : Nat)) ∧ w'.cell? ⟨g22, 2, none⟩ = some (.int .u64 (u 2 : Nat)) ∧ w'.cell? ⟨g18 + 1, 0, none⟩ = some (.int .u64 (v 0 : Nat)) ∧ w'.cell? ⟨g18 + 1, 1, none⟩ = some (.int .u64 (v 1 : Nat)) ∧ w'.cell? ⟨g18 + 1, 2, none⟩ = some (.int .u64 (v 2 : Nat)) ∧ w'.cell? ⟨g18 + 1 + 1, 0, none⟩ = some (.int .u64 (u 0 : Nat)) ∧ w'.cell? ⟨g18 + 1 + 1, 1, none⟩ = some (.int .u64 (u 1 : Nat)) ∧ w'.cell? ⟨g18 + 1 + 1, 2, none⟩ = some (.int .u64 (u 2 : Nat)))
      ((show S18 g17 g21 g22 (g18 + 1) (g18 + 1 + 1) (v) (u) _; (repeat (first | with_reducible exact HS.out | with_reducible refine s18_drew ?_ | with_reducible refine s18_below HB14.out ?_ ?_ ?_ ?_ ?_ ?_ | with_reducible refine s18_below HB13.out ?_ ?_ ?_ ?_ ?_ ?_)); all_goals (first | omega | (simp only [drewSize]; omega))))
      (first
        | (go_at_call 13; refine (value13_any (v) (u) _).mono ?_; rintro e y3 ⟨rfl, hb3⟩; have HB13 := show Hid _ from hb3; have hsz3 := hb3.size; (try simp at hsz3); clear hb3)
        | (go_at_call 14; refine (weight14_any (v) (u) _).mono ?_; rintro e y4 ⟨rfl, hb4⟩; have HB14 := show Hid _ from hb4; have hsz4 := hb4.size; (try simp at hsz4); clear hb4))
    all_goals
      go_wp2_with fail
      go_ret
      refine ⟨rfl, ?_⟩
      (repeat (first | with_reducible exact HW.out | with_reducible refine bl_drew ?_ | with_reducible refine bl_call HB14.out ?_ ?_ | with_reducible refine bl_call HB13.out ?_ ?_))
      all_goals (first | omega | (simp only [drewSize]; omega))

set_option maxRecDepth 100000 in
set_option maxHeartbeats 6400000 in
theorem fn3_mean (v u : Nat → Nat) (f s r : Nat) (x : Int) (hv : W.Words v 3) (hu : W.Words u 3) (hfs : f + s < 9223372036854775808) (hr : r < 9223372036854775808) (hd : dom v u = true) (w : World) :
    Calls Try.prog 3 #[.bool false, .agg #[.int .u64 (v 0 : Nat), .int .u64 (v 1 : Nat), .int .u64 (v 2 : Nat)], .agg #[.int .u64 (u 0 : Nat), .int .u64 (u 1 : Nat), .int .u64 (u 2 : Nat)], .int .i64 (f : Nat), .int .i64 (s : Nat), .int .i64 x, .int .i64 (r : Nat)] w fun e w' => e = .returned (.bool true) ∧ Below w.heap.size w w' := by
  have d1 : decide (((f : Nat) : Int) < 0) = false := decide_eq_false (by omega)
  have d2 : decide (((s : Nat) : Int) < 0) = false := decide_eq_false (by omega)
  have d3 : decide (((r : Nat) : Int) < 0) = false := decide_eq_false (by omega)
  have e1 : IntKind.i64.wrap (9223372036854775807 - ((s : Nat) : Int)) = 9223372036854775807 - ((s : Nat) : Int) := by rw [IntKind.wrap_i64]; omega
  have e2 : IntKind.i64.wrap (((f : Nat) : Int) + ((s : Nat) : Int)) = ((f + s : Nat) : Int) := by rw [IntKind.wrap_i64]; omega
  have d4 : decide (9223372036854775807 - ((s : Nat) : Int) < ((f : Nat) : Int)) = false := decide_eq_false (by omega)
  have hf : f < 9223372036854775808 := by omega
  have hs : s < 9223372036854775808 := by omega
  have HTWO := show Hid _ from two_is_one v u f s r hv hu hd hfs hr
  have HLB : Hid (lbV v u (f + s) r = lstV v u (f + s) r ∧ lbU v u (f + s) r = lstU v u (f + s) r) := by
    obtain ⟨b1, b2, b3⟩ := dom_fit hv hu hd
    have m3 := mul63 (f + s) r (by omega) hr
    exact lb_lst ⟨hv, hu, by omega, by omega, b3⟩ (by omega)
  have HA : Hid (((w.alloc (.cells #[.int .u64 (v 0 : Nat), .int .u64 (v 1 : Nat), .int .u64 (v 2 : Nat)] 23)).alloc (.cells #[.int .u64 (u 0 : Nat), .int .u64 (u 1 : Nat), .int .u64 (u 2 : Nat)] 23)).heap[w.heap.size]? = some (.cells #[.int .u64 (v 0 : Nat), .int .u64 (v 1 : Nat), .int .u64 (v 2 : Nat)] 23 (0, 0))) := by show _ = _; rw [Below.heap_alloc _ _ _ (by simp)]; exact heap_alloc_new w _
  have HB : Hid (((w.alloc (.cells #[.int .u64 (v 0 : Nat), .int .u64 (v 1 : Nat), .int .u64 (v 2 : Nat)] 23)).alloc (.cells #[.int .u64 (u 0 : Nat), .int .u64 (u 1 : Nat), .int .u64 (u 2 : Nat)] 23)).heap[w.heap.size + 1]? = some (.cells #[.int .u64 (u 0 : Nat), .int .u64 (u 1 : Nat), .int .u64 (u 2 : Nat)] 23 (0, 0))) := heap_alloc_at _ _ _ (by simp)
  have HW : Hid (Below w.heap.size w ((w.alloc (.cells #[.int .u64 (v 0 : Nat), .int .u64 (v 1 : Nat), .int .u64 (v 2 : Nat)] 23)).alloc (.cells #[.int .u64 (u 0 : Nat), .int .u64 (u 1 : Nat), .int .u64 (u 2 : Nat)] 23))) := ((Below.refl _ _).alloc (Nat.le_refl _) _).alloc (by simp) _
  have HZ : w.heap.size + 2 ≤ ((w.alloc (.cells #[.int .u64 (v 0 : Nat), .int .u64 (v 1 : Nat), .int .u64 (v 2 : Nat)] 23)).alloc (.cells #[.int .u64 (u 0 : Nat), .int .u64 (u 1 : Nat), .int .u64 (u 2 : Nat)] 23)).heap.size := by simp
  go_enter Try.func3, Try.ntmps3
  go_wp2_with fail
  generalize ((w.alloc (.cells #[.int .u64 (v 0 : Nat), .int .u64 (v 1 : Nat), .int .u64 (v 2 : Nat)] 23)).alloc (.cells #[.int .u64 (u 0 : Nat), .int .u64 (u 1 : Nat), .int .u64 (u 2 : Nat)] 23)) = w1 at *
  refine (dom7_any v u w1).mono ?_
  rintro e w2 ⟨rfl, hb⟩
  replace HA := show Hid _ from (hb.block _ (by omega)).trans HA.out
  replace HB := show Hid _ from (hb.block _ (by omega)).trans HB.out
  replace HW : Hid (Below w.heap.size w w2) := HW.out.trans (hb.mono (by omega))
  replace HZ : w.heap.size + 2 ≤ w2.heap.size := Nat.le_trans HZ hb.size
  clear hb
  go_wp2_with fail
  refine (mean8_any w2).mono ?_
  rintro e w3 ⟨rfl, hb⟩
  replace HA := show Hid _ from (hb.block _ (by omega)).trans HA.out
  replace HB := show Hid _ from (hb.block _ (by omega)).trans HB.out
  replace HW : Hid (Below w.heap.size w w3) := HW.out.trans (hb.mono (by omega))
  replace HZ : w.heap.size + 2 ≤ w3.heap.size := Nat.le_trans HZ hb.size
  clear hb
  obtain ⟨v0, v1, v2⟩ := row3 HA.out
  obtain ⟨u0, u1, u2⟩ := row3 HB.out
  have k1 : w.heap.size < w3.heap.size := by omega
  have k2 : w.heap.size + 1 < w3.heap.size := by omega
  go_wp2_with fail
  clear v0 v1 v2 u0 u1 u2 k1 k2
  have HQ : Hid ((w3.alloc (.cells #[.func (.func 27) #[] #[]] 27)).heap[w3.heap.size]? = some (.cells #[.func (.func 27) #[] #[]] 27 (0, 0))) := heap_alloc_new w3 _
  have hz6 : w3.heap.size < (w3.alloc (.cells #[.func (.func 27) #[] #[]] 27)).heap.size := by simp
  replace HA := show Hid _ from (Below.heap_alloc w3 (.cells #[.func (.func 27) #[] #[]] 27) _ (by omega)).trans HA.out
  replace HB := show Hid _ from (Below.heap_alloc w3 (.cells #[.func (.func 27) #[] #[]] 27) _ (by omega)).trans HB.out
  replace HW := show Hid _ from HW.out.alloc (by omega) (.cells #[.func (.func 27) #[] #[]] 27)
  generalize w3.alloc (.cells #[.func (.func 27) #[] #[]] 27) = w6 at *
  generalize w3.heap.size = g15 at *
  refine (new10_any v u w6).mono ?_
  rintro e w7 ⟨rfl, hb⟩
  replace HQ := show Hid _ from (hb.block g15 (by omega)).trans HQ.out
  replace HA := show Hid _ from (hb.block _ (by omega)).trans HA.out
  replace HB := show Hid _ from (hb.block _ (by omega)).trans HB.out
  replace HW : Hid (Below w.heap.size w w7) := HW.out.trans (hb.mono (by omega))
  have hz7 : g15 < w7.heap.size := by have := hb.size; omega
  clear hb hz6
  go_wp2_with fail
  have HR : Hid (Rat (w7.alloc (.cells #[.int .u64 (v 0 : Nat), .int .u64 (v 1 : Nat), .int .u64 (v 2 : Nat), .int .u64 (u 0 : Nat), .int .u64 (u 1 : Nat), .int .u64 (u 2 : Nat)] 31)) w7.heap.size v u) := heap_alloc_new w7 _
  have hz8 : w7.heap.size < (w7.alloc (.cells #[.int .u64 (v 0 : Nat), .int .u64 (v 1 : Nat), .int .u64 (v 2 : Nat), .int .u64 (u 0 : Nat), .int .u64 (u 1 : Nat), .int .u64 (u 2 : Nat)] 31)).heap.size := by simp
  replace HQ := show Hid _ from (Below.heap_alloc w7 (.cells #[.int .u64 (v 0 : Nat), .int .u64 (v 1 : Nat), .int .u64 (v 2 : Nat), .int .u64 (u 0 : Nat), .int .u64 (u 1 : Nat), .int .u64 (u 2 : Nat)] 31) _ (by omega)).trans HQ.out
  replace HA := show Hid _ from (Below.heap_alloc w7 (.cells #[.int .u64 (v 0 : Nat), .int .u64 (v 1 : Nat), .int .u64 (v 2 : Nat), .int .u64 (u 0 : Nat), .int .u64 (u 1 : Nat), .int .u64 (u 2 : Nat)] 31) _ (by omega)).trans HA.out
  replace HB := show Hid _ from (Below.heap_alloc w7 (.cells #[.int .u64 (v 0 : Nat), .int .u64 (v 1 : Nat), .int .u64 (v 2 : Nat), .int .u64 (u 0 : Nat), .int .u64 (u 1 : Nat), .int .u64 (u 2 : Nat)] 31) _ (by omega)).trans HB.out
  replace HW := show Hid _ from HW.out.alloc (by omega) (.cells #[.int .u64 (v 0 : Nat), .int .u64 (v 1 : Nat), .int .u64 (v 2 : Nat), .int .u64 (u 0 : Nat), .int .u64 (u 1 : Nat), .int .u64 (u 2 : Nat)] 31)
  generalize w7.alloc (.cells #[.int .u64 (v 0 : Nat), .int .u64 (v 1 : Nat), .int .u64 (v 2 : Nat), .int .u64 (u 0 : Nat), .int .u64 (u 1 : Nat), .int .u64 (u 2 : Nat)] 31) = w8 at *
  generalize w7.heap.size = g16 at *
  have HS : Hid (S7 g15 (.func (.func 27) #[] #[]) g16 v u w8) := ⟨cell_of_row _ _ _ _ _ _ HQ.out, (rat6 HR.out).1, (rat6 HR.out).2.1, (rat6 HR.out).2.2.1, (rat6 HR.out).2.2.2.1, (rat6 HR.out).2.2.2.2.1, (rat6 HR.out).2.2.2.2.2⟩
  have k15 : g15 < w8.heap.size := by omega
  go_cut [17] (fun v17 wx => ∃ g17 : Nat, v17 = .pointer (some ⟨g17, 0, none⟩) ∧ g17 < wx.heap.size ∧ AtR wx g17 (lstV (lstV v u f r) (lstU v u f r) s r) (lstU (lstV v u f r) (lstU v u f r) s r) ∧ Below w8.heap.size w8 wx)
  case first =>
    go_region_held3 (fun w' => w'.cell? ⟨g15, 0, none⟩ = some (.func (.func 27) #[] #[]) ∧ w'.cell? ⟨g16, 0, none⟩ = some (.int .u64 (v 0 : Nat)) ∧ w'.cell? ⟨g16, 1, none⟩ = some (.int .u64 (v 1 : Nat)) ∧ w'.cell? ⟨g16, 2, none⟩ = some (.int .u64 (v 2 : Nat)) ∧ w'.cell? ⟨g16, 3, none⟩ = some (.int .u64 (u 0 : Nat)) ∧ w'.cell? ⟨g16, 4, none⟩ = some (.int .u64 (u 1 : Nat)) ∧ w'.cell? ⟨g16, 5, none⟩ = some (.int .u64 (u 2 : Nat)))
      ((show S7 g15 (.func (.func 27) #[] #[]) g16 v u _; (repeat (first | with_reducible exact HS.out | with_reducible refine s7_drew ?_ | with_reducible refine s7_alloc _ ?_ ?_ ?_ | with_reducible refine s7_setCell _ _ ?_ ?_ ?_ | with_reducible refine s7_below HB4.out ?_ ?_ ?_ | with_reducible refine s7_below HB3.out ?_ ?_ ?_)); all_goals (first | omega | (simp only [drewSize, allocSize]; omega))))
      (first
        | (go_at_call_of 11 (v 0); refine (zzleast_any v u f r x hv hu hf hr _).mono ?_; rintro e y3 ⟨rfl, hb3⟩; obtain ⟨hc3, hf3⟩ := bcellM hb3; have HB3 := show Hid _ from hb3; have hsz3 := hb3.size; (try simp at hsz3); (try simp at hc3); (try simp at hf3); clear hb3; (try have z3 : w8.heap.size < y3.heap.size := by omega))
        | (go_at_call_of 11 (lstV v u f r 0); refine (zzleast_any (lstV v u f r) (lstU v u f r) s r x (lstV_words hv) (lstU_words hu) hs hr _).mono ?_; rintro e y4 ⟨rfl, hb4⟩; obtain ⟨hc4, hf4⟩ := bcellM hb4; have HB4 := show Hid _ from hb4; have hsz4 := hb4.size; (try simp at hsz4); (try simp at hc4); (try simp at hf4); clear hb4; (try have z4 : y3.heap.size < y4.heap.size := by omega); (try have z6 : w8.heap.size < y4.heap.size := by omega)))
    all_goals
      go_wp2_with fail
      go_meet
      case rel =>
        refine ⟨_, rfl, ?_, ?_, ?_⟩
        · first | (simp only [allocSize, setSize]; omega) | (simp; omega) | simp
        all_goals ((repeat (first
          | with_reducible exact Below.refl _ _
          | with_reducible refine atR_six ?_ ?_ ?_ ?_ ?_ ?_
          | with_reducible refine atR_new _ ?_
          | with_reducible refine atR_alloc _ ?_ ?_
          | with_reducible refine bl_drew ?_
          | with_reducible refine bl_alloc _ ?_ ?_
          | with_reducible refine bl_setCell _ _ ?_ ?_
          | with_reducible refine bl_call HB4.out ?_ ?_
          | with_reducible refine bl_call HB3.out ?_ ?_)); all_goals (first | omega | (simp only [drewSize, allocSize]; omega) | (dsimp only; omega) | (simp [go_sem, *]; done)))
  case rest =>
    obtain ⟨g17, rfl, hz17, h17, hbc⟩ := hcut
    have H17 : Hid _ := h17
    have HBC : Hid _ := hbc
    clear h17 hbc HS
    replace HQ := show Hid _ from (HBC.out.block g15 (by omega)).trans HQ.out
    replace HA := show Hid _ from (HBC.out.block _ (by omega)).trans HA.out
    replace HB := show Hid _ from (HBC.out.block _ (by omega)).trans HB.out
    replace HR := show Hid _ from rat_below HR.out HBC.out (by omega)
    replace HW := show Hid _ from HW.out.trans (HBC.out.mono (by omega))
    have hz9 : w8.heap.size ≤ wc.heap.size := HBC.out.size
    clear HBC
    have q0 : wc.cell? ⟨g15, 0, none⟩ = some (.func (.func 27) #[] #[]) := cell_of_row _ _ _ _ _ _ HQ.out
    obtain ⟨r0, r1, r2, r3, r4, r5⟩ := rat6 HR.out
    go_wp2_with fail
    clear q0 r0 r1 r2 r3 r4 r5
    refine (zzleast_any v u (f + s) r x hv hu hfs hr _).mono ?_
    rintro e w9 ⟨rfl, hb⟩
    replace HA := show Hid _ from (hb.block _ (by omega)).trans HA.out
    replace HB := show Hid _ from (hb.block _ (by omega)).trans HB.out
    replace H17 := show Hid _ from atR_below hb H17.out (by omega)
    replace HW : Hid (Below w.heap.size w w9) := HW.out.trans (hb.mono (by omega))
    have hz10 := hb.size
    clear hb HQ HR
    replace hz17 : g17 < w9.heap.size := by omega
    have hzA : w.heap.size + 1 < w9.heap.size := by omega
    clear hz10 hz9 k15 hz8 hz7
    obtain ⟨v0, v1, v2⟩ := row3 HA.out
    obtain ⟨u0, u1, u2⟩ := row3 HB.out
    have k1 : w.heap.size < w9.heap.size := by omega
    have k2 : w.heap.size < w9.heap.size + 1 := by omega
    have k3 : w.heap.size < w9.heap.size + 1 + 1 := by omega
    have k4 : w.heap.size + 1 < w9.heap.size + 1 + 1 := by omega
    have k5 : w.heap.size + 1 < w9.heap.size + 1 := by omega
    go_wp2_with fail
    clear v0 v1 v2 u0 u1 u2 k1 k2 k3 k4 k5
    have H18 : Hid (Rat (((w9.alloc (.cells #[.int .u64 (lstV v u (f + s) r 0 : Nat), .int .u64 (lstV v u (f + s) r 1 : Nat), .int .u64 (lstV v u (f + s) r 2 : Nat), .int .u64 (lstU v u (f + s) r 0 : Nat), .int .u64 (lstU v u (f + s) r 1 : Nat), .int .u64 (lstU v u (f + s) r 2 : Nat)] 31)).alloc (.cells #[.int .u64 (v 0 : Nat), .int .u64 (v 1 : Nat), .int .u64 (v 2 : Nat)] 23)).alloc (.cells #[.int .u64 (u 0 : Nat), .int .u64 (u 1 : Nat), .int .u64 (u 2 : Nat)] 23)) w9.heap.size (lstV v u (f + s) r) (lstU v u (f + s) r)) := by
      show _ = _
      rw [Below.heap_alloc _ _ _ (by simp; omega), Below.heap_alloc _ _ _ (by simp)]; exact heap_alloc_new w9 _
    have H19 : Hid ((((w9.alloc (.cells #[.int .u64 (lstV v u (f + s) r 0 : Nat), .int .u64 (lstV v u (f + s) r 1 : Nat), .int .u64 (lstV v u (f + s) r 2 : Nat), .int .u64 (lstU v u (f + s) r 0 : Nat), .int .u64 (lstU v u (f + s) r 1 : Nat), .int .u64 (lstU v u (f + s) r 2 : Nat)] 31)).alloc (.cells #[.int .u64 (v 0 : Nat), .int .u64 (v 1 : Nat), .int .u64 (v 2 : Nat)] 23)).alloc (.cells #[.int .u64 (u 0 : Nat), .int .u64 (u 1 : Nat), .int .u64 (u 2 : Nat)] 23)).heap[w9.heap.size + 1]? = some (.cells #[.int .u64 (v 0 : Nat), .int .u64 (v 1 : Nat), .int .u64 (v 2 : Nat)] 23 (0, 0))) := by
      show _ = _
      rw [Below.heap_alloc _ _ _ (by simp)]; exact heap_alloc_at _ _ _ (by simp)
    have H20 : Hid ((((w9.alloc (.cells #[.int .u64 (lstV v u (f + s) r 0 : Nat), .int .u64 (lstV v u (f + s) r 1 : Nat), .int .u64 (lstV v u (f + s) r 2 : Nat), .int .u64 (lstU v u (f + s) r 0 : Nat), .int .u64 (lstU v u (f + s) r 1 : Nat), .int .u64 (lstU v u (f + s) r 2 : Nat)] 31)).alloc (.cells #[.int .u64 (v 0 : Nat), .int .u64 (v 1 : Nat), .int .u64 (v 2 : Nat)] 23)).alloc (.cells #[.int .u64 (u 0 : Nat), .int .u64 (u 1 : Nat), .int .u64 (u 2 : Nat)] 23)).heap[w9.heap.size + 1 + 1]? = some (.cells #[.int .u64 (u 0 : Nat), .int .u64 (u 1 : Nat), .int .u64 (u 2 : Nat)] 23 (0, 0))) := heap_alloc_at _ _ _ (by simp)
    have hz11 : (((w9.alloc (.cells #[.int .u64 (lstV v u (f + s) r 0 : Nat), .int .u64 (lstV v u (f + s) r 1 : Nat), .int .u64 (lstV v u (f + s) r 2 : Nat), .int .u64 (lstU v u (f + s) r 0 : Nat), .int .u64 (lstU v u (f + s) r 1 : Nat), .int .u64 (lstU v u (f + s) r 2 : Nat)] 31)).alloc (.cells #[.int .u64 (v 0 : Nat), .int .u64 (v 1 : Nat), .int .u64 (v 2 : Nat)] 23)).alloc (.cells #[.int .u64 (u 0 : Nat), .int .u64 (u 1 : Nat), .int .u64 (u 2 : Nat)] 23)).heap.size = w9.heap.size + 3 := by simp
    replace H17 : Hid (AtR (((w9.alloc (.cells #[.int .u64 (lstV v u (f + s) r 0 : Nat), .int .u64 (lstV v u (f + s) r 1 : Nat), .int .u64 (lstV v u (f + s) r 2 : Nat), .int .u64 (lstU v u (f + s) r 0 : Nat), .int .u64 (lstU v u (f + s) r 1 : Nat), .int .u64 (lstU v u (f + s) r 2 : Nat)] 31)).alloc (.cells #[.int .u64 (v 0 : Nat), .int .u64 (v 1 : Nat), .int .u64 (v 2 : Nat)] 23)).alloc (.cells #[.int .u64 (u 0 : Nat), .int .u64 (u 1 : Nat), .int .u64 (u 2 : Nat)] 23)) g17 (lstV (lstV v u f r) (lstU v u f r) s r) (lstU (lstV v u f r) (lstU v u f r) s r)) := atR_alloc _ (atR_alloc _ (atR_alloc _ H17.out hz17) (by simp; omega)) (by simp; omega)
    replace HW : Hid (Below w.heap.size w (((w9.alloc (.cells #[.int .u64 (lstV v u (f + s) r 0 : Nat), .int .u64 (lstV v u (f + s) r 1 : Nat), .int .u64 (lstV v u (f + s) r 2 : Nat), .int .u64 (lstU v u (f + s) r 0 : Nat), .int .u64 (lstU v u (f + s) r 1 : Nat), .int .u64 (lstU v u (f + s) r 2 : Nat)] 31)).alloc (.cells #[.int .u64 (v 0 : Nat), .int .u64 (v 1 : Nat), .int .u64 (v 2 : Nat)] 23)).alloc (.cells #[.int .u64 (u 0 : Nat), .int .u64 (u 1 : Nat), .int .u64 (u 2 : Nat)] 23))) := ((HW.out.alloc (by omega) _).alloc (by simp; omega) _).alloc (by simp; omega) _
    clear HA HB
    generalize (((w9.alloc (.cells #[.int .u64 (lstV v u (f + s) r 0 : Nat), .int .u64 (lstV v u (f + s) r 1 : Nat), .int .u64 (lstV v u (f + s) r 2 : Nat), .int .u64 (lstU v u (f + s) r 0 : Nat), .int .u64 (lstU v u (f + s) r 1 : Nat), .int .u64 (lstU v u (f + s) r 2 : Nat)] 31)).alloc (.cells #[.int .u64 (v 0 : Nat), .int .u64 (v 1 : Nat), .int .u64 (v 2 : Nat)] 23)).alloc (.cells #[.int .u64 (u 0 : Nat), .int .u64 (u 1 : Nat), .int .u64 (u 2 : Nat)] 23)) = w10 at *
    generalize w9.heap.size = g18 at *
    refine (leastByCount12_any v u (f + s) r hv hu hfs hr w10).mono ?_
    rintro e w11 ⟨rfl, hb⟩
    rw [HLB.out.1, HLB.out.2]
    replace H17 := show Hid _ from atR_congr (fun j hj => (HTWO.out j hj).1) (fun j hj => (HTWO.out j hj).2) (atR_below hb H17.out (by omega))
    replace H18 := show Hid _ from rat_below H18.out hb (by omega)
    replace H19 := show Hid _ from (hb.block _ (by omega)).trans H19.out
    replace H20 := show Hid _ from (hb.block _ (by omega)).trans H20.out
    replace HW : Hid (Below w.heap.size w w11) := HW.out.trans (hb.mono (by omega))
    have hz12' : g18 + 3 ≤ w11.heap.size := by have := hb.size; omega
    clear hb hz11 HTWO HLB
    generalize lstV v u (f + s) r = X at *
    generalize lstU v u (f + s) r = Y at *
    obtain ⟨r0, r1, r2, r3, r4, r5⟩ := rat6 H18.out
    obtain ⟨a0, a1, a2⟩ := row3 H19.out
    obtain ⟨b0, b1, b2⟩ := row3 H20.out
    have af : ∀ o, w11.frozen? ⟨g18 + 1, o, none⟩ = false := fun o => by simp [World.frozen?, H19.out]
    have bf : ∀ o, w11.frozen? ⟨g18 + 1 + 1, o, none⟩ = false := fun o => by simp [World.frozen?, H20.out]
    go_wp2_with fail
    clear r0 r1 r2 r3 r4 r5 a0 a1 a2 b0 b1 b2 af bf
    have n : g18 + 1 ≠ g17 := by omega
    have n' : g18 + 1 + 1 ≠ g17 := by omega
    replace H17 : Hid (AtR ((((((w11.setCell ⟨g18 + 1, 0, none⟩ (.int .u64 (X 0 : Nat))).setCell ⟨g18 + 1, 1, none⟩ (.int .u64 (X 1 : Nat))).setCell ⟨g18 + 1, 2, none⟩ (.int .u64 (X 2 : Nat))).setCell ⟨g18 + 1 + 1, 0, none⟩ (.int .u64 (Y 0 : Nat))).setCell ⟨g18 + 1 + 1, 1, none⟩ (.int .u64 (Y 1 : Nat))).setCell ⟨g18 + 1 + 1, 2, none⟩ (.int .u64 (Y 2 : Nat))) g17 X Y) := atR_other _ _ (atR_other _ _ (atR_other _ _ (atR_other _ _ (atR_other _ _ (atR_other _ _ H17.out n) n) n) n') n') n'
    replace H18 : Hid (Rat ((((((w11.setCell ⟨g18 + 1, 0, none⟩ (.int .u64 (X 0 : Nat))).setCell ⟨g18 + 1, 1, none⟩ (.int .u64 (X 1 : Nat))).setCell ⟨g18 + 1, 2, none⟩ (.int .u64 (X 2 : Nat))).setCell ⟨g18 + 1 + 1, 0, none⟩ (.int .u64 (Y 0 : Nat))).setCell ⟨g18 + 1 + 1, 1, none⟩ (.int .u64 (Y 1 : Nat))).setCell ⟨g18 + 1 + 1, 2, none⟩ (.int .u64 (Y 2 : Nat))) g18 X Y) := rat_below H18.out ((((((((Below.refl (g18 + 1) w11).setCell (by dsimp only; omega) _).setCell (by dsimp only; omega) _).setCell (by dsimp only; omega) _).setCell (by dsimp only; omega) _).setCell (by dsimp only; omega) _).setCell (by dsimp only; omega) _)) (by omega)
    replace H20 : Hid (((((((w11.setCell ⟨g18 + 1, 0, none⟩ (.int .u64 (X 0 : Nat))).setCell ⟨g18 + 1, 1, none⟩ (.int .u64 (X 1 : Nat))).setCell ⟨g18 + 1, 2, none⟩ (.int .u64 (X 2 : Nat))).setCell ⟨g18 + 1 + 1, 0, none⟩ (.int .u64 (Y 0 : Nat))).setCell ⟨g18 + 1 + 1, 1, none⟩ (.int .u64 (Y 1 : Nat))).setCell ⟨g18 + 1 + 1, 2, none⟩ (.int .u64 (Y 2 : Nat))).heap[g18 + 1 + 1]? = some (.cells #[.int .u64 (Y 0 : Nat), .int .u64 (Y 1 : Nat), .int .u64 (Y 2 : Nat)] 23 (0, 0))) := blk_set3 Y ((Below.heap_setCell _ _ _ _ (by dsimp only; omega)).trans ((Below.heap_setCell _ _ _ _ (by dsimp only; omega)).trans ((Below.heap_setCell _ _ _ _ (by dsimp only; omega)).trans H20.out)))
    replace H19 : Hid (((((((w11.setCell ⟨g18 + 1, 0, none⟩ (.int .u64 (X 0 : Nat))).setCell ⟨g18 + 1, 1, none⟩ (.int .u64 (X 1 : Nat))).setCell ⟨g18 + 1, 2, none⟩ (.int .u64 (X 2 : Nat))).setCell ⟨g18 + 1 + 1, 0, none⟩ (.int .u64 (Y 0 : Nat))).setCell ⟨g18 + 1 + 1, 1, none⟩ (.int .u64 (Y 1 : Nat))).setCell ⟨g18 + 1 + 1, 2, none⟩ (.int .u64 (Y 2 : Nat))).heap[g18 + 1]? = some (.cells #[.int .u64 (X 0 : Nat), .int .u64 (X 1 : Nat), .int .u64 (X 2 : Nat)] 23 (0, 0))) := (Below.heap_setCell _ _ _ _ (by dsimp only; omega)).trans ((Below.heap_setCell _ _ _ _ (by dsimp only; omega)).trans ((Below.heap_setCell _ _ _ _ (by dsimp only; omega)).trans (blk_set3 X H19.out)))
    replace HW : Hid (Below w.heap.size w ((((((w11.setCell ⟨g18 + 1, 0, none⟩ (.int .u64 (X 0 : Nat))).setCell ⟨g18 + 1, 1, none⟩ (.int .u64 (X 1 : Nat))).setCell ⟨g18 + 1, 2, none⟩ (.int .u64 (X 2 : Nat))).setCell ⟨g18 + 1 + 1, 0, none⟩ (.int .u64 (Y 0 : Nat))).setCell ⟨g18 + 1 + 1, 1, none⟩ (.int .u64 (Y 1 : Nat))).setCell ⟨g18 + 1 + 1, 2, none⟩ (.int .u64 (Y 2 : Nat)))) := (((((HW.out.setCell (by dsimp only; omega) _).setCell (by dsimp only; omega) _).setCell (by dsimp only; omega) _).setCell (by dsimp only; omega) _).setCell (by dsimp only; omega) _).setCell (by dsimp only; omega) _
    have hz12 : g18 + 3 ≤ ((((((w11.setCell ⟨g18 + 1, 0, none⟩ (.int .u64 (X 0 : Nat))).setCell ⟨g18 + 1, 1, none⟩ (.int .u64 (X 1 : Nat))).setCell ⟨g18 + 1, 2, none⟩ (.int .u64 (X 2 : Nat))).setCell ⟨g18 + 1 + 1, 0, none⟩ (.int .u64 (Y 0 : Nat))).setCell ⟨g18 + 1 + 1, 1, none⟩ (.int .u64 (Y 1 : Nat))).setCell ⟨g18 + 1 + 1, 2, none⟩ (.int .u64 (Y 2 : Nat))).heap.size := by simp only [setSize]; exact hz12'
    clear hz12'
    generalize ((((((w11.setCell ⟨g18 + 1, 0, none⟩ (.int .u64 (X 0 : Nat))).setCell ⟨g18 + 1, 1, none⟩ (.int .u64 (X 1 : Nat))).setCell ⟨g18 + 1, 2, none⟩ (.int .u64 (X 2 : Nat))).setCell ⟨g18 + 1 + 1, 0, none⟩ (.int .u64 (Y 0 : Nat))).setCell ⟨g18 + 1 + 1, 1, none⟩ (.int .u64 (Y 1 : Nat))).setCell ⟨g18 + 1 + 1, 2, none⟩ (.int .u64 (Y 2 : Nat))) = w12 at *
    have hq3 := eqI3_self (X)
    have hq4 := eqI3_self (Y)
    refine (value13_any (X) (Y) w12).mono ?_
    rintro e w13 ⟨rfl, hb⟩
    replace H17 := show Hid _ from atR_below hb H17.out (by omega)
    replace H18 := show Hid _ from rat_below H18.out hb (by omega)
    replace H19 := show Hid _ from (hb.block _ (by omega)).trans H19.out
    replace H20 := show Hid _ from (hb.block _ (by omega)).trans H20.out
    replace HW : Hid (Below w.heap.size w w13) := HW.out.trans (hb.mono (by omega))
    have hz13 : g18 + 3 ≤ w13.heap.size := by have := hb.size; omega
    clear hb hz12
    obtain ⟨r0, r1, r2, r3, r4, r5⟩ := rat6 H18.out
    have k1 : g18 < w13.heap.size := by omega
    go_wp2_with fail
    clear r0 r1 r2 r3 r4 r5 k1
    refine (weight14_any (X) (Y) _).mono ?_
    rintro e w14 ⟨rfl, hb⟩
    have hs13 : (w13.alloc (.cells #[.int .u64 (X 0 : Nat), .int .u64 (X 1 : Nat), .int .u64 (X 2 : Nat)] 23)).heap.size = w13.heap.size + 1 := by simp
    have H21 : Hid (w14.heap[w13.heap.size]? = some (.cells #[.int .u64 (X 0 : Nat), .int .u64 (X 1 : Nat), .int .u64 (X 2 : Nat)] 23 (0, 0))) := (hb.block _ (by omega)).trans (heap_alloc_new w13 _)
    replace H17 := show Hid _ from atR_below hb (atR_alloc _ H17.out (by omega)) (by omega)
    replace H19 := show Hid _ from (hb.block _ (by omega)).trans ((Below.heap_alloc w13 _ _ (by omega)).trans H19.out)
    replace H20 := show Hid _ from (hb.block _ (by omega)).trans ((Below.heap_alloc w13 _ _ (by omega)).trans H20.out)
    replace HW : Hid (Below w.heap.size w w14) := (HW.out.alloc (by omega) _).trans (hb.mono (by omega))
    have hz14 : w13.heap.size < w14.heap.size := by have := hb.size; omega
    clear hb hs13 H18
    go_wp2_with fail
    have HS : Hid (S18 g17 w13.heap.size w14.heap.size (g18 + 1) (g18 + 1 + 1) (X) (Y) (w14.alloc (.cells #[.int .u64 (Y 0 : Nat), .int .u64 (Y 1 : Nat), .int .u64 (Y 2 : Nat)] 23))) := by
      have e22 : (w14.alloc (.cells #[.int .u64 (Y 0 : Nat), .int .u64 (Y 1 : Nat), .int .u64 (Y 2 : Nat)] 23)).heap[w14.heap.size]? = some (.cells #[.int .u64 (Y 0 : Nat), .int .u64 (Y 1 : Nat), .int .u64 (Y 2 : Nat)] 23 (0, 0)) := heap_alloc_new w14 _
      have e21 := (Below.heap_alloc w14 (.cells #[.int .u64 (Y 0 : Nat), .int .u64 (Y 1 : Nat), .int .u64 (Y 2 : Nat)] 23) _ (by omega)).trans H21.out
      have e19 := (Below.heap_alloc w14 (.cells #[.int .u64 (Y 0 : Nat), .int .u64 (Y 1 : Nat), .int .u64 (Y 2 : Nat)] 23) _ (by omega)).trans H19.out
      have e20 := (Below.heap_alloc w14 (.cells #[.int .u64 (Y 0 : Nat), .int .u64 (Y 1 : Nat), .int .u64 (Y 2 : Nat)] 23) _ (by omega)).trans H20.out
      have a := atR_alloc (.cells #[.int .u64 (Y 0 : Nat), .int .u64 (Y 1 : Nat), .int .u64 (Y 2 : Nat)] 23) H17.out (by omega)
      exact ⟨a.1, a.2.1, a.2.2.1, a.2.2.2.1, a.2.2.2.2.1, a.2.2.2.2.2, (row3 e21).1, (row3 e21).2.1, (row3 e21).2.2, (row3 e22).1, (row3 e22).2.1, (row3 e22).2.2, (row3 e19).1, (row3 e19).2.1, (row3 e19).2.2, (row3 e20).1, (row3 e20).2.1, (row3 e20).2.2⟩
    replace HW := show Hid _ from HW.out.alloc (by omega) (.cells #[.int .u64 (Y 0 : Nat), .int .u64 (Y 1 : Nat), .int .u64 (Y 2 : Nat)] 23)
    have hz15 : (w14.alloc (.cells #[.int .u64 (Y 0 : Nat), .int .u64 (Y 1 : Nat), .int .u64 (Y 2 : Nat)] 23)).heap.size = w14.heap.size + 1 := by simp
    clear H17 H19 H20 H21
    generalize w14.alloc (.cells #[.int .u64 (Y 0 : Nat), .int .u64 (Y 1 : Nat), .int .u64 (Y 2 : Nat)] 23) = w15 at *
    generalize w13.heap.size = g21 at *
    generalize w14.heap.size = g22 at *
    have heq := eq23
    go_region_held3 (fun w' => w'.cell? ⟨g17, 0, none⟩ = some (.int .u64 (X 0 : Nat)) ∧ w'.cell? ⟨g17, 1, none⟩ = some (.int .u64 (X 1 : Nat)) ∧ w'.cell? ⟨g17, 2, none⟩ = some (.int .u64 (X 2 : Nat)) ∧ w'.cell? ⟨g17, 3, none⟩ = some (.int .u64 (Y 0 : Nat)) ∧ w'.cell? ⟨g17, 4, none⟩ = some (.int .u64 (Y 1 : Nat)) ∧ w'.cell? ⟨g17, 5, none⟩ = some (.int .u64 (Y 2 : Nat)) ∧ w'.cell? ⟨g21, 0, none⟩ = some (.int .u64 (X 0 : Nat)) ∧ w'.cell? ⟨g21, 1, none⟩ = some (.int .u64 (X 1 : Nat)) ∧ w'.cell? ⟨g21, 2, none⟩ = some (.int .u64 (X 2 : Nat)) ∧ w'.cell? ⟨g22, 0, none⟩ = some (.int .u64 (Y 0 : Nat)) ∧ w'.cell? ⟨g22, 1, none⟩ = some (.int .u64 (Y 1 : Nat)) ∧ w'.cell? ⟨g22, 2, none⟩ = some (.int .u64 (Y 2 : Nat)) ∧ w'.cell? ⟨g18 + 1, 0, none⟩ = some (.int .u64 (X 0 : Nat)) ∧ w'.cell? ⟨g18 + 1, 1, none⟩ = some (.int .u64 (X 1 : Nat)) ∧ w'.cell? ⟨g18 + 1, 2, none⟩ = some (.int .u64 (X 2 : Nat)) ∧ w'.cell? ⟨g18 + 1 + 1, 0, none⟩ = some (.int .u64 (Y 0 : Nat)) ∧ w'.cell? ⟨g18 + 1 + 1, 1, none⟩ = some (.int .u64 (Y 1 : Nat)) ∧ w'.cell? ⟨g18 + 1 + 1, 2, none⟩ = some (.int .u64 (Y 2 : Nat)))
      ((show S18 g17 g21 g22 (g18 + 1) (g18 + 1 + 1) (X) (Y) _; (repeat (first | with_reducible exact HS.out | with_reducible refine s18_drew ?_ | with_reducible refine s18_below HB14.out ?_ ?_ ?_ ?_ ?_ ?_ | with_reducible refine s18_below HB13.out ?_ ?_ ?_ ?_ ?_ ?_)); all_goals (first | omega | (simp only [drewSize]; omega))))
      (first
        | (go_at_call 13; refine (value13_any (X) (Y) _).mono ?_; rintro e y3 ⟨rfl, hb3⟩; have HB13 := show Hid _ from hb3; have hsz3 := hb3.size; (try simp at hsz3); clear hb3)
        | (go_at_call 14; refine (weight14_any (X) (Y) _).mono ?_; rintro e y4 ⟨rfl, hb4⟩; have HB14 := show Hid _ from hb4; have hsz4 := hb4.size; (try simp at hsz4); clear hb4))
    all_goals
      go_wp2_with fail
      go_ret
      refine ⟨rfl, ?_⟩
      (repeat (first | with_reducible exact HW.out | with_reducible refine bl_drew ?_ | with_reducible refine bl_call HB14.out ?_ ?_ | with_reducible refine bl_call HB13.out ?_ ?_))
      all_goals (first | omega | (simp only [drewSize]; omega))

end Go.Proofs.Qxb6614502a
