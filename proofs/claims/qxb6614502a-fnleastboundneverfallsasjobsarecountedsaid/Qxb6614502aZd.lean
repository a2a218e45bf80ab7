/-
  FnLeastBoundNeverFallsAsJobsAreCounted: every input; from the walk to the given statement.
-/
import Derived.Test.Qxb6614502aZc
import Derived.ProofKit
import Derived.OpenShut
import Derived.ChangeOld
import Derived.Laws.IdiomArrays
namespace Go.Proofs.Qxb6614502a
open Go.ChangeShapes Go.WideShapes Go.ChangeAt Go.RowKit

theorem bnd_i64 {n : Int} (h : (Lit.int .i64 n).wf = true) : -9223372036854775808 ≤ n ∧ n ≤ 9223372036854775807 := by
  unfold Lit.wf at h
  rw [Bool.and_eq_true, decide_eq_true_eq, decide_eq_true_eq] at h
  exact h
theorem bnd_u64 {n : Int} (h : (Lit.int .u64 n).wf = true) : 0 ≤ n ∧ n ≤ 18446744073709551615 := by
  unfold Lit.wf at h
  rw [Bool.and_eq_true, decide_eq_true_eq, decide_eq_true_eq] at h
  exact h


set_option maxRecDepth 100000 in
set_option maxHeartbeats 1600000 in
/-- The law's own domain is shut: it answers true at once. -/
theorem fn4_out (v u : Nat → Nat) (n k x r l : Int) (h : n < 0 ∨ k < 0 ∨ n < k ∨ r < 0 ∨ l < r ∨ dom v u = false) (w : World) :
    Calls Try.prog 4 #[.agg #[.int .u64 (v 0 : Nat), .int .u64 (v 1 : Nat), .int .u64 (v 2 : Nat)], .agg #[.int .u64 (u 0 : Nat), .int .u64 (u 1 : Nat), .int .u64 (u 2 : Nat)], .int .i64 n, .int .i64 k, .int .i64 x, .int .i64 r, .int .i64 l] w fun e w' => e = .returned (.bool true) ∧ Below w.heap.size w w' := by
  have HB : Hid (Below w.heap.size w ((w.alloc (.cells #[.int .u64 (v 0 : Nat), .int .u64 (v 1 : Nat), .int .u64 (v 2 : Nat)] 23)).alloc (.cells #[.int .u64 (u 0 : Nat), .int .u64 (u 1 : Nat), .int .u64 (u 2 : Nat)] 23))) := ((Below.refl _ _).alloc (Nat.le_refl _) _).alloc (by simp) _
  by_cases h1 : n < 0
  · have d1 : decide (n < 0) = true := decide_eq_true h1
    clear h
    go_enter Try.func4, Try.ntmps4
    go_wp2
    go_ret
    exact ⟨rfl, HB.out⟩
  · have d1 : decide (n < 0) = false := decide_eq_false h1
    by_cases h2 : k < 0
    · have d2 : decide (k < 0) = true := decide_eq_true h2
      clear h
      go_enter Try.func4, Try.ntmps4
      go_wp2
      go_ret
      exact ⟨rfl, HB.out⟩
    · have d2 : decide (k < 0) = false := decide_eq_false h2
      by_cases h3 : n < k
      · have d3 : decide (n < k) = true := decide_eq_true h3
        clear h
        go_enter Try.func4, Try.ntmps4
        go_wp2
        go_ret
        exact ⟨rfl, HB.out⟩
      · have d3 : decide (n < k) = false := decide_eq_false h3
        by_cases h4 : r < 0
        · have d4 : decide (r < 0) = true := decide_eq_true h4
          clear h
          go_enter Try.func4, Try.ntmps4
          go_wp2
          go_ret
          exact ⟨rfl, HB.out⟩
        · have d4 : decide (r < 0) = false := decide_eq_false h4
          by_cases h5 : l < r
          · have d5 : decide (l < r) = true := decide_eq_true h5
            clear h
            go_enter Try.func4, Try.ntmps4
            go_wp2
            go_ret
            exact ⟨rfl, HB.out⟩
          · have d5 : decide (l < r) = false := decide_eq_false h5
            have hd : dom v u = false := by
              rcases h with h | h | h | h | h | h
              · exact absurd h h1
              · exact absurd h h2
              · exact absurd h h3
              · exact absurd h h4
              · exact absurd h h5
              · exact h
            clear h
            go_enter Try.func4, Try.ntmps4
            go_wp2_with (go_at_call 7; refine (dom7_any v u _).mono ?_; rintro e w4 ⟨rfl, hb4⟩)
            go_ret
            exact ⟨rfl, HB.out.trans (hb4.mono (by simp; omega))⟩

theorem fn4_any (v u : Nat → Nat) (n k x r l : Int) (hv : W.Words v 3) (hu : W.Words u 3) (bn : -9223372036854775808 ≤ n ∧ n ≤ 9223372036854775807) (br : -9223372036854775808 ≤ r ∧ r ≤ 9223372036854775807) (bl : -9223372036854775808 ≤ l ∧ l ≤ 9223372036854775807) (w : World) :
    Calls Try.prog 4 #[.agg #[.int .u64 (v 0 : Nat), .int .u64 (v 1 : Nat), .int .u64 (v 2 : Nat)], .agg #[.int .u64 (u 0 : Nat), .int .u64 (u 1 : Nat), .int .u64 (u 2 : Nat)], .int .i64 n, .int .i64 k, .int .i64 x, .int .i64 r, .int .i64 l] w fun e w' => e = .returned (.bool true) ∧ Below w.heap.size w w' := by
  by_cases h : n < 0 ∨ k < 0 ∨ n < k ∨ r < 0 ∨ l < r ∨ dom v u = false
  · exact fn4_out v u n k x r l h w
  · rw [not_or, not_or, not_or, not_or, not_or] at h
    obtain ⟨h1, h2, h3, h4, h5, h6⟩ := h
    obtain ⟨n, rfl⟩ := Int.eq_ofNat_of_zero_le (show 0 ≤ n by omega)
    obtain ⟨k, rfl⟩ := Int.eq_ofNat_of_zero_le (show 0 ≤ k by omega)
    obtain ⟨r, rfl⟩ := Int.eq_ofNat_of_zero_le (show 0 ≤ r by omega)
    obtain ⟨l, rfl⟩ := Int.eq_ofNat_of_zero_le (show 0 ≤ l by omega)
    have hd : dom v u = true := by
      cases e : dom v u with
      | true => rfl
      | false => exact absurd e h6
    exact fn4_main v u n k (n - k) r l x (by omega) hv hu hd (by omega) (by omega) (by omega) (by omega) w

theorem own3 : ownKnob Try.prog.godebug = none := by kernel_rfl
theorem laidOut3 : laidOutB Try.prog = true := by kernel_rfl

theorem arr3 {α : Type} {cs : Array α} (h : cs.size = 3) : ∃ c0 c1 c2, cs = #[c0, c1, c2] := by
  match cs, h with
  | ⟨[a, b, c]⟩, _ => exact ⟨a, b, c, rfl⟩
theorem word_of {H : Type} {enc : TypeId × Value → H} {W0 : World} {n : Nat} {c : Value} {y : DataW H × List MemPlace} (t : DataW.trod enc Try.prog W0 0 (fun _ => true) true n 22 [c] = some y) : ∃ m : Nat, m < 18446744073709551616 ∧ c = .int .u64 (m : Nat) := by
  obtain ⟨n0, e0, _, w0⟩ := DataW.trod_int Try.underlying22 t
  have b0 := bnd_u64 w0
  obtain ⟨m0, rfl⟩ := Int.eq_ofNat_of_zero_le b0.1
  simp only [List.cons.injEq, and_true] at e0
  exact ⟨m0, by omega, e0⟩
def pick3 (a b c : Nat) : Nat → Nat := fun j => if j = 0 then a else if j = 1 then b else c

set_option maxRecDepth 100000 in
/-- From the reading of an array of three words to what the walk is told. -/
theorem arr3_of {H : Type} {enc : TypeId × Value → H} {W0 : World} {b0 : Nat} {v : Value} {d : DataW H} {p : List MemPlace} (hval : Value.okWide Try.prog W0 .any b0 23 v)
    (h : DataW.Trod enc Try.prog W0 0 (fun _ => true) true 23 v d p) : ∃ a : Nat → Nat, W.Words a 3 ∧ v = .agg #[.int .u64 (a 0 : Nat), .int .u64 (a 1 : Nat), .int .u64 (a 2 : Nat)] := by
  simp only [Value.okWide, Try.underlying23] at hval
  obtain ⟨cs, rfl, hsz, _⟩ := hval
  have h3 : Try.prog.cellsOf 23 = 3 := by kernel_rfl
  rw [h3] at hsz
  obtain ⟨c0, c1, c2, rfl⟩ := arr3 hsz
  obtain ⟨fuel, hf⟩ := h
  obtain ⟨y0, y1, y2, n, _, t0, t1, t2⟩ := trod_array3 Try.underlying23 (by kernel_rfl) hf
  obtain ⟨m0, l0, rfl⟩ := word_of t0
  obtain ⟨m1, l1, rfl⟩ := word_of t1
  obtain ⟨m2, l2, rfl⟩ := word_of t2
  refine ⟨pick3 m0 m1 m2, fun j _ => ?_, rfl⟩
  unfold pick3
  split
  · exact l0
  · split
    · exact l1
    · exact l2

set_option maxRecDepth 100000 in
theorem bound_lifted (os : Os) (started : os.Started) (H : Type) (enc : TypeId × Value → H) :
    ReturnsInHanded {} Try.checked os 4 .any (Rows.fnLeastBoundNeverFallsAsJobsAreCountedSpec.pre6 enc Try.prog Try.f4 Rows.fnLeastBoundNeverFallsAsJobsAreCountedRow.domain false) (Rows.fnLeastBoundNeverFallsAsJobsAreCountedSpec.post enc Try.prog Try.f4 false true false false) := by
  refine returnsInHanded_of_change (C := Try.checked) own3 started (by kernel_rfl) Try.func4
    (ChangeSpec.witness6 (enc := enc) (C := Try.checked) false ⟨#[], #[.agg #[.int .u64 0, .int .u64 0, .int .u64 0], .agg #[.int .u64 0, .int .u64 0, .int .u64 0], .int .i64 0, .int .i64 0, .int .i64 0, .int .i64 0, .int .i64 0], []⟩ 8 (by kernel_rfl) (by kernel_rfl) (by kernel_rfl) (by kernel_rfl)) ?_
  intro W base args ds gs before hval0 hW hcnd _
  have hval : ∀ (j : Nat) t v, Try.f4.params[j]? = some t → args[j]? = some v → Value.okWide Try.prog W .any base t v := hval0
  have hW' := hW
  obtain ⟨p, q, hA0, hV, rfl, hfz, hnd⟩ := hW
  have hA : DataW.TrodAll enc Try.prog W 0 (fun _ => true) true Try.f4.params.toList args.toList ds p := hA0
  rw [Try.params4] at hA hval
  obtain ⟨v0, vs0, d0, ds0, p0, q0, hargs, rfl, rfl, h0, r0⟩ := trodAll_cons hA
  obtain ⟨v1, vs1, d1, ds1, p1, q1, rfl, rfl, rfl, h1, r1⟩ := trodAll_cons r0
  obtain ⟨v2, vs2, d2, ds2, p2, q2, rfl, rfl, rfl, h2, r2⟩ := trodAll_cons r1
  obtain ⟨v3, vs3, d3, ds3, p3, q3, rfl, rfl, rfl, h3, r3⟩ := trodAll_cons r2
  obtain ⟨v4, vs4, d4, ds4, p4, q4, rfl, rfl, rfl, h4, r4⟩ := trodAll_cons r3
  obtain ⟨v5, vs5, d5, ds5, p5, q5, rfl, rfl, rfl, h5, r5⟩ := trodAll_cons r4
  obtain ⟨v6, vs6, d6, ds6, p6, q6, rfl, rfl, rfl, h6, r6⟩ := trodAll_cons r5
  obtain ⟨rfl, rfl, rfl⟩ := trodAll_nil r6
  obtain rfl : args = #[v0, v1, v2, v3, v4, v5, v6] := by cases args; simp_all
  obtain ⟨rfl, rfl⟩ := trodVars_none hV
  obtain ⟨a0, wa0, rfl⟩ := arr3_of (hval 0 23 v0 rfl rfl) h0
  have lt0 : ∀ x ∈ p0, x.block < W.heap.size := by obtain ⟨m, hm⟩ := h0; exact DataW.trod_lt m _ _ _ hm
  obtain ⟨a1, wa1, rfl⟩ := arr3_of (hval 1 23 v1 rfl rfl) h1
  have lt1 : ∀ x ∈ p1, x.block < W.heap.size := by obtain ⟨m, hm⟩ := h1; exact DataW.trod_lt m _ _ _ hm
  obtain ⟨a2, rfl, rfl, rfl, w2⟩ := open_int Try.underlying2 (hval 2 2 v2 rfl rfl) h2
  obtain ⟨a3, rfl, rfl, rfl, w3⟩ := open_int Try.underlying2 (hval 3 2 v3 rfl rfl) h3
  obtain ⟨a4, rfl, rfl, rfl, w4⟩ := open_int Try.underlying2 (hval 4 2 v4 rfl rfl) h4
  obtain ⟨a5, rfl, rfl, rfl, w5⟩ := open_int Try.underlying2 (hval 5 2 v5 rfl rfl) h5
  obtain ⟨a6, rfl, rfl, rfl, w6⟩ := open_int Try.underlying2 (hval 6 2 v6 rfl rfl) h6
  clear hA0 hval0
  refine (fn4_any a0 a1 a2 a3 a4 a5 a6 wa0 wa1 (bnd_i64 w2) (bnd_i64 w5) (bnd_i64 w6) W).mono fun e W' ⟨he, bel⟩ => ?_
  subst he
  exact ⟨_, rfl, _, _, _, [], _, [], hW', trodAll_mk1 (shut_bool Try.underlying4 _), (trodAll_cons_mk (Below.trod laidOut3 (by kernel_rfl) (of_decide_eq_true (by kernel_rfl)) h0 bel lt0) (trodAll_cons_mk (Below.trod laidOut3 (by kernel_rfl) (of_decide_eq_true (by kernel_rfl)) h1 bel lt1) (trodAll_cons_mk (shut_int Try.underlying2 w2) (trodAll_cons_mk (shut_int Try.underlying2 w3) (trodAll_cons_mk (shut_int Try.underlying2 w4) (trodAll_cons_mk (shut_int Try.underlying2 w5) (trodAll_cons_mk (shut_int Try.underlying2 w6) trodAll_mk0))))))), rfl, bel.frame _, fun h => by cases h⟩

/-- The given statement. -/
theorem leastBoundNeverFalls : Rows.FnLeastBoundNeverFallsAsJobsAreCountedSaid :=
  OpenClaim.holds_of_wide 4 Try.f4 rfl rfl rfl rfl rfl rfl rfl ⟨rfl, rfl, rfl, rfl, rfl⟩ rfl rfl rfl rfl rfl (by kernel_rfl) Try.func4 (by kernel_rfl)
    (of_decide_eq_true (by kernel_rfl)) (by unfold Func.isWrapper; first | (rw [if_pos (by decide +kernel)]; kernel_rfl) | (rw [if_neg (by decide +kernel)]; exact ⟨rfl, rfl⟩))
    (fun os started H enc _ => bound_lifted os started H enc)
#print axioms leastBoundNeverFalls

end Go.Proofs.Qxb6614502a
