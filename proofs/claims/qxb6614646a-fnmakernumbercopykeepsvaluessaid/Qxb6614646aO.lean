/-
  FnMakerNumberCopyKeepsValues: every input; from the walk to the given statement.
-/
import Derived.Test.Qxb6614646aN
import Derived.Test.Qxb6614646aJ
namespace Go.Proofs.Qxb6614646a
open Go.ChangeShapes Go.WideShapes Go.ChangeAt Go.RowKit

set_option maxHeartbeats 1600000 in
/-- The lengths shut the law's own domain: it answers true at once. -/
theorem copy_out (a b c : Option Addr) (n1 c1 n2 c2 n3 c3 : Nat) (w : World) (h1 : n1 ≤ maxLen) (h2 : n2 ≤ maxLen) (h3 : n3 ≤ maxLen) (h : 32768 < n1 ∨ 32768 < n2 ∨ 32768 < n3) :
    Calls Try.prog 4 #[.slice a n1 c1, .slice b n2 c2, .slice c n3 c3] w fun e w' => e = .returned (.bool true) ∧ Below w.heap.size w w' := by
  have h10 := fun wx => bytes10_any a b c n1 c1 n2 c2 n3 c3 wx h1 h2 h3
  unfold maxLen at h1 h2 h3
  go_enter Try.func4, Try.ntmps4
  go_wp2_with fail
  refine (h10 _).mono ?_
  rintro e w' ⟨z, rfl, hw⟩
  rw [hw]
  clear h10 hw
  cases z with
  | false =>
    clear h
    go_wp2
    go_ret
    exact ⟨rfl, Below.refl _ _⟩
  | true =>
    by_cases d1 : 32768 < n1
    · clear h
      go_wp2
      go_ret
      exact ⟨rfl, Below.refl _ _⟩
    · by_cases d2 : 32768 < n2
      · clear h
        go_wp2
        go_ret
        exact ⟨rfl, Below.refl _ _⟩
      · have d3 : 32768 < n3 := by omega
        clear h
        go_wp2
        go_ret
        exact ⟨rfl, Below.refl _ _⟩

theorem copy_any (a b c : Option Addr) (n1 c1 n2 c2 n3 c3 : Nat) (X Y Z : Nat → Nat) (w : World) (h1 : IsFlts w a n1 X) (h2 : IsFlts w b n2 Y) (h3 : IsFlts w c n3 Z) :
    Calls Try.prog 4 #[.slice a n1 c1, .slice b n2 c2, .slice c n3 c3] w fun e w' => e = .returned (.bool true) ∧ Below w.heap.size w w' := by
  obtain ⟨l1, b1, x1⟩ := h1
  obtain ⟨l2, b2, x2⟩ := h2
  obtain ⟨l3, b3, x3⟩ := h3
  by_cases h : 32768 < n1 ∨ 32768 < n2 ∨ 32768 < n3
  · exact copy_out a b c n1 c1 n2 c2 n3 c3 w l1 l2 l3 h
  · exact copy_main n1 n2 n3 c1 c2 c3 a b c X Y Z w (by omega) (by omega) (by omega) b1 b2 b3 x1 x2 x3

set_option maxRecDepth 100000 in
theorem copy_lifted (os : Os) (started : os.Started) (H : Type) (enc : TypeId × Value → H) :
    ReturnsInHanded {} Try.checked os 4 .any (Rows.fnMakerNumberCopyKeepsValuesSpec.pre6 enc Try.prog Try.f4 Rows.fnMakerNumberCopyKeepsValuesRow.domain false) (Rows.fnMakerNumberCopyKeepsValuesSpec.post enc Try.prog Try.f4 false true false false) := by
  refine returnsInHanded_of_change (C := Try.checked) own started (by kernel_rfl) Try.func4
    (ChangeSpec.witness6 (enc := enc) (C := Try.checked) false ⟨#[], #[.slice none 0 0, .slice none 0 0, .slice none 0 0], []⟩ 8 (by kernel_rfl) (by kernel_rfl) (by kernel_rfl) (by kernel_rfl)) ?_
  intro W base args ds gs before hval0 hW hcnd _
  have hval : ∀ (j : Nat) t v, Try.f4.params[j]? = some t → args[j]? = some v → Value.okWide Try.prog W .any base t v := hval0
  have hW' := hW
  obtain ⟨p, q, hA0, hV, rfl, hfz, hnd⟩ := hW
  have hA : DataW.TrodAll enc Try.prog W 0 (fun _ => true) true Try.f4.params.toList args.toList ds p := hA0
  rw [Try.params4] at hA hval
  obtain ⟨v0, vs0, d0, ds0, p0, q0, hargs, rfl, rfl, h0, r0⟩ := trodAll_cons hA
  obtain ⟨v1, vs1, d1, ds1, p1, q1, rfl, rfl, rfl, h1, r1⟩ := trodAll_cons r0
  obtain ⟨v2, vs2, d2, ds2, p2, q2, rfl, rfl, rfl, h2, r2⟩ := trodAll_cons r1
  obtain ⟨rfl, rfl, rfl⟩ := trodAll_nil r2
  obtain rfl : args = #[v0, v1, v2] := by cases args; simp_all
  obtain ⟨rfl, rfl⟩ := trodVars_none hV
  obtain ⟨a0, len0, cap0, rfl⟩ := okWide_slice Try.underlying22 (hval 0 22 v0 rfl rfl)
  have k0 := h0
  have lt0 : ∀ x ∈ p0, x.block < W.heap.size := by obtain ⟨m, hm⟩ := k0; exact DataW.trod_lt m _ _ _ hm
  obtain ⟨X0, w0⟩ : ∃ X, IsFlts W a0 len0 X := by obtain ⟨fuel, hf⟩ := h0; exact flts_of hf
  obtain ⟨a1, len1, cap1, rfl⟩ := okWide_slice Try.underlying22 (hval 1 22 v1 rfl rfl)
  have k1 := h1
  have lt1 : ∀ x ∈ p1, x.block < W.heap.size := by obtain ⟨m, hm⟩ := k1; exact DataW.trod_lt m _ _ _ hm
  obtain ⟨X1, w1⟩ : ∃ X, IsFlts W a1 len1 X := by obtain ⟨fuel, hf⟩ := h1; exact flts_of hf
  obtain ⟨a2, len2, cap2, rfl⟩ := okWide_slice Try.underlying22 (hval 2 22 v2 rfl rfl)
  have k2 := h2
  have lt2 : ∀ x ∈ p2, x.block < W.heap.size := by obtain ⟨m, hm⟩ := k2; exact DataW.trod_lt m _ _ _ hm
  obtain ⟨X2, w2⟩ : ∃ X, IsFlts W a2 len2 X := by obtain ⟨fuel, hf⟩ := h2; exact flts_of hf
  clear hA0 hval0
  refine (copy_any a0 a1 a2 len0 cap0 len1 cap1 len2 cap2 X0 X1 X2 W w0 w1 w2).mono fun e W' ⟨he, bel⟩ => ?_
  subst he
  exact ⟨_, rfl, _, _, _, [], _, [], hW', trodAll_mk1 (shut_bool Try.underlying4 _), (trodAll_cons_mk (Below.trod laidOut (by kernel_rfl) (of_decide_eq_true (by kernel_rfl)) k0 bel lt0) (trodAll_cons_mk (Below.trod laidOut (by kernel_rfl) (of_decide_eq_true (by kernel_rfl)) k1 bel lt1) (trodAll_cons_mk (Below.trod laidOut (by kernel_rfl) (of_decide_eq_true (by kernel_rfl)) k2 bel lt2) trodAll_mk0))), rfl, bel.frame _, fun h => by cases h⟩

/-- The given statement. -/
theorem makerNumberCopyKeepsValues : Rows.FnMakerNumberCopyKeepsValuesSaid :=
  OpenClaim.holds_of_wide 4 Try.f4 rfl rfl rfl rfl rfl rfl rfl ⟨rfl, rfl, rfl, rfl, rfl⟩ rfl rfl rfl rfl rfl (by kernel_rfl) Try.func4 (by kernel_rfl)
    (of_decide_eq_true (by kernel_rfl)) (by unfold Func.isWrapper; first | (rw [if_pos (by decide +kernel)]; kernel_rfl) | (rw [if_neg (by decide +kernel)]; exact ⟨rfl, rfl⟩))
    (fun os started H enc _ => copy_lifted os started H enc)
#print axioms makerNumberCopyKeepsValues

end Go.Proofs.Qxb6614646a
