/-
  FnBlockKeepsTheLeastWindowsInFirstOrder: from the walk to the given statement.
-/
import Derived.Test.Qxb6614502aJ
import Derived.Test.Qxb6614502aG
namespace Go.Proofs.Qxb6614502a
open Go.ChangeShapes Go.WideShapes Go.ChangeAt Go.RowKit

set_option maxRecDepth 100000 in
set_option maxHeartbeats 1600000 in
/-- The lengths shut the law's own domain: it answers true at once. -/
theorem keeps_out (a1 a2 : Option Addr) (n1 c1 n2 c2 : Nat) (w : World) (h1 : n1 ≤ maxLen) (h2 : n2 ≤ maxLen) (h : 4096 < n1 ∨ 1024 < n2 ∨ n1 = 0) :
    Calls Try.prog 5 #[.slice a1 n1 c1, .slice a2 n2 c2] w fun e w' => e = .returned (.bool true) ∧ Below w.heap.size w w' := by
  have h18 := fun wx => bytes18_any a1 a2 n1 c1 n2 c2 wx h1 h2
  unfold maxLen at h1 h2
  go_enter Try.func5, Try.ntmps5
  go_wp2_with fail
  refine (h18 _).mono ?_
  rintro e w' ⟨z, rfl, rfl⟩
  clear h18
  cases z with
  | false =>
    go_wp2
    go_ret
    exact ⟨rfl, Below.refl _ _⟩
  | true =>
    by_cases d1 : 4096 < n1
    · clear h
      go_wp2
      go_ret
      exact ⟨rfl, Below.refl _ _⟩
    · by_cases d2 : 1024 < n2
      · clear h
        go_wp2
        go_ret
        exact ⟨rfl, Below.refl _ _⟩
      · have h0 : n1 = 0 := by omega
        subst h0
        clear h
        go_wp2
        go_ret
        exact ⟨rfl, Below.refl _ _⟩

theorem keeps_walk (a1 a2 : Option Addr) (n1 c1 n2 c2 : Nat) (f : Nat → Int) (S : List (Int × Int)) (w : World) (h1 : IsNums w a1 n1 f) (h2 : IsScr w a2 n2 S) :
    Calls Try.prog 5 #[.slice a1 n1 c1, .slice a2 n2 c2] w fun e w' => e = .returned (.bool true) ∧ Below w.heap.size w w' := by
  obtain ⟨m1, g1⟩ := h1
  obtain ⟨m2, hS, g2⟩ := h2
  by_cases h : 4096 < n1 ∨ 1024 < n2 ∨ n1 = 0
  · exact keeps_out a1 a2 n1 c1 n2 c2 w m1 m2 h
  · obtain ⟨n, rfl⟩ : ∃ n, n1 = n + 1 := ⟨n1 - 1, by omega⟩
    obtain ⟨fb, fo, rfl, hlt, hc⟩ := g1 (by omega)
    exact keeps_main fb fo n c1 n2 c2 a2 f S w (by omega) hS (by omega) hlt hc g2

set_option maxRecDepth 100000 in
theorem keeps_lifted (os : Os) (started : os.Started) (H : Type) (enc : TypeId × Value → H) :
    ReturnsInHanded {} Try.checked os 5 .any (Rows.fnBlockKeepsTheLeastWindowsInFirstOrderSpec.pre6 enc Try.prog Try.f5 Rows.fnBlockKeepsTheLeastWindowsInFirstOrderRow.domain false) (Rows.fnBlockKeepsTheLeastWindowsInFirstOrderSpec.post enc Try.prog Try.f5 false true false false) := by
  refine returnsInHanded_of_change (C := Try.checked) own started (by kernel_rfl) Try.func5
    (ChangeSpec.witness6 (enc := enc) (C := Try.checked) false ⟨#[], #[.slice none 0 0, .slice none 0 0], []⟩ 8 (by kernel_rfl) (by kernel_rfl) (by kernel_rfl) (by kernel_rfl)) ?_
  intro W base args ds gs before hval0 hW hcnd _
  have hval : ∀ (j : Nat) t v, Try.f5.params[j]? = some t → args[j]? = some v → Value.okWide Try.prog W .any base t v := hval0
  have hW' := hW
  obtain ⟨p, q, hA0, hV, rfl, hfz, hnd⟩ := hW
  have hA : DataW.TrodAll enc Try.prog W 0 (fun _ => true) true Try.f5.params.toList args.toList ds p := hA0
  rw [Try.params5] at hA hval
  obtain ⟨v0, vs0, d0, ds0, p0, q0, hargs, rfl, rfl, h0, r0⟩ := trodAll_cons hA
  obtain ⟨v1, vs1, d1, ds1, p1, q1, rfl, rfl, rfl, h1, r1⟩ := trodAll_cons r0
  obtain ⟨rfl, rfl, rfl⟩ := trodAll_nil r1
  obtain rfl : args = #[v0, v1] := by cases args; simp_all
  obtain ⟨rfl, rfl⟩ := trodVars_none hV
  obtain ⟨a0, len0, cap0, rfl⟩ := okWide_slice Try.underlying42 (hval 0 42 v0 rfl rfl)
  have k0 := h0
  have lt0 : ∀ x ∈ p0, x.block < W.heap.size := by obtain ⟨m, hm⟩ := k0; exact DataW.trod_lt m _ _ _ hm
  obtain ⟨f, w0⟩ : ∃ f, IsNums W a0 len0 f := by obtain ⟨fuel, hf⟩ := h0; exact nums_of hf
  obtain ⟨a1, len1, cap1, rfl⟩ := okWide_slice Try.underlying43 (hval 1 43 v1 rfl rfl)
  have k1 := h1
  have lt1 : ∀ x ∈ p1, x.block < W.heap.size := by obtain ⟨m, hm⟩ := k1; exact DataW.trod_lt m _ _ _ hm
  obtain ⟨S, w1⟩ : ∃ S, IsScr W a1 len1 S := by obtain ⟨fuel, hf⟩ := h1; exact scr_of hf
  clear hA0 hval0
  refine (keeps_walk a0 a1 len0 cap0 len1 cap1 f S W w0 w1).mono fun e W' ⟨he, bel⟩ => ?_
  subst he
  exact ⟨_, rfl, _, _, _, [], _, [], hW', trodAll_mk1 (shut_bool Try.underlying4 _), (trodAll_cons_mk (Below.trod laidOut (by kernel_rfl) (of_decide_eq_true (by kernel_rfl)) k0 bel lt0) (trodAll_cons_mk (Below.trod laidOut (by kernel_rfl) (of_decide_eq_true (by kernel_rfl)) k1 bel lt1) trodAll_mk0)), rfl, bel.frame _, fun h => by cases h⟩

/-- The given statement. -/
theorem blockKeepsTheLeast : Rows.FnBlockKeepsTheLeastWindowsInFirstOrderSaid :=
  OpenClaim.holds_of_wide 5 Try.f5 rfl rfl rfl rfl rfl rfl rfl ⟨rfl, rfl, rfl, rfl, rfl⟩ rfl rfl rfl rfl rfl (by kernel_rfl) Try.func5 (by kernel_rfl)
    (of_decide_eq_true (by kernel_rfl)) (by unfold Func.isWrapper; first | (rw [if_pos (by decide +kernel)]; kernel_rfl) | (rw [if_neg (by decide +kernel)]; exact ⟨rfl, rfl⟩))
    (fun os started H enc _ => keeps_lifted os started H enc)
#print axioms blockKeepsTheLeast

end Go.Proofs.Qxb6614502a
