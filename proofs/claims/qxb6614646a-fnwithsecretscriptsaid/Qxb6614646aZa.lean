/-
  FnWithSecretScript: from the walk to the given statement.
-/
import Derived.Test.Qxb6614646aZ
namespace Go.Proofs.Qxb6614646a
open Go.ChangeShapes Go.WideShapes Go.ChangeAt Go.RowKit

set_option maxRecDepth 100000 in
set_option maxHeartbeats 1600000 in
/-- A length shuts the law's own domain: it answers true at once. -/
theorem script5_out (x n c m d : Nat) (sa sb : Option Addr) (U : Nat → ByteArray) (w : World) (hu : IsStrs w sa n U) (hm : m ≤ maxLen) (h : 65536 < n ∨ 65536 < m) :
    Calls Try.prog 5 #[.float .f64 x, .slice sa n c, .slice sb m d] w fun e w' => e = .returned (.bool true) ∧ Below w.heap.size w w' := by
  have h11 := bytes11_any x sa sb n c m d U w hu hm
  have hn := hu.1
  unfold maxLen at hn hm
  clear hu
  go_enter Try.func5, Try.ntmps5
  go_wp2_with fail
  refine h11.mono ?_
  rintro e w' ⟨z, rfl, hw, _⟩
  rw [hw]
  clear hw h11
  cases z with
  | false =>
    go_wp2
    go_ret
    exact ⟨rfl, Below.refl _ _⟩
  | true =>
    by_cases h1 : 65536 < n
    · go_wp2
      go_ret
      exact ⟨rfl, Below.refl _ _⟩
    · have h2 : 65536 < m := by omega
      go_wp2
      go_ret
      exact ⟨rfl, Below.refl _ _⟩

theorem script5_any (x n c m d : Nat) (sa sb : Option Addr) (U : Nat → ByteArray) (B : Nat → Bool) (w : World) (hx : x < 18446744073709551616) (hu : IsStrs w sa n U) (hbs : IsBools w sb m B) :
    Calls Try.prog 5 #[.float .f64 x, .slice sa n c, .slice sb m d] w fun e w' => e = .returned (.bool true) ∧ Below w.heap.size w w' := by
  by_cases h1 : 65536 < n
  · exact script5_out x n c m d sa sb U w hu hbs.1 (Or.inl h1)
  · by_cases h2 : 65536 < m
    · exact script5_out x n c m d sa sb U w hu hbs.1 (Or.inr h2)
    · exact script5_main x n c m d sa sb U B w hx (by omega) (by omega) hu hbs

theorem strs_of {H : Type} {enc : TypeId × Value → H} {W : World} {a0 : Option Addr} {len0 cap0 fuel : Nat} {x : DataW H × List MemPlace}
    (hf : DataW.trod enc Try.prog W 0 (fun _ => true) true fuel 49 (Value.slice a0 len0 cap0).cells.toList = some x) : ∃ U, IsStrs W a0 len0 U := by
  rcases Go.Deep.open_slice1 Try.underlying49 (by kernel_rfl) hf with ⟨hcs, _⟩ | ⟨x, l, c, m, n, V, D, Pl, hcs, _, hl, hm, hmm, _, hall⟩
  · simp [Value.cells] at hcs
    obtain ⟨rfl, rfl, rfl⟩ := hcs
    exact ⟨fun _ => ByteArray.empty, by unfold maxLen; omega, fun j hj => by omega, fun h => by omega⟩
  · simp [Value.cells] at hcs
    obtain ⟨rfl, rfl, rfl⟩ := hcs
    have hmm' : m = cap0 := by simpa using hmm
    have each : ∀ i, i < cap0 → ∃ q : ByteArray, q.size ≤ maxLen ∧ W.cell? (x.add i) = some (.string q) := by
      intro i hi
      obtain ⟨e0, t0⟩ := hall i (by omega)
      obtain ⟨b, hb, _, hs⟩ := DataW.trod_string Try.underlying9 t0
      simp only [List.cons.injEq, and_true] at hb
      rw [hb] at e0
      exact ⟨b, hs, e0⟩
    obtain ⟨q, hq⟩ := Go.Deep.choose_lt each
    refine ⟨q, by omega, fun j hj => (hq j (by omega)).1, fun h => ?_⟩
    obtain ⟨b, off, spot⟩ := x
    have hc := (hq 0 (by omega)).2
    have hspot : spot = none := by simpa [Addr.add] using World.cell?_spot hc
    subst hspot
    refine ⟨b, off, rfl, World.block_lt_of_cell? W _ hc, fun j hj => ?_⟩
    rw [← add_plain]
    exact (hq j (by omega)).2

theorem bools_of {H : Type} {enc : TypeId × Value → H} {W : World} {a0 : Option Addr} {len0 cap0 fuel : Nat} {x : DataW H × List MemPlace}
    (hf : DataW.trod enc Try.prog W 0 (fun _ => true) true fuel 39 (Value.slice a0 len0 cap0).cells.toList = some x) : ∃ B, IsBools W a0 len0 B := by
  rcases Go.Deep.open_slice1 Try.underlying39 (by kernel_rfl) hf with ⟨hcs, _⟩ | ⟨x, l, c, m, n, V, D, Pl, hcs, _, hl, hm, hmm, _, hall⟩
  · simp [Value.cells] at hcs
    obtain ⟨rfl, rfl, rfl⟩ := hcs
    exact ⟨fun _ => false, by unfold maxLen; omega, fun h => by omega⟩
  · simp [Value.cells] at hcs
    obtain ⟨rfl, rfl, rfl⟩ := hcs
    have hmm' : m = cap0 := by simpa using hmm
    have each : ∀ i, i < cap0 → ∃ q : Bool, W.cell? (x.add i) = some (.bool q) := by
      intro i hi
      obtain ⟨e0, t0⟩ := hall i (by omega)
      obtain ⟨b, hb, _⟩ := DataW.trod_bool Try.underlying4 t0
      simp only [List.cons.injEq, and_true] at hb
      rw [hb] at e0
      exact ⟨b, e0⟩
    obtain ⟨q, hq⟩ := Go.Deep.choose_lt each
    refine ⟨q, by omega, fun h => ?_⟩
    obtain ⟨b, off, spot⟩ := x
    have hc := hq 0 (by omega)
    have hspot : spot = none := by simpa [Addr.add] using World.cell?_spot hc
    subst hspot
    refine ⟨b, off, rfl, World.block_lt_of_cell? W _ hc, fun j hj => ?_⟩
    rw [← add_plain]
    exact hq j (by omega)

set_option maxRecDepth 100000 in
theorem script5_lifted (os : Os) (started : os.Started) (H : Type) (enc : TypeId × Value → H) :
    ReturnsInHanded {} Try.checked os 5 .any (Rows.fnWithSecretScriptSpec.pre6 enc Try.prog Try.f5 Rows.fnWithSecretScriptRow.domain false) (Rows.fnWithSecretScriptSpec.post enc Try.prog Try.f5 false true false false) := by
  refine returnsInHanded_of_change (C := Try.checked) own started (by kernel_rfl) Try.func5
    (ChangeSpec.witness6 (enc := enc) (C := Try.checked) false ⟨#[], #[.float .f64 0, .slice none 0 0, .slice none 0 0], []⟩ 8 (by kernel_rfl) (by kernel_rfl) (by kernel_rfl) (by kernel_rfl)) ?_
  intro W base args ds gs before hval0 hW hcnd _
  have hval : ∀ (j : Nat) t v, Try.f5.params[j]? = some t → args[j]? = some v → Value.okWide Try.prog W .any base t v := hval0
  have hW' := hW
  obtain ⟨p, q, hA0, hV, rfl, hfz, hnd⟩ := hW
  have hA : DataW.TrodAll enc Try.prog W 0 (fun _ => true) true Try.f5.params.toList args.toList ds p := hA0
  rw [Try.params5] at hA hval
  obtain ⟨v0, vs0, d0, ds0, p0, q0, hargs, rfl, rfl, h0, r0⟩ := trodAll_cons hA
  obtain ⟨v1, vs1, d1, ds1, p1, q1, hargs1, rfl, rfl, h1, r1⟩ := trodAll_cons r0
  obtain ⟨v2, vs2, d2, ds2, p2, q2, hargs2, rfl, rfl, h2, r2⟩ := trodAll_cons r1
  obtain ⟨rfl, rfl, rfl⟩ := trodAll_nil r2
  obtain rfl : args = #[v0, v1, v2] := by cases args; simp_all
  obtain ⟨rfl, rfl⟩ := trodVars_none hV
  obtain ⟨x, rfl, rfl, rfl, w0⟩ := open_float Try.underlying46 (hval 0 46 v0 rfl rfl) h0
  obtain ⟨a1, len1, cap1, rfl⟩ := okWide_slice Try.underlying49 (hval 1 49 v1 rfl rfl)
  obtain ⟨a2, len2, cap2, rfl⟩ := okWide_slice Try.underlying39 (hval 2 39 v2 rfl rfl)
  have k1 := h1
  have k2 := h2
  have lt1 : ∀ x ∈ p1, x.block < W.heap.size := by obtain ⟨m, hm⟩ := k1; exact DataW.trod_lt m _ _ _ hm
  have lt2 : ∀ x ∈ p2, x.block < W.heap.size := by obtain ⟨m, hm⟩ := k2; exact DataW.trod_lt m _ _ _ hm
  obtain ⟨U, w1⟩ : ∃ U, IsStrs W a1 len1 U := by obtain ⟨fuel, hf⟩ := h1; exact strs_of hf
  obtain ⟨B, w2⟩ : ∃ B, IsBools W a2 len2 B := by obtain ⟨fuel, hf⟩ := h2; exact bools_of hf
  clear hA0 hval0
  refine (script5_any x len1 cap1 len2 cap2 a1 a2 U B W (of_decide_eq_true w0) w1 w2).mono fun e W' ⟨he, bel⟩ => ?_
  subst he
  exact ⟨_, rfl, _, _, _, [], _, [], hW', trodAll_mk1 (shut_bool Try.underlying4 _), (trodAll_cons_mk (shut_float Try.underlying46 w0) (trodAll_cons_mk (Below.trod laidOut (by kernel_rfl) (of_decide_eq_true (by kernel_rfl)) k1 bel lt1) (trodAll_cons_mk (Below.trod laidOut (by kernel_rfl) (of_decide_eq_true (by kernel_rfl)) k2 bel lt2) trodAll_mk0))), rfl, bel.frame _, fun h => by cases h⟩

/-- The given statement. -/
theorem withSecretScript : Rows.FnWithSecretScriptSaid :=
  OpenClaim.holds_of_wide 5 Try.f5 rfl rfl rfl rfl rfl rfl rfl ⟨rfl, rfl, rfl, rfl, rfl⟩ rfl rfl rfl rfl rfl (by kernel_rfl) Try.func5 (by kernel_rfl)
    (of_decide_eq_true (by kernel_rfl)) (by unfold Func.isWrapper; first | (rw [if_pos (by decide +kernel)]; kernel_rfl) | (rw [if_neg (by decide +kernel)]; exact ⟨rfl, rfl⟩))
    (fun os started H enc _ => script5_lifted os started H enc)
#print axioms withSecretScript

end Go.Proofs.Qxb6614646a
