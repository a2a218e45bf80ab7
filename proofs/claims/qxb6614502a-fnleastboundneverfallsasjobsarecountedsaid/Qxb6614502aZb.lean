/-
  The plain law of the bound that never falls: no Go in sight.
-/
import Derived.Test.Qxb6614502aX
namespace Go.Proofs.Qxb6614502a
open Go.RowKit

/-- A sum of products in the order that the fractions are compared. -/
theorem frac_le (V U k m r l : Nat) (hl : r ≤ l) :
    (r * U < V → (V + (k + m) * r) * (U + (k + m)) ≤ (V + k * l + m * r) * (U + (k + m))) ∧
    (V ≤ r * U → V * (U + (k + m)) ≤ (V + k * l + m * r) * U) ∧
    (V ≤ r * U → V * (U + k) ≤ (V + k * l) * U) := by
  have h1 := Nat.mul_le_mul_left k hl
  refine ⟨fun _ => ?_, fun h => ?_, fun h => ?_⟩
  · refine Nat.mul_le_mul_right _ ?_
    rw [Nat.add_mul]; omega
  · have a1 := Nat.mul_le_mul_left k h
    have a2 := Nat.mul_le_mul_left m h
    have a3 := Nat.mul_le_mul_right U h1
    have b1 : V * (U + (k + m)) = V * U + k * V + m * V := by rw [Nat.mul_add, Nat.mul_add, Nat.mul_comm V k, Nat.mul_comm V m]; omega
    have b2 : (V + k * l + m * r) * U = V * U + k * l * U + m * (r * U) := by rw [Nat.add_mul, Nat.add_mul, Nat.mul_assoc m]
    rw [Nat.mul_assoc] at a3
    rw [b1, b2]
    omega
  · have a1 := Nat.mul_le_mul_left k h
    have a3 := Nat.mul_le_mul_right U h1
    have b1 : V * (U + k) = V * U + k * V := by rw [Nat.mul_add, Nat.mul_comm V k]
    have b2 : (V + k * l) * U = V * U + k * l * U := by rw [Nat.add_mul]
    rw [Nat.mul_assoc] at a3
    rw [b1, b2]
    omega

theorem D_of (x : Nat) (h : 0 < x) : D x = x := if_neg (by omega)

theorem never_falls (v u : Nat → Nat) (k m r l : Nat) (hv : W.Words v 3) (hu : W.Words u 3) (hd : dom v u = true) (hn : k + m < 9223372036854775808) (hr : r < 9223372036854775808) (hl : l < 9223372036854775808) (hrl : r ≤ l) :
    cmpR (lstV (W.add3 v (W.prod3 k l)) (W.add3 u (W.word3 k)) m r) (lstU (W.add3 v (W.prod3 k l)) (W.add3 u (W.word3 k)) m r) (lstV v u (k + m) r) (lstU v u (k + m) r) < 0 → False := by
  intro hneg
  obtain ⟨b1, b2, b3⟩ := dom_fit hv hu hd
  have m1 := mul63 k l (by omega) hl
  have m2 := mul63 m r (by omega) hr
  have m3 := mul63 (k + m) r (by omega) hr
  have F1 : Fit v u (k + m) r := ⟨hv, hu, by omega, by omega, b3⟩
  have FL : Fit v u k l := ⟨hv, hu, by omega, by omega, b3⟩
  have v1 := addV FL
  have u1 := addU FL
  have F2 : Fit (W.add3 v (W.prod3 k l)) (W.add3 u (W.word3 k)) m r := ⟨W.add3_words _ _, W.add3_words _ _, by rw [v1]; omega, by rw [u1]; omega, by
    rw [u1, v1]; intro h
    have h0 : W.val u 3 = 0 := by omega
    have k0 : k = 0 := by omega
    rw [b3 h0, k0, Nat.zero_mul]⟩
  have hc := cmpR_neg (lstV (W.add3 v (W.prod3 k l)) (W.add3 u (W.word3 k)) m r) (lstU (W.add3 v (W.prod3 k l)) (W.add3 u (W.word3 k)) m r) (lstV v u (k + m) r) (lstU v u (k + m) r) (lstV_words (W.add3_words _ _)) (lstU_words (W.add3_words _ _)) (lstV_words hv) (lstU_words hu)
  rw [decide_eq_true hneg] at hc
  have hc' := of_decide_eq_true hc.symm
  clear hc hneg
  have hB : (Low (W.val v 3) (W.val u 3) (k + m) r ∧ W.val (lstV v u (k + m) r) 3 = W.val v 3 + (k + m) * r ∧ W.val (lstU v u (k + m) r) 3 = W.val u 3 + (k + m)) ∨ (¬ Low (W.val v 3) (W.val u 3) (k + m) r ∧ W.val (lstV v u (k + m) r) 3 = W.val v 3 ∧ W.val (lstU v u (k + m) r) 3 = W.val u 3) := by
    by_cases h : Low (W.val v 3) (W.val u 3) (k + m) r
    · obtain ⟨e1, e2⟩ := lst_true' F1 h
      exact Or.inl ⟨h, by rw [e1, addV F1], by rw [e2, addU F1]⟩
    · obtain ⟨e1, e2⟩ := lst_false' F1 h
      exact Or.inr ⟨h, by rw [e1], by rw [e2]⟩
  have hA : (Low (W.val v 3 + k * l) (W.val u 3 + k) m r ∧ W.val (lstV (W.add3 v (W.prod3 k l)) (W.add3 u (W.word3 k)) m r) 3 = W.val v 3 + k * l + m * r ∧ W.val (lstU (W.add3 v (W.prod3 k l)) (W.add3 u (W.word3 k)) m r) 3 = W.val u 3 + k + m) ∨ (¬ Low (W.val v 3 + k * l) (W.val u 3 + k) m r ∧ W.val (lstV (W.add3 v (W.prod3 k l)) (W.add3 u (W.word3 k)) m r) 3 = W.val v 3 + k * l ∧ W.val (lstU (W.add3 v (W.prod3 k l)) (W.add3 u (W.word3 k)) m r) 3 = W.val u 3 + k) := by
    by_cases h : Low (W.val v 3 + k * l) (W.val u 3 + k) m r
    · have h' := h
      rw [← v1, ← u1] at h'
      obtain ⟨e1, e2⟩ := lst_true' F2 h'
      exact Or.inl ⟨h, by rw [e1, addV F2, v1], by rw [e2, addU F2, u1]⟩
    · have h' := h
      rw [← v1, ← u1] at h'
      obtain ⟨e1, e2⟩ := lst_false' F2 h'
      exact Or.inr ⟨h, by rw [e1, v1], by rw [e2, u1]⟩
  clear v1 u1 F1 F2 FL hd hv hu
  generalize W.val (lstV v u (k + m) r) 3 = BV at *
  generalize W.val (lstU v u (k + m) r) 3 = BU at *
  generalize W.val (lstV (W.add3 v (W.prod3 k l)) (W.add3 u (W.word3 k)) m r) 3 = AV at *
  generalize W.val (lstU (W.add3 v (W.prod3 k l)) (W.add3 u (W.word3 k)) m r) 3 = AU at *
  generalize W.val v 3 = V at *
  generalize W.val u 3 = U at *
  clear b1 b2 m1 m2 m3 hn hr hl
  have hle : BV * D AU ≤ AV * D BU := by
    by_cases hU : U = 0
    · have hV := b3 hU
      rcases hB with ⟨h, _, _⟩ | ⟨_, hb, _⟩
      · exact absurd hU h.2.1
      · rw [hb, hV, Nat.zero_mul]; omega
    · obtain ⟨q1, q2, q3⟩ := frac_le V U k m r l hrl
      have hkl := Nat.mul_le_mul_left k hrl
      rcases hB with ⟨h, hb, hb'⟩ | ⟨h, hb, hb'⟩
      · rcases hA with ⟨g, ha, ha'⟩ | ⟨g, ha, ha'⟩
        · have e : U + k + m = U + (k + m) := by omega
          rw [hb, hb', ha, ha', D_of _ (by omega), D_of _ (by omega), e]
          exact q1 h.2.2
        · have hm : m = 0 := by
            rcases Nat.eq_zero_or_pos m with e | e
            · exact e
            · refine absurd ⟨e, by omega, ?_⟩ g
              have := h.2.2
              rw [Nat.mul_add, Nat.mul_comm r k]; omega
          subst hm
          have q := q1 h.2.2
          rw [Nat.zero_mul, Nat.add_zero, Nat.add_zero] at q
          rw [hb, hb', ha, ha', D_of _ (by omega), D_of _ (by omega), Nat.add_zero]
          exact q
      · by_cases hn0 : k + m = 0
        · have k0 : k = 0 := by omega
          have m0 : m = 0 := by omega
          subst k0; subst m0
          rcases hA with ⟨g, _, _⟩ | ⟨_, ha, ha'⟩
          · exact absurd g.1 (by omega)
          · rw [hb, hb', ha, ha', Nat.zero_mul, Nat.add_zero, Nat.add_zero]; omega
        · have hVr : V ≤ r * U := by
            rcases Nat.lt_or_ge (r * U) V with e | e
            · exact absurd ⟨by omega, hU, e⟩ h
            · exact e
          rcases hA with ⟨g, ha, ha'⟩ | ⟨g, ha, ha'⟩
          · have e : U + k + m = U + (k + m) := by omega
            rw [hb, hb', ha, ha', D_of _ (by omega), D_of _ (by omega), e]
            exact q2 hVr
          · rw [hb, hb', ha, ha', D_of _ (by omega), D_of _ (by omega)]
            exact q3 hVr
  omega

end Go.Proofs.Qxb6614502a
