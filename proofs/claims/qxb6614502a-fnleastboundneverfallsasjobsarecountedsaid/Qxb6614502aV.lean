/-
  The plain law of the least rating: no Go in sight.
-/
import Derived.Test.Qxb6614502aU
namespace Go.Proofs.Qxb6614502a
open Go.RowKit

theorem isz_val (u : Nat → Nat) : W.isz u = true ↔ W.val u 3 = 0 := by
  rw [W.val3]
  unfold W.isz
  simp only [Bool.and_eq_true, beq_iff_eq]
  omega

/-- The divisor of a number. -/
def D (x : Nat) : Nat := if x = 0 then 1 else x
theorem D_pos (x : Nat) : 0 < D x := by unfold D; split <;> omega
theorem dv_val (u : Nat → Nat) : W.val (W.dv u) 3 = D (W.val u 3) := by
  unfold D
  cases hz : W.isz u with
  | true =>
    have h : W.dv u = W.word3 1 := funext (W.dv_true hz)
    rw [if_pos ((isz_val u).1 hz), h, W.word3_val]
  | false =>
    have h : W.dv u = u := funext (W.dv_false hz)
    rw [if_neg (fun e => by rw [(isz_val u).2 e] at hz; exact Bool.noConfusion hz), h]

/-- What a comparison of ratings says, over values. -/
theorem cmpR_neg (V U v u : Nat → Nat) (hV : W.Words V 3) (hU : W.Words U 3) (hv : W.Words v 3) (hu : W.Words u 3) :
    decide (cmpR V U v u < 0) = decide (W.val V 3 * D (W.val u 3) < W.val v 3 * D (W.val U 3)) := by
  have h := W.cmpN_val (W.prd V (W.dv u)) (W.prd v (W.dv U)) 6 (W.prd_words _ _ hV (W.dv_words hu)) (W.prd_words _ _ hv (W.dv_words hU))
  rw [W.prd_val, W.prd_val, dv_val, dv_val] at h
  have e : cmpR V U v u = W.cmpN (W.prd V (W.dv u)) (W.prd v (W.dv U)) 6 := rfl
  rw [e]
  generalize W.cmpN (W.prd V (W.dv u)) (W.prd v (W.dv U)) 6 = k at *
  obtain ⟨h1, h2, h3⟩ := h
  rcases Nat.lt_trichotomy (W.val V 3 * D (W.val u 3)) (W.val v 3 * D (W.val U 3)) with h | h | h
  · rw [h1 h, decide_eq_true h]; rfl
  · rw [h3 h]; exact (decide_eq_false (by omega)).symm
  · rw [h2 h]; exact (decide_eq_false (by omega)).symm

/-- Is the mean V / U lowered by c > 0 jobs at r? -/
def Low (V U c r : Nat) : Prop := 0 < c ∧ U ≠ 0 ∧ r * U < V

theorem low_iff (V U c r : Nat) (h0 : U = 0 → V = 0) : (V + c * r) * D U < V * D (U + c) ↔ Low V U c r := by
  unfold Low
  by_cases hU : U = 0
  · have hV := h0 hU
    subst hU; subst hV
    simp
  · have e1 : D U = U := if_neg hU
    have e2 : D (U + c) = U + c := if_neg (by omega)
    rw [e1, e2, Nat.add_mul, Nat.mul_add]
    have e3 : c * r * U = c * (r * U) := Nat.mul_assoc _ _ _
    have e4 : V * c = c * V := Nat.mul_comm _ _
    rw [e3, e4]
    generalize r * U = x
    constructor
    · intro h
      have h' : c * x < c * V := by omega
      have hc : 0 < c := by
        rcases Nat.eq_zero_or_pos c with e | e
        · subst e; simp at h'
        · exact e
      exact ⟨hc, hU, Nat.lt_of_mul_lt_mul_left h'⟩
    · rintro ⟨hc, _, hx⟩
      have h' := (Nat.mul_lt_mul_left hc).2 hx
      omega

/-- The bounds under which nothing runs over. -/
structure Fit (v u : Nat → Nat) (c r : Nat) : Prop where
  wv : W.Words v 3
  wu : W.Words u 3
  V : W.val v 3 + c * r < 6277101735386680763835789423207666416102355444464034512896
  U : W.val u 3 + c < 6277101735386680763835789423207666416102355444464034512896
  z : W.val u 3 = 0 → W.val v 3 = 0

theorem addV {v u : Nat → Nat} {c r : Nat} (h : Fit v u c r) : W.val (W.add3 v (W.prod3 c r)) 3 = W.val v 3 + c * r := by
  have e := W.prod3_val c r
  rw [W.add3_val v (W.prod3 c r) (by rw [e]; exact h.V), e]
theorem addU {v u : Nat → Nat} {c r : Nat} (h : Fit v u c r) : W.val (W.add3 u (W.word3 c)) 3 = W.val u 3 + c := by
  have e := W.word3_val c
  rw [W.add3_val u (W.word3 c) (by rw [e]; exact h.U), e]

theorem lower_iff {v u : Nat → Nat} {c r : Nat} (h : Fit v u c r) : lower v u c r = true ↔ Low (W.val v 3) (W.val u 3) c r := by
  unfold lower
  rw [cmpR_neg _ _ _ _ (W.add3_words _ _) (W.add3_words _ _) h.wv h.wu, addV h, addU h, decide_eq_true_eq]
  exact low_iff _ _ _ _ h.z

theorem pm_val (a : Nat → Nat) (m : Nat) : W.val (pmw a m 3) 3 + pmc a m 3 * 6277101735386680763835789423207666416102355444464034512896 = W.val a 3 * m := by
  have h := W.rowS_val m a 0 (fun _ => 0) (by omega) 3 (by omega)
  have e0 : W.val (fun _ => 0) 6 = 0 := by simp [W.val]
  have f3 : pmw a m 3 3 = 0 := W.rowS_far m a 0 (fun _ => 0) 3 3 (by omega)
  have f4 : pmw a m 3 4 = 0 := W.rowS_far m a 0 (fun _ => 0) 3 4 (by omega)
  have f5 : pmw a m 3 5 = 0 := W.rowS_far m a 0 (fun _ => 0) 3 5 (by omega)
  have e6 : W.val (pmw a m 3) 6 = W.val (pmw a m 3) 3 := by
    have : W.val (pmw a m 3) 6 = W.val (pmw a m 3) 3 + pmw a m 3 3 * 18446744073709551616 ^ 3 + pmw a m 3 4 * 18446744073709551616 ^ 4 + pmw a m 3 5 * 18446744073709551616 ^ 5 := rfl
    rw [this, f3, f4, f5]; omega
  have h' : W.val (pmw a m 3) 6 + pmc a m 3 * 18446744073709551616 ^ (0 + 3) = W.val (fun _ => 0) 6 + m * W.val a 3 * 18446744073709551616 ^ 0 := h
  rw [e0, e6, Nat.pow_zero, Nat.mul_one, Nat.zero_add, Nat.zero_add, Nat.mul_comm m] at h'
  rw [← h']

theorem pbl_iff (a b : Nat → Nat) (m : Nat) (ha : W.Words a 3) (hb : W.Words b 3) (hm : m < 18446744073709551616) : pbl a m b = true ↔ W.val a 3 * m < W.val b 3 := by
  have hp := pm_val a m
  have hw := (pm_words a m ha hm 3 (by omega)).1
  have hw3 : W.Words (pmw a m 3) 3 := fun j hj => hw j (by omega)
  have hlb : W.val b 3 < 6277101735386680763835789423207666416102355444464034512896 := W.val_lt b 3 hb
  have h := W.cmpN_val (pmw a m 3) b 3 hw3 hb
  unfold pbl
  rw [Bool.and_eq_true, beq_iff_eq, decide_eq_true_eq]
  obtain ⟨h1, h2, h3⟩ := h
  generalize pmc a m 3 = c at *
  generalize W.val a 3 * m = x at *
  generalize W.cmpN (pmw a m 3) b 3 = k at *
  generalize W.val (pmw a m 3) 3 = p at *
  constructor
  · rintro ⟨e, hk⟩
    subst e
    rcases Nat.lt_trichotomy p (W.val b 3) with h | h | h
    · omega
    · have := h3 h; omega
    · have := h2 h; omega
  · intro hx
    have hc : c = 0 := by omega
    refine ⟨hc, ?_⟩
    rw [h1 (by omega)]; omega

theorem lb_lower {v u : Nat → Nat} {c r : Nat} (h : Fit v u c r) (hr : r < 18446744073709551616) : lb v u c r = lower v u c r := by
  rw [Bool.eq_iff_iff, lower_iff h]
  unfold lb Low
  rw [Bool.and_eq_true, Bool.and_eq_true, decide_eq_true_eq, pbl_iff u v r h.wu h.wv hr, Bool.not_eq_true', Nat.mul_comm (W.val u 3)]
  constructor
  · rintro ⟨⟨h1, h2⟩, h3⟩
    exact ⟨h1, fun e => by rw [(isz_val u).2 e] at h2; exact Bool.noConfusion h2, h3⟩
  · rintro ⟨h1, h2, h3⟩
    refine ⟨⟨h1, ?_⟩, h3⟩
    cases hz : W.isz u with
    | false => rfl
    | true => exact absurd ((isz_val u).1 hz) h2

theorem lb_lst {v u : Nat → Nat} {c r : Nat} (h : Fit v u c r) (hr : r < 18446744073709551616) : lbV v u c r = lstV v u c r ∧ lbU v u c r = lstU v u c r := by
  unfold lbV lbU lstV lstU
  rw [lb_lower h hr]
  exact ⟨rfl, rfl⟩

/-- The domain's bounds. -/
theorem dom_fit {v u : Nat → Nat} (hv : W.Words v 3) (hu : W.Words u 3) (hd : dom v u = true) :
    W.val v 3 < 1569275433846670190958947355801916604025588861116008628224 ∧ W.val u 3 < 170141183460469231731687303715884105728 ∧ (W.val u 3 = 0 → W.val v 3 = 0) := by
  unfold dom at hd
  rw [Bool.and_eq_true, Bool.and_eq_true, Bool.and_eq_true, decide_eq_true_eq, decide_eq_true_eq, beq_iff_eq, Bool.or_eq_true] at hd
  obtain ⟨⟨⟨h1, h2⟩, h3⟩, h4⟩ := hd
  have v0 := hv 0 (by omega)
  have v1 := hv 1 (by omega)
  have u0 := hu 0 (by omega)
  refine ⟨?_, ?_, fun h => ?_⟩
  · rw [W.val3]; omega
  · rw [W.val3]; omega
  · rcases h4 with h4 | h4
    · rw [(isz_val u).2 h] at h4; exact Bool.noConfusion h4
    · exact (isz_val v).1 h4

theorem mul63 (c r : Nat) (hc : c < 9223372036854775808) (hr : r < 9223372036854775808) : c * r ≤ 85070591730234615847396907784232501249 := by
  have := Nat.mul_le_mul (show c ≤ 9223372036854775807 by omega) (show r ≤ 9223372036854775807 by omega)
  simpa using this

theorem lst_true' {v u : Nat → Nat} {c r : Nat} (h : Fit v u c r) (hl : Low (W.val v 3) (W.val u 3) c r) : lstV v u c r = W.add3 v (W.prod3 c r) ∧ lstU v u c r = W.add3 u (W.word3 c) :=
  ⟨funext fun j => (lst_true ((lower_iff h).2 hl) j).1, funext fun j => (lst_true ((lower_iff h).2 hl) j).2⟩
theorem lst_false' {v u : Nat → Nat} {c r : Nat} (h : Fit v u c r) (hl : ¬ Low (W.val v 3) (W.val u 3) c r) : lstV v u c r = v ∧ lstU v u c r = u := by
  have hf : lower v u c r = false := by
    cases e : lower v u c r with
    | false => rfl
    | true => exact absurd ((lower_iff h).1 e) hl
  exact ⟨funext fun j => (lst_false hf j).1, funext fun j => (lst_false hf j).2⟩

/-- TWO STEPS ARE ONE. -/
theorem two_is_one (v u : Nat → Nat) (f s r : Nat) (hv : W.Words v 3) (hu : W.Words u 3) (hd : dom v u = true) (hfs : f + s < 9223372036854775808) (hr : r < 9223372036854775808) :
    ∀ j, j < 3 → lstV (lstV v u f r) (lstU v u f r) s r j = lstV v u (f + s) r j ∧ lstU (lstV v u f r) (lstU v u f r) s r j = lstU v u (f + s) r j := by
  obtain ⟨b1, b2, b3⟩ := dom_fit hv hu hd
  have m1 := mul63 f r (by omega) hr
  have m2 := mul63 s r (by omega) hr
  have m3 := mul63 (f + s) r (by omega) hr
  have F1 : Fit v u f r := ⟨hv, hu, by omega, by omega, b3⟩
  have F3 : Fit v u (f + s) r := ⟨hv, hu, by omega, by omega, b3⟩
  by_cases h1 : Low (W.val v 3) (W.val u 3) f r
  · obtain ⟨e1, e2⟩ := lst_true' F1 h1
    have v1 := addV F1
    have u1 := addU F1
    obtain ⟨p1, p2, p3⟩ := h1
    have F2 : Fit (W.add3 v (W.prod3 f r)) (W.add3 u (W.word3 f)) s r := ⟨W.add3_words _ _, W.add3_words _ _, by rw [v1]; omega, by rw [u1]; omega, by rw [u1]; intro h; omega⟩
    obtain ⟨g1, g2⟩ := lst_true' F3 ⟨by omega, p2, p3⟩
    rw [e1, e2, g1, g2]
    have vv := addV F3
    have uu := addU F3
    rw [Nat.add_mul] at vv
    by_cases hs : 0 < s
    · have hl : Low (W.val (W.add3 v (W.prod3 f r)) 3) (W.val (W.add3 u (W.word3 f)) 3) s r := by
        rw [v1, u1]
        refine ⟨hs, by omega, ?_⟩
        rw [Nat.mul_add, Nat.mul_comm r f]; omega
      obtain ⟨k1, k2⟩ := lst_true' F2 hl
      rw [k1, k2]
      have vw := addV F2
      have uw := addU F2
      intro j hj
      exact ⟨W.val_inj _ _ 3 (W.add3_words _ _) (W.add3_words _ _) (by rw [vw, vv, v1]; omega) j hj, W.val_inj _ _ 3 (W.add3_words _ _) (W.add3_words _ _) (by rw [uw, uu, u1]; omega) j hj⟩
    · have h0 : s = 0 := by omega
      subst h0
      obtain ⟨k1, k2⟩ := lst_false' F2 (fun h => by have := h.1; omega)
      rw [k1, k2]
      intro j _
      exact ⟨rfl, rfl⟩
  · obtain ⟨e1, e2⟩ := lst_false' F1 h1
    rw [e1, e2]
    by_cases h0 : f = 0
    · subst h0
      rw [Nat.zero_add]
      intro j _
      exact ⟨rfl, rfl⟩
    · have n1 : ∀ c, ¬ Low (W.val v 3) (W.val u 3) c r := fun c h => h1 ⟨by omega, h.2.1, h.2.2⟩
      have F2 : Fit v u s r := ⟨hv, hu, by omega, by omega, b3⟩
      obtain ⟨g1, g2⟩ := lst_false' F3 (n1 _)
      obtain ⟨k1, k2⟩ := lst_false' F2 (n1 _)
      rw [g1, g2, k1, k2]
      intro j _
      exact ⟨rfl, rfl⟩

end Go.Proofs.Qxb6614502a
