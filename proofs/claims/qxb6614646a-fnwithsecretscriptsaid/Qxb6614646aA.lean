/-
  Floats: what the law asks of them, over bits: no Go in sight.
-/
import GoSem.Core.Float
namespace Go.Proofs.Qxb6614646a.Fl
open Ieee

theorem sw : double.signWeight = 9223372036854775808 := by decide
theorem bin : double.binade = 4503599627370496 := by decide
theorem inf : double.infRung = 9218868437227405312 := by decide
theorem lp : double.leastPlace = -1074 := by decide

/-- What a sign and a rung stand for. -/
def dat (s : Bool) (r : Nat) : Datum :=
  if r < 4503599627370496 then .number s r (-1074)
  else if r < 9218868437227405312 then .number s (4503599627370496 + r % 4503599627370496) (-1074 + (r / 4503599627370496 - 1 : Nat))
  else if r = 9218868437227405312 then .infinity s else .nan s (r - 9218868437227405312)

theorem read_eq (x : Nat) : double.read x = dat (x / 9223372036854775808 % 2 == 1) (x % 9223372036854775808) := by
  unfold Format.read dat
  simp only [sw, bin, inf, lp]

/-- Is the float neither a NaN nor an infinity? Is it a zero? -/
def fin (x : Nat) : Bool := decide (x % 9223372036854775808 < 9218868437227405312)
def zer (x : Nat) : Bool := x % 9223372036854775808 == 0
/-- The float that a Maker keeps: negative zero made zero. -/
def norm (x : Nat) : Nat := if zer x = true then 0 else x

theorem dat_fin {s : Bool} {r : Nat} (h : r < 9218868437227405312) : ∃ m i, dat s r = .number s m i ∧ dat (!s) r = .number (!s) m i ∧ dat false r = .number false m i ∧ m ≤ 9007199254740991 ∧ i ≤ 971 ∧ (m = 0 ↔ r = 0) := by
  unfold dat
  by_cases h1 : r < 4503599627370496
  · rw [if_pos h1, if_pos h1, if_pos h1]
    exact ⟨_, _, rfl, rfl, rfl, by omega, by omega, Iff.rfl⟩
  · rw [if_neg h1, if_neg h1, if_neg h1, if_pos h, if_pos h, if_pos h]
    exact ⟨_, _, rfl, rfl, rfl, by omega, by omega, by omega⟩

theorem fin_read {x : Nat} (h : fin x = true) : ∃ s m i, double.read x = .number s m i ∧ double.read (x % 9223372036854775808) = .number false m i ∧ m ≤ 9007199254740991 ∧ i ≤ 971 ∧ (m = 0 ↔ zer x = true) := by
  have h' := of_decide_eq_true h
  obtain ⟨m, i, e1, e2, e3, b1, b2, b3⟩ := dat_fin (s := (x / 9223372036854775808 % 2 == 1)) h'
  have h63 : x % 9223372036854775808 / 9223372036854775808 % 2 = 0 := by omega
  have hm : x % 9223372036854775808 % 9223372036854775808 = x % 9223372036854775808 := by omega
  refine ⟨_, m, i, (read_eq x).trans e1, ?_, b1, b2, ?_⟩
  · rw [read_eq, h63, hm]; exact e3
  · rw [b3]; unfold zer; rw [beq_iff_eq]

theorem dat_inf {r : Nat} (h : ¬ r < 9218868437227405312) : (∀ s, dat s r = .infinity s) ∨ (∀ s, ∃ t, dat s r = .nan s t) := by
  by_cases e : r = 9218868437227405312
  · left; intro s; unfold dat; rw [if_neg (by omega), if_neg h, if_pos e]
  · right; intro s; unfold dat; rw [if_neg (by omega), if_neg h, if_neg e]; exact ⟨_, rfl⟩

theorem inf_read {x : Nat} (h : fin x = false) : (∃ s t, double.read x = .nan s t) ∨ (∃ s, double.read x = .infinity s ∧ double.read (x % 9223372036854775808) = .infinity false) := by
  have h' := of_decide_eq_false h
  have h63 : x % 9223372036854775808 / 9223372036854775808 % 2 = 0 := by omega
  have hm : x % 9223372036854775808 % 9223372036854775808 = x % 9223372036854775808 := by omega
  rw [read_eq, read_eq, h63, hm]
  rcases dat_inf h' with e | e
  · right; exact ⟨_, e _, e _⟩
  · left; obtain ⟨t, ht⟩ := e (x / 9223372036854775808 % 2 == 1); exact ⟨_, t, ht⟩

theorem signed_opp (s : Bool) (m k : Nat) : signed s m k + signed (!s) m k = 0 := by
  cases s <;> simp [signed] <;> omega

theorem sub_fin {x : Nat} (h : fin x = true) : double.sub x x = some 0 := by
  obtain ⟨s, m, i, e, _⟩ := fin_read h
  unfold Format.sub
  rw [e]
  simp only [Datum.opposite, Datum.sum, Int.min_self, signed_opp, if_true, Option.map_some]
  cases s <;> rfl

theorem sub_inf {x : Nat} (h : fin x = false) : double.sub x x = none := by
  unfold Format.sub
  rcases inf_read h with ⟨s, t, e⟩ | ⟨s, e, _⟩
  · rw [e]; rfl
  · rw [e]; cases s <;> rfl

theorem cmp_self (a : Int) : compare a a = .eq := by simp [compare, compareOfLessAndEq]

theorem order_self {x : Nat} (h : fin x = true) : double.order x x = some .eq := by
  obtain ⟨s, m, i, e, _⟩ := fin_read h
  unfold Format.order
  rw [e]
  simp only [Datum.order, cmp_self]

theorem zero_eq : double.read 0 = .number false 0 (-1074) := by rw [read_eq]; decide

/-- The comparison with zero. -/
theorem order_zero {x : Nat} (h : fin x = true) : (double.order x 0 == some .eq) = zer x := by
  obtain ⟨s, m, i, e, _, _, _, hz⟩ := fin_read h
  unfold Format.order
  rw [e, zero_eq]
  simp only [Datum.order]
  generalize (i - min i (-1074)).toNat = k
  generalize (-1074 - min i (-1074)).toNat = k'
  have h0 : signed false 0 k' = 0 := by simp [signed]
  rw [h0]
  by_cases hm : m = 0
  · subst hm
    have h1 : signed s 0 k = 0 := by cases s <;> simp [signed]
    rw [h1, cmp_self, hz.1 rfl]; rfl
  · have hzf : zer x = false := by
      cases hh : zer x with
      | false => rfl
      | true => exact absurd (hz.2 hh) hm
    rw [hzf]
    have hp : 0 < m <<< k := by rw [Nat.shiftLeft_eq]; exact Nat.mul_pos (by omega) (Nat.two_pow_pos k)
    cases s
    · have : signed false m k = ((m <<< k : Nat) : Int) := rfl
      rw [this]
      have : compare ((m <<< k : Nat) : Int) 0 = .gt := by
        unfold compare
        show compareOfLessAndEq _ _ = _
        unfold compareOfLessAndEq
        rw [if_neg (by omega), if_neg (by omega)]
      rw [this]; rfl
    · have : signed true m k = -((m <<< k : Nat) : Int) := rfl
      rw [this]
      have : compare (-((m <<< k : Nat) : Int)) 0 = .lt := by
        unfold compare
        show compareOfLessAndEq _ _ = _
        unfold compareOfLessAndEq
        rw [if_pos (by omega)]
      rw [this]; rfl

theorem order_norm {x : Nat} (h : fin x = true) : double.order (norm x) x = some .eq := by
  unfold norm
  by_cases hz : zer x = true
  · rw [if_pos hz]
    obtain ⟨s, m, i, e, _, _, _, hm⟩ := fin_read h
    have m0 := hm.2 hz
    subst m0
    unfold Format.order
    rw [e, zero_eq]
    simp only [Datum.order]
    have h1 : ∀ k, signed s 0 k = 0 := fun k => by cases s <;> simp [signed]
    have h2 : ∀ k, signed false 0 k = 0 := fun k => by simp [signed]
    rw [h1, h2, cmp_self]
  · rw [if_neg hz]; exact order_self h

theorem max_eq : double.read 9218868437227405311 = .number false 9007199254740991 971 := by rw [read_eq]; decide

theorem cmp_le {a b : Int} (h : a ≤ b) : (some (compare a b) == some Ordering.gt) = false := by
  have : compare a b = .lt ∨ compare a b = .eq := by
    unfold compare
    show compareOfLessAndEq _ _ = _ ∨ compareOfLessAndEq _ _ = _
    unfold compareOfLessAndEq
    by_cases h1 : a < b
    · left; rw [if_pos h1]
    · right; rw [if_neg h1, if_pos (by omega)]
  rcases this with e | e <;> rw [e] <;> rfl

/-- No finite number's absolute value is above the greatest. -/
theorem abs_fin {x : Nat} (h : fin x = true) : (double.order (x % 9223372036854775808) 9218868437227405311 == some .gt) = false := by
  obtain ⟨s, m, i, _, e, b1, b2, _⟩ := fin_read h
  unfold Format.order
  rw [e, max_eq]
  simp only [Datum.order]
  refine cmp_le ?_
  have hb : min i 971 = i := by omega
  rw [hb]
  have h0 : (i - i).toNat = 0 := by omega
  rw [h0]
  generalize (971 - i).toNat = k
  show ((m <<< 0 : Nat) : Int) ≤ ((9007199254740991 <<< k : Nat) : Int)
  rw [Nat.shiftLeft_zero, Nat.shiftLeft_eq]
  have := Nat.mul_le_mul_left 9007199254740991 (Nat.two_pow_pos k)
  omega

theorem abs_inf {x : Nat} {s : Bool} (h : double.read x = .infinity s) (h' : double.read (x % 9223372036854775808) = .infinity false) : (double.order (x % 9223372036854775808) 9218868437227405311 == some .gt) = true ∧ double.order x x = some .eq := by
  unfold Format.order
  rw [h', max_eq, h]
  refine ⟨rfl, ?_⟩
  cases s <;> rfl

theorem nan_self {x : Nat} {s : Bool} {t : Nat} (h : double.read x = .nan s t) : double.order x x = none := by
  unfold Format.order; rw [h]; rfl

/-- The bits that the model draws for a NaN are a NaN's. -/
theorem nan_zero (a b : Nat) (hb : b < 4503599627370495) : double.order (a * 9223372036854775808 + 9218868437227405312 + 1 + b) 0 = none := by
  unfold Format.order
  rw [read_eq]
  have h1 : (a * 9223372036854775808 + 9218868437227405312 + 1 + b) % 9223372036854775808 = 9218868437227405313 + b := by omega
  rw [h1]
  unfold dat
  rw [if_neg (by omega), if_neg (by omega), if_neg (by omega)]
  rfl

theorem one_over : double.div 4607182418800017408 0 = some 9218868437227405312 := by decide
theorem inf_pos : (double.order 9218868437227405312 0 == some .gt) = true := by decide

end Go.Proofs.Qxb6614646a.Fl
