/-
  Whole numbers of three and of six words of 64 bits: plain arithmetic: no Go in sight. A number of three words is a function a : Nat → Nat of which a 0, a 1, a 2 count, the least first.
-/
namespace Go.Proofs.Qxb6614502a.W

/-- The sum of two words and a carry; the carry out. -/
def sm (x y c : Nat) : Nat := (x + y + c) % 18446744073709551616
def cr (x y c : Nat) : Nat := (x + y + c) / 18446744073709551616
/-- The product of two words: high and low word. -/
def hi (x y : Nat) : Nat := x * y / 18446744073709551616
def lo (x y : Nat) : Nat := x * y % 18446744073709551616
/-- p + x * y + c: low and high word. -/
def mlo (p x y c : Nat) : Nat := (p + x * y + c) % 18446744073709551616
def mhi (p x y c : Nat) : Nat := (p + x * y + c) / 18446744073709551616

theorem sm_lt (x y c : Nat) : sm x y c < 18446744073709551616 := by unfold sm; omega
theorem lo_lt (x y : Nat) : lo x y < 18446744073709551616 := by unfold lo; omega
theorem mlo_lt (p x y c : Nat) : mlo p x y c < 18446744073709551616 := by unfold mlo; omega
theorem cr_le (x y c : Nat) (hx : x < 18446744073709551616) (hy : y < 18446744073709551616) (hc : c ≤ 1) : cr x y c ≤ 1 := by unfold cr; omega

theorem mul_lt (x y : Nat) (hx : x < 18446744073709551616) (hy : y < 18446744073709551616) : x * y ≤ 340282366920938463426481119284349108225 := by
  have := Nat.mul_le_mul (show x ≤ 18446744073709551615 by omega) (show y ≤ 18446744073709551615 by omega)
  simpa using this

theorem hi_lt (x y : Nat) (hx : x < 18446744073709551616) (hy : y < 18446744073709551616) : hi x y ≤ 18446744073709551614 := by
  have := mul_lt x y hx hy
  unfold hi; omega

theorem mhi_lt (p x y c : Nat) (hp : p < 18446744073709551616) (hx : x < 18446744073709551616) (hy : y < 18446744073709551616) (hc : c < 18446744073709551616) : mhi p x y c < 18446744073709551616 := by
  have := mul_lt x y hx hy
  unfold mhi; omega

/-- The step of the long multiplication: two sums with their carries are one exact sum. -/
theorem step_lo (p x y c : Nat) : sm (sm p (lo x y) 0) c 0 = mlo p x y c := by
  unfold sm lo mlo; omega
theorem step_hi (p x y c : Nat) : hi x y + cr p (lo x y) 0 + cr (sm p (lo x y) 0) c 0 = mhi p x y c := by
  unfold sm lo mhi hi cr; omega
theorem step_lo0 (x y c : Nat) : sm (lo x y) c 0 = mlo 0 x y c := by
  unfold sm lo mlo; omega
theorem step_hi0 (x y c : Nat) : hi x y + cr (lo x y) c 0 = mhi 0 x y c := by
  unfold lo mhi hi cr; omega

theorem mlo_mhi (p x y c : Nat) : mlo p x y c + 18446744073709551616 * mhi p x y c = p + x * y + c := by unfold mlo mhi; omega

/-- The value of n words. -/
def val (P : Nat → Nat) : Nat → Nat
  | 0 => 0
  | n + 1 => val P n + P n * 18446744073709551616 ^ n

def Words (P : Nat → Nat) (n : Nat) : Prop := ∀ j, j < n → P j < 18446744073709551616

theorem val_lt (P : Nat → Nat) (n : Nat) (h : Words P n) : val P n < 18446744073709551616 ^ n := by
  induction n with
  | zero => simp [val]
  | succ n ih =>
    have h1 := ih (fun j hj => h j (by omega))
    have h2 := Nat.mul_le_mul_right (18446744073709551616 ^ n) (show P n + 1 ≤ 18446744073709551616 from h n (by omega))
    rw [Nat.add_mul, Nat.one_mul] at h2
    rw [val, Nat.pow_succ, Nat.mul_comm (18446744073709551616 ^ n)]
    omega

/-- Comparing two words. -/
def cmp1 (x y : Nat) : Int := if x < y then -1 else if y < x then 1 else 0
theorem cmp1_lt {x y : Nat} (h : x < y) : cmp1 x y = -1 := by rw [cmp1, if_pos h]
theorem cmp1_gt {x y : Nat} (h : y < x) : cmp1 x y = 1 := by rw [cmp1, if_neg (by omega), if_pos h]
theorem cmp1_eq {x y : Nat} (h : ¬ x < y) (h' : ¬ y < x) : cmp1 x y = 0 := by rw [cmp1, if_neg h, if_neg h']

/-- Comparing the first n words, the highest first. -/
def cmpN (P Q : Nat → Nat) : Nat → Int
  | 0 => 0
  | n + 1 => if P n < Q n then -1 else if Q n < P n then 1 else cmpN P Q n

theorem cmpN_val (P Q : Nat → Nat) (n : Nat) (hP : Words P n) (hQ : Words Q n) :
    (val P n < val Q n → cmpN P Q n = -1) ∧ (val Q n < val P n → cmpN P Q n = 1) ∧ (val P n = val Q n → cmpN P Q n = 0) := by
  induction n with
  | zero => simp [val, cmpN]
  | succ n ih =>
    have ih' := ih (fun j hj => hP j (by omega)) (fun j hj => hQ j (by omega))
    have lP := val_lt P n (fun j hj => hP j (by omega))
    have lQ := val_lt Q n (fun j hj => hQ j (by omega))
    simp only [val, cmpN]
    generalize 18446744073709551616 ^ n = r at *
    by_cases h1 : P n < Q n
    · have h2 := Nat.mul_le_mul_right r (show P n + 1 ≤ Q n from h1)
      rw [Nat.add_mul, Nat.one_mul] at h2
      rw [if_pos h1]
      refine ⟨fun _ => rfl, fun h => ?_, fun h => ?_⟩ <;> omega
    · by_cases h3 : Q n < P n
      · have h2 := Nat.mul_le_mul_right r (show Q n + 1 ≤ P n from h3)
        rw [Nat.add_mul, Nat.one_mul] at h2
        rw [if_neg h1, if_pos h3]
        refine ⟨fun h => ?_, fun _ => rfl, fun h => ?_⟩ <;> omega
      · have e : P n = Q n := by omega
        rw [if_neg h1, if_neg h3, e]
        refine ⟨fun h => ih'.1 (by omega), fun h => ih'.2.1 (by omega), fun h => ih'.2.2 (by omega)⟩

theorem val_inj (P Q : Nat → Nat) (n : Nat) (hP : Words P n) (hQ : Words Q n) (h : val P n = val Q n) : ∀ j, j < n → P j = Q j := by
  induction n with
  | zero => intro j hj; omega
  | succ n ih =>
    have lP := val_lt P n (fun j hj => hP j (by omega))
    have lQ := val_lt Q n (fun j hj => hQ j (by omega))
    simp only [val] at h
    have e : P n = Q n := by
      generalize 18446744073709551616 ^ n = r at *
      rcases Nat.lt_trichotomy (P n) (Q n) with h1 | h1 | h1
      · have h2 := Nat.mul_le_mul_right r (show P n + 1 ≤ Q n from h1)
        rw [Nat.add_mul, Nat.one_mul] at h2
        omega
      · exact h1
      · have h2 := Nat.mul_le_mul_right r (show Q n + 1 ≤ P n from h1)
        rw [Nat.add_mul, Nat.one_mul] at h2
        omega
    rw [e] at h
    have ih' := ih (fun j hj => hP j (by omega)) (fun j hj => hQ j (by omega)) (by omega)
    intro j hj
    by_cases c : j = n
    · subst c; exact e
    · exact ih' j (by omega)

/-! ### The sum of two numbers of three words, and its value -/
def add3 (a m : Nat → Nat) : Nat → Nat
  | 0 => sm (a 0) (m 0) 0
  | 1 => sm (a 1) (m 1) (cr (a 0) (m 0) 0)
  | _ => (a 2 + (m 2 + cr (a 1) (m 1) (cr (a 0) (m 0) 0))) % 18446744073709551616

/-- The number x * y in three words; the number x. -/
def prod3 (x y : Nat) : Nat → Nat
  | 0 => lo x y
  | 1 => hi x y
  | _ => 0
def word3 (x : Nat) : Nat → Nat
  | 0 => x
  | _ => 0

theorem add3_words (a m : Nat → Nat) : Words (add3 a m) 3 := by
  intro j hj
  match j with
  | 0 => exact sm_lt _ _ _
  | 1 => exact sm_lt _ _ _
  | j + 2 => show _ % 18446744073709551616 < _; omega

theorem val3 (a : Nat → Nat) : val a 3 = a 0 + a 1 * 18446744073709551616 + a 2 * 340282366920938463463374607431768211456 := by
  simp [val]

theorem add3_val (a m : Nat → Nat) (h : val a 3 + val m 3 < 6277101735386680763835789423207666416102355444464034512896) : val (add3 a m) 3 = val a 3 + val m 3 := by
  rw [val3] at h ⊢
  rw [val3] at h ⊢
  rw [val3]
  simp only [add3, sm, cr]
  omega

theorem prod3_words (x y : Nat) (hx : x < 18446744073709551616) (hy : y < 18446744073709551616) : Words (prod3 x y) 3 := by
  intro j hj
  match j with
  | 0 => exact lo_lt _ _
  | 1 => have := hi_lt x y hx hy; show hi x y < _; omega
  | j + 2 => show 0 < _; omega
theorem word3_words (x : Nat) (hx : x < 18446744073709551616) : Words (word3 x) 3 := by
  intro j hj
  match j with
  | 0 => exact hx
  | j + 1 => show 0 < _; omega
theorem prod3_val (x y : Nat) : val (prod3 x y) 3 = x * y := by
  rw [val3]; simp only [prod3, lo, hi]; omega
theorem word3_val (x : Nat) : val (word3 x) 3 = x := by
  rw [val3]; simp only [word3]; omega

/-! ### The product of two numbers of three words -/
def upd (P : Nat → Nat) (i v : Nat) : Nat → Nat := fun j => if j = i then v else P j

/-- Row i of the long multiplication, its first k steps: the words, and the carry. -/
def rowS (x : Nat) (b : Nat → Nat) (i : Nat) (P : Nat → Nat) : Nat → (Nat → Nat) × Nat
  | 0 => (P, 0)
  | k + 1 => (upd (rowS x b i P k).1 (i + k) (mlo ((rowS x b i P k).1 (i + k)) x (b k) (rowS x b i P k).2), mhi ((rowS x b i P k).1 (i + k)) x (b k) (rowS x b i P k).2)

def rows (a b : Nat → Nat) : Nat → Nat → Nat
  | 0 => fun _ => 0
  | i + 1 => upd (rowS (a i) b i (rows a b i) 3).1 (i + 3) (rowS (a i) b i (rows a b i) 3).2

/-- The product's six words. -/
def prd (a b : Nat → Nat) : Nat → Nat := rows a b 3

theorem upd_words (P : Nat → Nat) (i v n : Nat) (h : Words P n) (hv : v < 18446744073709551616) : Words (upd P i v) n := by
  intro j hj
  unfold upd
  split
  · exact hv
  · exact h j hj

theorem rowS_words (x : Nat) (b : Nat → Nat) (i : Nat) (P : Nat → Nat) (hx : x < 18446744073709551616) (hb : Words b 3) (hP : Words P 6) (hi : i ≤ 2) (k : Nat) (hk : k ≤ 3) :
    Words (rowS x b i P k).1 6 ∧ (rowS x b i P k).2 < 18446744073709551616 := by
  induction k with
  | zero => exact ⟨hP, by show 0 < _; omega⟩
  | succ k ih =>
    obtain ⟨h1, h2⟩ := ih (by omega)
    exact ⟨upd_words _ _ _ _ h1 (mlo_lt _ _ _ _), mhi_lt _ _ _ _ (h1 _ (by omega)) hx (hb k (by omega)) h2⟩

theorem rows_words (a b : Nat → Nat) (ha : Words a 3) (hb : Words b 3) (i : Nat) (hi : i ≤ 3) : Words (rows a b i) 6 := by
  induction i with
  | zero => intro j hj; show 0 < _; omega
  | succ i ih =>
    have h := rowS_words (a i) b i (rows a b i) (ha i (by omega)) hb (ih (by omega)) (by omega) 3 (by omega)
    exact upd_words _ _ _ _ h.1 h.2

theorem prd_words (a b : Nat → Nat) (ha : Words a 3) (hb : Words b 3) : Words (prd a b) 6 := rows_words a b ha hb 3 (by omega)


theorem upd_val_lt (P : Nat → Nat) (i v n : Nat) (h : n ≤ i) : val (upd P i v) n = val P n := by
  induction n with
  | zero => rfl
  | succ n ih =>
    rw [val, val, ih (by omega)]
    have : upd P i v n = P n := by unfold upd; rw [if_neg (by omega)]
    rw [this]

theorem upd_val (P : Nat → Nat) (i v n : Nat) (h : i < n) : val (upd P i v) n + P i * 18446744073709551616 ^ i = val P n + v * 18446744073709551616 ^ i := by
  induction n with
  | zero => omega
  | succ n ih =>
    rw [val, val]
    by_cases e : i = n
    · subst e
      have : upd P i v i = v := by unfold upd; rw [if_pos rfl]
      rw [this, upd_val_lt P i v i (Nat.le_refl _)]
      omega
    · have : upd P i v n = P n := by unfold upd; rw [if_neg (by omega)]
      rw [this]
      have := ih (by omega)
      omega

theorem alg_step (R r l m p y c vS vU vP t : Nat) (hm : l + R * m = p + y + c) (hu : vU + p * r = vS + l * r) (ih : vS + c * r = vP + t) : vU + m * (R * r) = vP + (t + y * r) := by
  have h3 : (l + R * m) * r = (p + y + c) * r := by rw [hm]
  rw [Nat.add_mul, Nat.add_mul, Nat.add_mul] at h3
  have e3 : m * (R * r) = R * m * r := by rw [← Nat.mul_assoc, Nat.mul_comm m]
  rw [e3]
  omega
theorem alg_row (R x v y i k : Nat) : x * (v + y * R ^ k) * R ^ i = x * v * R ^ i + x * y * R ^ (i + k) := by
  rw [Nat.mul_add, Nat.add_mul, Nat.pow_add, Nat.mul_comm (R ^ i) (R ^ k), ← Nat.mul_assoc, ← Nat.mul_assoc]
theorem alg_pow (R i k : Nat) : R ^ (i + (k + 1)) = R * R ^ (i + k) := by
  rw [← Nat.add_assoc, Nat.pow_succ, Nat.mul_comm]
theorem alg_rows (v y z r : Nat) : v * z + y * z * r = (v + y * r) * z := by
  rw [Nat.add_mul, Nat.mul_assoc, Nat.mul_assoc, Nat.mul_comm z]

theorem rowS_val (x : Nat) (b : Nat → Nat) (i : Nat) (P : Nat → Nat) (hi : i ≤ 2) (k : Nat) (hk : k ≤ 3) :
    val (rowS x b i P k).1 6 + (rowS x b i P k).2 * 18446744073709551616 ^ (i + k) = val P 6 + x * val b k * 18446744073709551616 ^ i := by
  induction k with
  | zero => simp only [rowS, val, Nat.mul_zero, Nat.zero_mul]
  | succ k ih =>
    have ih' := ih (by omega)
    simp only [rowS]
    have hu := upd_val (rowS x b i P k).1 (i + k) (mlo ((rowS x b i P k).1 (i + k)) x (b k) (rowS x b i P k).2) 6 (by omega)
    have hm := mlo_mhi ((rowS x b i P k).1 (i + k)) x (b k) (rowS x b i P k).2
    generalize (rowS x b i P k).1 = S at *
    generalize (rowS x b i P k).2 = c at *
    have e0 : val b (k + 1) = val b k + b k * 18446744073709551616 ^ k := rfl
    rw [e0, alg_row, alg_pow]
    exact alg_step _ _ _ _ _ _ _ _ _ _ _ hm hu ih'

theorem rowS_far (x : Nat) (b : Nat → Nat) (i : Nat) (P : Nat → Nat) (k j : Nat) (hj : i + k ≤ j) : (rowS x b i P k).1 j = P j := by
  induction k with
  | zero => rfl
  | succ k ih =>
    simp only [rowS, upd]
    rw [if_neg (by omega)]
    exact ih (by omega)

theorem rows_far (a b : Nat → Nat) (i j : Nat) (hj : i + 3 ≤ j) : rows a b i j = 0 := by
  induction i with
  | zero => rfl
  | succ i ih =>
    simp only [rows, upd]
    rw [if_neg (by omega), rowS_far _ _ _ _ _ _ (by omega)]
    exact ih (by omega)

theorem rows_val (a b : Nat → Nat) (i : Nat) (hi : i ≤ 3) : val (rows a b i) 6 = val a i * val b 3 := by
  induction i with
  | zero => simp [rows, val]
  | succ i ih =>
    have h0 : (rowS (a i) b i (rows a b i) 3).1 (i + 3) = 0 := by rw [rowS_far _ _ _ _ _ _ (Nat.le_refl _)]; exact rows_far a b i (i + 3) (Nat.le_refl _)
    have hu := upd_val (rowS (a i) b i (rows a b i) 3).1 (i + 3) (rowS (a i) b i (rows a b i) 3).2 6 (by omega)
    rw [h0, Nat.zero_mul, Nat.add_zero] at hu
    have hr := rowS_val (a i) b i (rows a b i) (by omega) 3 (by omega)
    have ih' := ih (by omega)
    simp only [rows]
    rw [hu, hr, ih']
    exact alg_rows _ _ _ _

theorem prd_val (a b : Nat → Nat) : val (prd a b) 6 = val a 3 * val b 3 := rows_val a b 3 (by omega)


/-! ### A rating's divisor -/
def isz (u : Nat → Nat) : Bool := u 0 == 0 && u 1 == 0 && u 2 == 0
def dv (u : Nat → Nat) : Nat → Nat := fun j => if isz u = true then word3 1 j else u j

theorem dv_true {u : Nat → Nat} (h : isz u = true) (j : Nat) : dv u j = word3 1 j := by rw [dv, if_pos h]
theorem dv_false {u : Nat → Nat} (h : isz u = false) (j : Nat) : dv u j = u j := by rw [dv, if_neg (by rw [h]; decide)]
theorem dv_words {u : Nat → Nat} (h : Words u 3) : Words (dv u) 3 := by
  intro j hj
  cases hz : isz u with
  | true => rw [dv_true hz]; exact word3_words 1 (by omega) j hj
  | false => rw [dv_false hz]; exact h j hj

end Go.Proofs.Qxb6614502a.W
