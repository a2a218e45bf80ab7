/-
  The list of windows behind a script of block calls: the least windows, each once, in the order in which they were first blocked. Plain lists: no Go in sight.
-/
import Derived.Test.Qxb6614502aF
namespace Go.Proofs.Qxb6614502a

/-- The list behind the first k windows of the script. -/
def foldB (most : Int) (S : List (Int × Int)) : Nat → List (Int × Int)
  | 0 => []
  | k + 1 => blockL most (foldB most S k) (fx S k) (fy S k)

/-- Window j shuts window i out. -/
def beats (most : Int) (S : List (Int × Int)) (i j : Nat) : Bool :=
  decide (fx S j ≤ most) && lew (fx S j) (fy S j) (fx S i) (fy S i) && ((fx S j != fx S i) || (fy S j != fy S i) || decide (j < i))

/-- No one of the first m windows shuts window i out. -/
def clean (most : Int) (S : List (Int × Int)) (i : Nat) : Nat → Bool
  | 0 => true
  | m + 1 => clean most S i m && !beats most S i m

def kept (most : Int) (S : List (Int × Int)) (m i : Nat) : Bool := decide (fx S i ≤ most) && clean most S i m

def wnd (S : List (Int × Int)) (i : Nat) : Int × Int := (fx S i, fy S i)

/-- The windows wanted among the first k, where all m count. -/
def wantL (most : Int) (S : List (Int × Int)) (m k : Nat) : List (Int × Int) := ((List.range k).filter (kept most S m)).map (wnd S)

theorem clean_iff (most : Int) (S : List (Int × Int)) (i m : Nat) : clean most S i m = true ↔ ∀ j, j < m → beats most S i j = false := by
  induction m with
  | zero => simp [clean]
  | succ m ih =>
    rw [clean, Bool.and_eq_true, ih]
    constructor
    · rintro ⟨h1, h2⟩
      exact below_succ h1 (by simpa using h2)
    · intro h
      exact ⟨fun j hj => h j (by omega), by simpa using h m (by omega)⟩

theorem clean_mono (most : Int) (S : List (Int × Int)) (i j m : Nat) (hj : j < m) (h : beats most S i j = true) : clean most S i m = false := by
  cases hc : clean most S i m with
  | false => rfl
  | true => have := (clean_iff most S i m).1 hc j hj; rw [h] at this; cases this

theorem underL_foldB (most : Int) (S : List (Int × Int)) (k : Nat) (a b : Int) : underL (foldB most S k) a b = true ↔ ∃ j, j < k ∧ fx S j ≤ most ∧ lew (fx S j) (fy S j) a b = true := by
  induction k with
  | zero =>
    constructor
    · intro h; cases h
    · rintro ⟨j, hj, _⟩; omega
  | succ k ih =>
    rw [foldB, underL_blockL, Bool.or_eq_true, ih, Bool.and_eq_true, decide_eq_true_eq]
    constructor
    · rintro (⟨j, hj, h⟩ | h)
      · exact ⟨j, by omega, h⟩
      · exact ⟨k, by omega, h⟩
    · rintro ⟨j, hj, h⟩
      by_cases e : j = k
      · subst e; exact .inr h
      · exact .inl ⟨j, by omega, h⟩

theorem foldB_length (most : Int) (S : List (Int × Int)) (k : Nat) : (foldB most S k).length ≤ k := by
  induction k with
  | zero => exact Nat.le_refl _
  | succ k ih => have := blockL_length most (foldB most S k) (fx S k) (fy S k); rw [foldB]; omega

theorem wantL_filter (S : List (Int × Int)) (k : Nat) (p q : Nat → Bool) (h : ∀ i, i < k → p i = q i) : ((List.range k).filter p).map (wnd S) = ((List.range k).filter q).map (wnd S) := by
  congr 1
  apply List.filter_congr
  intro i hi
  exact h i (List.mem_range.1 hi)

theorem foldB_want (most : Int) (S : List (Int × Int)) (n : Nat) : foldB most S n = wantL most S n n := by
  induction n with
  | zero => rfl
  | succ n ih =>
    rw [foldB]
    have hr : wantL most S (n + 1) (n + 1) = ((List.range n).filter (kept most S (n + 1))).map (wnd S) ++ (if kept most S (n + 1) n = true then [wnd S n] else []) := by
      unfold wantL
      rw [List.range_succ, List.filter_append, List.map_append]
      congr 1
      by_cases h : kept most S (n + 1) n = true <;> simp [h]
    rw [hr]
    unfold blockL
    by_cases hw : most < fx S n
    · rw [if_pos hw, ih]
      have hk : kept most S (n + 1) n = false := by simp [kept]; intro h; omega
      rw [hk, if_neg (by simp), List.append_nil]
      unfold wantL
      refine wantL_filter S n _ _ fun i hi => ?_
      have hb : beats most S i n = false := by simp [beats]; intro h; omega
      simp [kept, clean, hb]
    · rw [if_neg hw]
      by_cases hu : underL (foldB most S n) (fx S n) (fy S n) = true
      · rw [if_pos hu]
        -- a kept window lies under the new one
        have hu2 := (underL_iff _ _ _).1 hu
        rw [ih] at hu2
        obtain ⟨p, hp, hl⟩ := hu2
        obtain ⟨i0, hi0, rfl⟩ := List.mem_map.1 hp
        have hi0' := List.mem_filter.1 hi0
        have hlt := List.mem_range.1 hi0'.1
        have hkk := hi0'.2
        simp only [kept, Bool.and_eq_true, decide_eq_true_eq] at hkk
        have hl' : lew (fx S i0) (fy S i0) (fx S n) (fy S n) = true := hl
        have hk : kept most S (n + 1) n = false := by
          have : beats most S n i0 = true := by simp [beats, hkk.1, hl', hlt]
          simp [kept, clean_mono most S n i0 (n + 1) (by omega) this]
        rw [hk, if_neg (by simp), List.append_nil, ih]
        unfold wantL
        refine wantL_filter S n _ _ fun i hi => ?_
        cases hb : beats most S i n with
        | false => simp [kept, clean, hb]
        | true =>
          have hc : clean most S i n = false := by
            refine clean_mono most S i i0 n hlt ?_
            simp only [beats, Bool.and_eq_true, Bool.or_eq_true, decide_eq_true_eq, bne_iff_ne] at hb ⊢
            obtain ⟨⟨h1, h2⟩, h3⟩ := hb
            refine ⟨⟨hkk.1, lew_trans hl' h2⟩, ?_⟩
            simp only [lew, Bool.and_eq_true, decide_eq_true_eq] at h2 hl'
            omega
          simp [kept, clean, hc]
      · rw [if_neg hu]
        have hno : ∀ j, j < n → fx S j ≤ most → lew (fx S j) (fy S j) (fx S n) (fy S n) = false := by
          intro j hj h1
          cases h2 : lew (fx S j) (fy S j) (fx S n) (fy S n) with
          | false => rfl
          | true => exact absurd ((underL_foldB most S n _ _).2 ⟨j, hj, h1, h2⟩) hu
        have hk : kept most S (n + 1) n = true := by
          simp only [kept, Bool.and_eq_true, decide_eq_true_eq]
          refine ⟨by omega, (clean_iff most S n (n + 1)).2 (below_succ (fun j hj => ?_) ?_)⟩
          · by_cases h1 : fx S j ≤ most
            · simp [beats, hno j hj h1]
            · simp [beats, h1]
          · simp [beats]
        rw [hk, if_pos rfl, ih]
        congr 1
        unfold wantL
        rw [List.filter_map, List.filter_filter]
        refine wantL_filter S n _ _ fun i hi => ?_
        show (keep (fx S n) (fy S n) (wnd S i) && kept most S n i) = kept most S (n + 1) i
        simp only [kept, clean, keep, wnd]
        cases h1 : decide (fx S i ≤ most) with
        | false => simp
        | true =>
          have h1' : fx S i ≤ most := by simpa using h1
          have hn := hno i hi h1'
          have e : beats most S i n = lew (fx S n) (fy S n) (fx S i) (fy S i) := by
            rw [Bool.eq_iff_iff]
            simp only [beats, Bool.and_eq_true, Bool.or_eq_true, decide_eq_true_eq, bne_iff_ne, lew]
            simp only [lew] at hn
            have hn' : ¬ (fx S i ≤ fx S n ∧ fy S i ≤ fy S n) := by simpa using hn
            constructor
            · rintro ⟨⟨_, h⟩, _⟩; exact h
            · rintro h; exact ⟨⟨by omega, h⟩, by omega⟩
          rw [e, Bool.true_and, Bool.true_and, Bool.and_comm]

theorem wantL_succ (most : Int) (S : List (Int × Int)) (m k : Nat) : wantL most S m (k + 1) = wantL most S m k ++ (if kept most S m k = true then [wnd S k] else []) := by
  unfold wantL
  rw [List.range_succ, List.filter_append, List.map_append]
  congr 1
  by_cases h : kept most S m k = true <;> simp [h]

theorem wantL_length (most : Int) (S : List (Int × Int)) (m k : Nat) : (wantL most S m k).length ≤ k := by
  unfold wantL
  rw [List.length_map]
  exact Nat.le_trans (List.length_filter_le _ _) (by simp)

end Go.Proofs.Qxb6614502a
