/-
  The law's own arithmetic: addProduct, addWord, productBelow.
-/
import Derived.Test.Qxb6614502aS
namespace Go.Proofs.Qxb6614502a
open Go.RowKit

theorem top_wrap2 (x c : Nat) : IntKind.u64.wrap ((x : Int) + (c : Int)) = (((x + (0 + c)) % 18446744073709551616 : Nat) : Int) := by
  rw [IntKind.wrap_u64]; omega

set_option maxHeartbeats 1600000 in
theorem addProduct15_any (a : Nat → Nat) (x y : Nat) (ha : W.Words a 3) (hx : x < 18446744073709551616) (hy : y < 18446744073709551616) (w : World) :
    Calls Try.prog 15 #[.agg #[.int .u64 (a 0 : Nat), .int .u64 (a 1 : Nat), .int .u64 (a 2 : Nat)], .int .u64 (x : Nat), .int .u64 (y : Nat)] w fun e w' => e = .returned (.agg #[.int .u64 (W.add3 a (W.prod3 x y) 0 : Nat), .int .u64 (W.add3 a (W.prod3 x y) 1 : Nat), .int .u64 (W.add3 a (W.prod3 x y) 2 : Nat)]) ∧ Below w.heap.size w w' := by
  have hl := W.lo_lt x y
  have hh : W.hi x y < 18446744073709551616 := by have := W.hi_lt x y hx hy; omega
  have hc := W.cr_le (a 0) (W.lo x y) 0 (ha 0 (by omega)) hl (by omega)
  have a0 := ha 0 (by omega)
  have a1 := ha 1 (by omega)
  have HT := show Hid _ from top_wrap2 (a 2) (W.cr (a 1) (W.hi x y) (W.cr (a 0) (W.lo x y) 0))
  go_enter Try.func15, Try.ntmps15
  go_wp2_with fail
  refine (mul64_any x y hx hy _).mono ?_
  rintro e w4 ⟨rfl, hw⟩
  rw [hw]
  clear hw
  go_wp2_with fail
  refine (add64_0 (a 0) (W.lo x y) a0 hl _).mono ?_
  rintro e w4 ⟨rfl, hw⟩
  rw [hw]
  clear hw
  go_wp2_with fail
  refine (add64_any (a 1) (W.hi x y) (W.cr (a 0) (W.lo x y) 0) a1 hh hc _).mono ?_
  rintro e w4 ⟨rfl, hw⟩
  rw [hw]
  clear hw
  go_wp2
  rw [HT.out]
  exact bodyPost_ret (v := .agg #[.int .u64 (W.add3 a (W.prod3 x y) 0 : Nat), .int .u64 (W.add3 a (W.prod3 x y) 1 : Nat), .int .u64 (W.add3 a (W.prod3 x y) 2 : Nat)]) (by simp [results, Try.results15, go_sem]; refine ⟨rfl, rfl, ?_⟩; simp only [W.add3, W.prod3]; omega) rfl ⟨rfl, ((Below.refl _ _).alloc (Nat.le_refl _) _).alloc (by simp) _⟩

/-! ### PART TWO -/
/-- The three words at block pb. -/
structure Three (w : World) (pb : Nat) (P : Nat → Nat) : Prop where
  row : ∃ cs : Array Value, w.heap[pb]? = some (.cells cs 23 (0, 0)) ∧ cs.size = 3 ∧ ∀ j, j < 3 → cs[j]? = some (.int .u64 (P j : Nat))

theorem Three.cell {w : World} {pb : Nat} {P : Nat → Nat} (h : Three w pb P) (j : Nat) (hj : j < 3) : w.cell? ⟨pb, j, none⟩ = some (.int .u64 (P j : Nat)) := by
  obtain ⟨cs, hr, hs, hc⟩ := h.row
  rw [cell_of_row w pb j cs 23 _ hr]; exact hc j hj
theorem Three.free {w : World} {pb : Nat} {P : Nat → Nat} (h : Three w pb P) (j : Nat) : w.frozen? ⟨pb, j, none⟩ = false := by
  obtain ⟨cs, hr, hs, hc⟩ := h.row
  simp [World.frozen?, hr]
theorem Three.lt {w : World} {pb : Nat} {P : Nat → Nat} (h : Three w pb P) : pb < w.heap.size := by
  obtain ⟨cs, hr, hs, hc⟩ := h.row
  exact (Array.getElem?_eq_some_iff.1 hr).1
theorem Three.put {w : World} {pb : Nat} {P : Nat → Nat} (h : Three w pb P) (i v : Nat) (hi : i < 3) : Three (w.setCell ⟨pb, i, none⟩ (.int .u64 (v : Nat))) pb (W.upd P i v) := by
  have hlt := h.lt
  obtain ⟨cs, hr, hs, hc⟩ := h.row
  have h' : w.heap[pb] = .cells cs 23 (0, 0) := by simpa [Array.getElem?_eq_getElem hlt] using hr
  refine ⟨⟨cs.setIfInBounds i (.int .u64 (v : Nat)), ?_, by simpa using hs, fun j hj => ?_⟩⟩
  · show (w.heap.modify pb _)[pb]? = _
    rw [Array.getElem?_eq_getElem (by simpa using hlt), Array.getElem_modify_self, h']
    rfl
  · rw [Array.getElem?_setIfInBounds]
    unfold W.upd
    by_cases e : i = j
    · subst e; rw [if_pos rfl, if_pos (by omega), if_pos rfl]
    · rw [if_neg e, if_neg (fun h => e h.symm)]; exact hc j hj
theorem Three.congr {w : World} {pb : Nat} {P Q : Nat → Nat} (h : Three w pb P) (e : ∀ j, P j = Q j) : Three w pb Q := by
  have : P = Q := funext e
  rw [← this]; exact h
theorem Three.below {w w' : World} {pb B : Nat} {P : Nat → Nat} (h : Three w pb P) (hb : Below B w w') (hB : pb < B) : Three w' pb P := by
  obtain ⟨cs, hr, hs, hc⟩ := h.row
  exact ⟨⟨cs, (hb.block pb hB).trans hr, hs, hc⟩⟩


set_option maxHeartbeats 1600000 in
theorem addWord16_any (a : Nat → Nat) (x : Nat) (ha : W.Words a 3) (hx : x < 18446744073709551616) (w : World) :
    Calls Try.prog 16 #[.agg #[.int .u64 (a 0 : Nat), .int .u64 (a 1 : Nat), .int .u64 (a 2 : Nat)], .int .u64 (x : Nat)] w fun e w' => e = .returned (.agg #[.int .u64 (W.add3 a (W.word3 x) 0 : Nat), .int .u64 (W.add3 a (W.word3 x) 1 : Nat), .int .u64 (W.add3 a (W.word3 x) 2 : Nat)]) ∧ Below w.heap.size w w' := by
  have hc := W.cr_le (a 0) x 0 (ha 0 (by omega)) hx (by omega)
  have a0 := ha 0 (by omega)
  have a1 := ha 1 (by omega)
  have HT := show Hid _ from top_wrap2 (a 2) (W.cr (a 1) 0 (W.cr (a 0) x 0))
  go_enter Try.func16, Try.ntmps16
  go_wp2_with fail
  refine (add64_0 (a 0) x a0 hx _).mono ?_
  rintro e w4 ⟨rfl, hw⟩
  rw [hw]
  clear hw
  go_wp2_with fail
  refine (add64_any (a 1) 0 (W.cr (a 0) x 0) a1 (by omega) hc _).mono ?_
  rintro e w4 ⟨rfl, hw⟩
  rw [hw]
  clear hw
  go_wp2
  rw [HT.out]
  exact bodyPost_ret (v := .agg #[.int .u64 (W.add3 a (W.word3 x) 0 : Nat), .int .u64 (W.add3 a (W.word3 x) 1 : Nat), .int .u64 (W.add3 a (W.word3 x) 2 : Nat)]) (by simp [results, Try.results16, go_sem]; refine ⟨rfl, rfl, ?_⟩; simp only [W.add3, W.word3]; omega) rfl ⟨rfl, ((Below.refl _ _).alloc (Nat.le_refl _) _).alloc (by simp) _⟩

/-! productBelow -/
/-- The product of a number of three words and a word: three words, and what runs over. -/
def pmw (a : Nat → Nat) (m : Nat) (k : Nat) : Nat → Nat := (W.rowS m a 0 (fun _ => 0) k).1
def pmc (a : Nat → Nat) (m : Nat) (k : Nat) : Nat := (W.rowS m a 0 (fun _ => 0) k).2
def pbl (a : Nat → Nat) (m : Nat) (b : Nat → Nat) : Bool := pmc a m 3 == 0 && decide (W.cmpN (pmw a m 3) b 3 < 0)

theorem pm_words (a : Nat → Nat) (m : Nat) (ha : W.Words a 3) (hm : m < 18446744073709551616) (k : Nat) (hk : k ≤ 3) : W.Words (pmw a m k) 6 ∧ pmc a m k < 18446744073709551616 :=
  W.rowS_words m a 0 (fun _ => 0) hm ha (fun j hj => by show 0 < _; omega) (by omega) k hk

theorem pmw_succ (a : Nat → Nat) (m k : Nat) (j : Nat) : W.upd (pmw a m k) k (W.sm (W.lo (a k) m) (pmc a m k) 0) j = pmw a m (k + 1) j := by
  have e0 : pmw a m k k = 0 := by
    have h := W.rowS_far m a 0 (fun _ => 0) k k (by omega)
    exact h
  rw [W.step_lo0]
  show _ = W.upd (pmw a m k) (0 + k) (W.mlo (pmw a m k (0 + k)) m (a k) (pmc a m k)) j
  rw [Nat.zero_add, e0]
  unfold W.mlo
  rw [Nat.mul_comm]

theorem pmc_succ (a : Nat → Nat) (m k : Nat) (ha : a k < 18446744073709551616) (hm : m < 18446744073709551616) (hc : pmc a m k < 18446744073709551616) :
    IntKind.u64.wrap (((W.hi (a k) m : Nat) : Int) + ((W.cr (W.lo (a k) m) (pmc a m k) 0 : Nat) : Int)) = ((pmc a m (k + 1) : Nat) : Int) := by
  have e0 : pmw a m k k = 0 := W.rowS_far m a 0 (fun _ => 0) k k (by omega)
  have e1 : pmc a m (k + 1) = W.mhi (pmw a m k (0 + k)) m (a k) (pmc a m k) := rfl
  rw [Nat.zero_add, e0] at e1
  have h := W.step_hi0 (a k) m (pmc a m k)
  have hl := W.mhi_lt 0 (a k) m (pmc a m k) (by omega) ha hm hc
  have e2 : W.mhi 0 m (a k) (pmc a m k) = W.mhi 0 (a k) m (pmc a m k) := by unfold W.mhi; rw [Nat.mul_comm]
  rw [e1, e2, IntKind.wrap_u64]
  omega

theorem cells3 {w : World} {pb : Nat} {T : TypeId} {b : Nat → Nat} (h : w.heap[pb]? = some (.cells #[.int .u64 (b 0 : Nat), .int .u64 (b 1 : Nat), .int .u64 (b 2 : Nat)] T (0, 0))) (j : Nat) (hj : j < 3) : w.cell? ⟨pb, j, none⟩ = some (.int .u64 (b j : Nat)) := by
  rw [cell_of_row w _ _ _ _ _ h]
  match j, hj with
  | 0, _ => rfl
  | 1, _ => rfl
  | 2, _ => rfl

/-- The world as productBelow's loops find it. -/
structure Lay29 (w W0 : World) (a b : Nat → Nat) : Prop where
  p : Three W0 (w.heap.size + 1 + 1) (fun _ => 0)
  a : W0.heap[w.heap.size]? = some (.cells #[.int .u64 (a 0 : Nat), .int .u64 (a 1 : Nat), .int .u64 (a 2 : Nat)] 23 (0, 0))
  b : W0.heap[w.heap.size + 1]? = some (.cells #[.int .u64 (b 0 : Nat), .int .u64 (b 1 : Nat), .int .u64 (b 2 : Nat)] 23 (0, 0))
  below : Below w.heap.size w W0

theorem lay29_make (w : World) (a b : Nat → Nat) : Lay29 w (((w.alloc (.cells #[.int .u64 (a 0 : Nat), .int .u64 (a 1 : Nat), .int .u64 (a 2 : Nat)] 23)).alloc (.cells #[.int .u64 (b 0 : Nat), .int .u64 (b 1 : Nat), .int .u64 (b 2 : Nat)] 23)).alloc (.cells #[.int .u64 0, .int .u64 0, .int .u64 0] 23)) a b := by
  refine ⟨⟨⟨#[.int .u64 0, .int .u64 0, .int .u64 0], ?_, rfl, ?_⟩⟩, ?_, ?_, ?_⟩
  · exact heap_alloc_at _ _ _ (by simp)
  · intro j hj
    match j, hj with
    | 0, _ => rfl
    | 1, _ => rfl
    | 2, _ => rfl
  · rw [Below.heap_alloc _ _ _ (by simp; omega), Below.heap_alloc _ _ _ (by simp)]
    exact heap_alloc_new w _
  · rw [Below.heap_alloc _ _ _ (by simp)]
    exact heap_alloc_at _ _ _ (by simp)
  · exact (((Below.refl _ _).alloc (Nat.le_refl _) _).alloc (by simp) _).alloc (by simp; omega) _

set_option maxRecDepth 100000 in
set_option maxHeartbeats 1600000 in
theorem productBelow29_any (a b : Nat → Nat) (m : Nat) (ha : W.Words a 3) (hm : m < 18446744073709551616) (w : World) :
    Calls Try.prog 29 #[.agg #[.int .u64 (a 0 : Nat), .int .u64 (a 1 : Nat), .int .u64 (a 2 : Nat)], .int .u64 (m : Nat), .agg #[.int .u64 (b 0 : Nat), .int .u64 (b 1 : Nat), .int .u64 (b 2 : Nat)]] w fun e w' => e = .returned (.bool (pbl a m b)) ∧ Below w.heap.size w w' := by
  have HL : Hid (Lay29 w _ a b) := lay29_make w a b
  have HE : Hid (pbl a m b = (pmc a m 3 == 0 && decide (W.cmpN (pmw a m 3) b 3 < 0))) := rfl
  go_enter Try.func29, Try.ntmps29
  go_wp2
  generalize (((w.alloc (.cells #[.int .u64 (a 0 : Nat), .int .u64 (a 1 : Nat), .int .u64 (a 2 : Nat)] 23)).alloc (.cells #[.int .u64 (b 0 : Nat), .int .u64 (b 1 : Nat), .int .u64 (b 2 : Nat)] 23)).alloc (.cells #[.int .u64 0, .int .u64 0, .int .u64 0] 23)) = W0 at *
  go_loopw [8, 9] (fun c v wr => ∃ i : Nat, i ≤ 3 ∧ v = .int .i64 i ∧ c = .int .u64 (pmc a m i : Nat) ∧ Three wr (w.heap.size + 1 + 1) (pmw a m i) ∧ Below (w.heap.size + 1 + 1) W0 wr) (fun _ v _ => 3 - (intOf v).toNat)
  case atStart => exact ⟨0, by omega, rfl, rfl, HL.out.p, Below.refl _ _⟩
  case round =>
    obtain ⟨i, hi, rfl, rfl, hp, hbel⟩ := hrel
    have HP : Hid (Three wr (w.heap.size + 1 + 1) (pmw a m i)) := hp
    have HB : Hid (Below (w.heap.size + 1 + 1) W0 wr) := hbel
    obtain ⟨hw1, hw2⟩ := pm_words a m ha hm i hi
    by_cases hlt : i < 3
    · have hcell := hp.cell i hlt
      have hfree := hp.free i
      have hca := cells3 ((hbel.block _ (by omega)).trans HL.out.a) i hlt
      have hax := ha i hlt
      have hi1 : (0 : Int) ≤ (i : Int) := by omega
      have hi2 : (i : Int) < 3 := by omega
      have HN : Hid (Three (wr.setCell ⟨w.heap.size + 1 + 1, i, none⟩ (.int .u64 (W.sm (W.lo (a i) m) (pmc a m i) 0 : Nat))) (w.heap.size + 1 + 1) (pmw a m (i + 1))) := (hp.put i _ hlt).congr (pmw_succ a m i)
      have HB2 : Hid (Below (w.heap.size + 1 + 1) W0 (wr.setCell ⟨w.heap.size + 1 + 1, i, none⟩ (.int .u64 (W.sm (W.lo (a i) m) (pmc a m i) 0 : Nat)))) := hbel.setCell (by simp) _
      have HC : Hid _ := pmc_succ a m i hax hm hw2
      have hl := W.lo_lt (a i) m
      clear hp hbel hw1
      generalize hcc : pmc a m i = c at *
      clear hcc
      generalize pmw a m i i = p at *
      go_wp2_with (first
        | (go_at_call 30; refine (mul64_any (a i) m hax hm _).mono ?_; rintro e w4 ⟨rfl, hw⟩; rw [hw]; clear hw)
        | (go_at_call 31; refine (add64_0 (W.lo (a i) m) c hl hw2 _).mono ?_; rintro e w4 ⟨rfl, hw⟩; rw [hw]; clear hw))
      go_roundw
      case rel => exact ⟨i + 1, by omega, by go_num, by rw [HC.out], HN.out, HB2.out⟩
      case measure => simp [intOf]; omega
    · have hi3 : i = 3 := by omega
      subst hi3
      have hboxb : Hid (∀ j, j < 3 → wr.cell? ⟨w.heap.size + 1, j, none⟩ = some (.int .u64 (b j : Nat))) := cells3 ((hbel.block _ (by omega)).trans HL.out.b)
      have HW : Hid (Below w.heap.size w wr) := HL.out.below.trans (hbel.mono (by omega))
      clear hp hbel hlt HB HL
      cases hz : (pmc a m 3 == 0) with
      | false =>
        rw [hz] at HE
        have d1 : (((pmc a m 3 : Nat) : Int) != 0) = true := by rw [bne, nat_eq0, hz]; rfl
        generalize pmc a m 3 = c at *
        go_wp2
        go_ret
        exact ⟨by rw [HE.out]; rfl, HW.out⟩
      | true =>
        rw [hz, Bool.true_and] at HE
        have d1 : (((pmc a m 3 : Nat) : Int) != 0) = false := by rw [bne, nat_eq0, hz]; rfl
        generalize pmc a m 3 = c at *
        generalize hPP : pmw a m 3 = P at *
        go_wp2
        go_loopw [14] (fun v wq => ∃ n : Nat, n ≤ 3 ∧ v = .int .i64 ((n : Int) - 1) ∧ Hid (W.cmpN P b 3 = W.cmpN P b n) ∧ Hid (∀ j, j < 3 → wq.cell? ⟨w.heap.size + 1, j, none⟩ = some (.int .u64 (b j : Nat))) ∧ Hid (∀ j, j < 3 → wq.cell? ⟨w.heap.size + 1 + 1, j, none⟩ = some (.int .u64 (P j : Nat))) ∧ Hid (Below w.heap.size w wq)) (fun v _ => (intOf v + 1).toNat)
        case atStart => exact ⟨3, by omega, rfl, rfl, hboxb, HP.out.cell, HW⟩
        case round =>
          rename World => wq
          clear hboxb HP HW
          obtain ⟨n, hn, rfl, HN, HQ, HP, HW⟩ := hrel
          by_cases hlt : 0 < n
          · obtain ⟨k, rfl⟩ : ∃ k, n = k + 1 := ⟨n - 1, by omega⟩
            have c9 := HP.out k (by omega)
            have c10 := HQ.out k (by omega)
            have hi1 : (0 : Int) ≤ (k : Int) := by omega
            have hi2 : (k : Int) < 3 := by omega
            have ei : ((k + 1 : Nat) : Int) - 1 = (k : Int) := by omega
            rw [ei]
            clear ei
            have HC : Hid (W.cmpN P b (k + 1) = if P k < b k then -1 else if b k < P k then 1 else W.cmpN P b k) := rfl
            by_cases t1 : P k < b k
            · have e1 : (((P k : Nat) : Int) != ((b k : Nat) : Int)) = true := by simp; omega
              have e2 : decide (((P k : Nat) : Int) < ((b k : Nat) : Int)) = true := decide_eq_true (by omega)
              have HR : Hid (W.cmpN P b 3 = -1) := by show _ = _; rw [HN.out, HC.out, if_pos t1]
              go_wp2
              go_quiet (fail)
              go_wp2
              go_quiet (fail)
              go_wp2
              go_ret
              exact ⟨by rw [HE.out, HR.out]; rfl, HW.out.trans ⟨rfl, rfl, rfl, Nat.le_refl _, fun _ _ => rfl⟩⟩
            · by_cases t2 : b k < P k
              · have e1 : (((P k : Nat) : Int) != ((b k : Nat) : Int)) = true := by simp; omega
                have e2 : decide (((P k : Nat) : Int) < ((b k : Nat) : Int)) = false := decide_eq_false (by omega)
                have HR : Hid (W.cmpN P b 3 = 1) := by show _ = _; rw [HN.out, HC.out, if_neg t1, if_pos t2]
                go_wp2
                go_quiet (fail)
                go_wp2
                go_quiet (fail)
                go_wp2
                go_ret
                exact ⟨by rw [HE.out, HR.out]; rfl, HW.out.trans ⟨rfl, rfl, rfl, Nat.le_refl _, fun _ _ => rfl⟩⟩
              · have e1 : (((P k : Nat) : Int) != ((b k : Nat) : Int)) = false := by simp; omega
                have HR : Hid (W.cmpN P b 3 = W.cmpN P b k) := by show _ = _; rw [HN.out, HC.out, if_neg t1, if_neg t2]
                go_wp2
                go_quiet (fail)
                go_wp2
                go_roundw
                case rel => exact ⟨k, by omega, rfl, HR, HQ, HP, HW.out.trans ⟨rfl, rfl, rfl, Nat.le_refl _, fun _ _ => rfl⟩⟩
                case measure => simp [intOf]
          · have hn0 : n = 0 := by omega
            subst hn0
            go_wp2
            go_ret
            exact ⟨by rw [HE.out, HN.out]; rfl, HW.out⟩

end Go.Proofs.Qxb6614502a
