/-
  Ratings: the small functions.
-/
import Derived.Test.Qxb6614502aO
import Derived.Laws.EntriesVeiled
namespace Go.Proofs.Qxb6614502a
open Go.RowKit

set_option maxHeartbeats 400000 in
theorem product42_any (x y : Nat) (hx : x < 18446744073709551616) (hy : y < 18446744073709551616) (w : World) :
    Calls Try.prog 42 #[.int .u64 x, .int .u64 y] w fun e w' => e = .returned (.agg #[.int .u64 (W.lo x y : Nat), .int .u64 (W.hi x y : Nat), .int .u64 0]) ∧ Below w.heap.size w w' := by
  go_enter Try.func42, Try.ntmps42
  go_wp2_with (go_at_call 47; refine (bitsMul64_any x y hx hy _).mono ?_; rintro e w' ⟨rfl, hw⟩; rw [hw])
  exact bodyPost_ret (v := .agg #[.int .u64 (W.lo x y : Nat), .int .u64 (W.hi x y : Nat), .int .u64 0]) (by simp [results, Try.results42, go_sem]) rfl ⟨rfl, (Below.refl _ _).alloc (Nat.le_refl _) _⟩

set_option maxHeartbeats 400000 in
theorem mean8_any (w : World) : Calls Try.prog 8 #[] w fun e w' => e = .returned (.agg #[.func (.func 27) #[] #[]]) ∧ Below w.heap.size w w' := by
  go_enter Try.func8, Try.ntmps8
  go_wp2
  exact bodyPost_ret (v := .agg #[.func (.func 27) #[] #[]]) (by simp [results, Try.results8, go_sem]) rfl ⟨rfl, (Below.refl _ _).alloc (Nat.le_refl _) _⟩

set_option maxHeartbeats 400000 in
theorem make9_any (w : World) : Calls Try.prog 9 #[] w fun e w' => e = .returned (.agg #[.nilFunc]) ∧ Below w.heap.size w w' := by
  go_enter Try.func9, Try.ntmps9
  go_wp2
  exact bodyPost_ret (v := .agg #[.nilFunc]) (by simp [results, Try.results9, go_sem]) rfl ⟨rfl, (Below.refl _ _).alloc (Nat.le_refl _) _⟩

set_option maxHeartbeats 400000 in
theorem new10_any (v u : Nat → Nat) (w : World) : Calls Try.prog 10 #[.agg #[.int .u64 (v 0 : Nat), .int .u64 (v 1 : Nat), .int .u64 (v 2 : Nat)], .agg #[.int .u64 (u 0 : Nat), .int .u64 (u 1 : Nat), .int .u64 (u 2 : Nat)]] w fun e w' =>
    e = .returned (.agg #[.int .u64 (v 0 : Nat), .int .u64 (v 1 : Nat), .int .u64 (v 2 : Nat), .int .u64 (u 0 : Nat), .int .u64 (u 1 : Nat), .int .u64 (u 2 : Nat)]) ∧ Below w.heap.size w w' := by
  go_enter Try.func10, Try.ntmps10
  go_wp2
  exact bodyPost_ret (v := .agg #[.int .u64 (v 0 : Nat), .int .u64 (v 1 : Nat), .int .u64 (v 2 : Nat), .int .u64 (u 0 : Nat), .int .u64 (u 1 : Nat), .int .u64 (u 2 : Nat)]) (by simp [results, Try.results10, go_sem]) rfl ⟨rfl, (((Below.refl _ _).alloc (Nat.le_refl _) _).alloc (by simp) _).alloc (by simp; omega) _⟩

set_option maxHeartbeats 400000 in
theorem value13_any (v u : Nat → Nat) (w : World) : Calls Try.prog 13 #[.agg #[.int .u64 (v 0 : Nat), .int .u64 (v 1 : Nat), .int .u64 (v 2 : Nat), .int .u64 (u 0 : Nat), .int .u64 (u 1 : Nat), .int .u64 (u 2 : Nat)]] w fun e w' =>
    e = .returned (.agg #[.int .u64 (v 0 : Nat), .int .u64 (v 1 : Nat), .int .u64 (v 2 : Nat)]) ∧ Below w.heap.size w w' := by
  go_enter Try.func13, Try.ntmps13
  go_wp2
  exact bodyPost_ret (v := .agg #[.int .u64 (v 0 : Nat), .int .u64 (v 1 : Nat), .int .u64 (v 2 : Nat)]) (by simp [results, Try.results13, go_sem]) rfl ⟨rfl, ((Below.refl _ _).alloc (Nat.le_refl _) _).alloc (by simp) _⟩

set_option maxHeartbeats 400000 in
theorem weight14_any (v u : Nat → Nat) (w : World) : Calls Try.prog 14 #[.agg #[.int .u64 (v 0 : Nat), .int .u64 (v 1 : Nat), .int .u64 (v 2 : Nat), .int .u64 (u 0 : Nat), .int .u64 (u 1 : Nat), .int .u64 (u 2 : Nat)]] w fun e w' =>
    e = .returned (.agg #[.int .u64 (u 0 : Nat), .int .u64 (u 1 : Nat), .int .u64 (u 2 : Nat)]) ∧ Below w.heap.size w w' := by
  go_enter Try.func14, Try.ntmps14
  go_wp2
  exact bodyPost_ret (v := .agg #[.int .u64 (u 0 : Nat), .int .u64 (u 1 : Nat), .int .u64 (u 2 : Nat)]) (by simp [results, Try.results14, go_sem]) rfl ⟨rfl, ((Below.refl _ _).alloc (Nat.le_refl _) _).alloc (by simp) _⟩

/-- '==' of two arrays of three words. -/
def eqI3 (a b c d e f : Int) : Bool := a == d && b == e && c == f
theorem eqI3_nat (a b : Nat → Nat) : eqI3 (a 0 : Nat) (a 1 : Nat) (a 2 : Nat) (b 0 : Nat) (b 1 : Nat) (b 2 : Nat) = (a 0 == b 0 && a 1 == b 1 && a 2 == b 2) := by
  have e : ∀ x y : Nat, ((x : Int) == (y : Int)) = (x == y) := fun x y => by
    rw [Bool.eq_iff_iff]; simp only [beq_iff_eq]; omega
  simp only [eqI3, e]

theorem eq29 (a b c d e f : Int) (w : World) : (Op.equalIn 10000 29 (.agg #[.int .u64 a, .int .u64 b, .int .u64 c]) (.agg #[.int .u64 d, .int .u64 e, .int .u64 f])).run Try.prog w = .ok (eqI3 a b c d e f) w := by
  have u3 := Try.underlying22
  have a3 := Try.isAgg22
  have z3 := Try.sizeOf22
  rw [show (10000 : Nat) = 9999 + 1 from rfl, Op.equalIn]
  simp only [Sem.run_bind, run_underlying Try.underlying29, Result.andThen_ok]
  simp only [Std.Legacy.Range.forIn_eq_forIn_range', Std.Legacy.Range.size, Nat.sub_zero, Nat.add_sub_cancel, Nat.div_one, List.range'_succ, List.range'_zero, List.forIn_cons, List.forIn_nil]
  go_simp
  unfold eqI3
  by_cases h1 : a = d <;> by_cases h2 : b = e <;> by_cases h3 : c = f <;> simp [h1, h2, h3]

theorem eq23 (a b c d e f : Int) (w : World) : (Op.equalIn 10000 23 (.agg #[.int .u64 a, .int .u64 b, .int .u64 c]) (.agg #[.int .u64 d, .int .u64 e, .int .u64 f])).run Try.prog w = .ok (eqI3 a b c d e f) w := by
  have u3 := Try.underlying22
  have a3 := Try.isAgg22
  have z3 := Try.sizeOf22
  rw [show (10000 : Nat) = 9999 + 1 from rfl, Op.equalIn]
  simp only [Sem.run_bind, run_underlying Try.underlying23, Result.andThen_ok]
  simp only [Std.Legacy.Range.forIn_eq_forIn_range', Std.Legacy.Range.size, Nat.sub_zero, Nat.add_sub_cancel, Nat.div_one, List.range'_succ, List.range'_zero, List.forIn_cons, List.forIn_nil]
  go_simp
  unfold eqI3
  by_cases h1 : a = d <;> by_cases h2 : b = e <;> by_cases h3 : c = f <;> simp [h1, h2, h3]

theorem isz_eqI3 (u : Nat → Nat) : eqI3 (u 0 : Nat) (u 1 : Nat) (u 2 : Nat) 0 0 0 = W.isz u := eqI3_nat u (fun _ => 0)

set_option maxRecDepth 100000 in
set_option maxHeartbeats 400000 in
theorem divisor44_any (v u : Nat → Nat) (w : World) : Calls Try.prog 44 #[.agg #[.int .u64 (v 0 : Nat), .int .u64 (v 1 : Nat), .int .u64 (v 2 : Nat), .int .u64 (u 0 : Nat), .int .u64 (u 1 : Nat), .int .u64 (u 2 : Nat)]] w fun e w' =>
    e = .returned (.agg #[.int .u64 (W.dv u 0 : Nat), .int .u64 (W.dv u 1 : Nat), .int .u64 (W.dv u 2 : Nat)]) ∧ Below w.heap.size w w' := by
  have heq := eq29
  cases hz : W.isz u with
  | true =>
    have hq : eqI3 (u 0 : Nat) (u 1 : Nat) (u 2 : Nat) 0 0 0 = true := (isz_eqI3 u).trans hz
    have HD : Hid (∀ j, W.dv u j = W.word3 1 j) := W.dv_true hz
    clear hz
    go_enter Try.func44, Try.ntmps44
    go_wp2
    exact bodyPost_ret (v := .agg #[.int .u64 1, .int .u64 0, .int .u64 0]) (by simp [results, Try.results44, go_sem]) rfl ⟨by rw [HD.out, HD.out, HD.out]; rfl, ((Below.refl _ _).alloc (Nat.le_refl _) _).alloc (by simp) _⟩
  | false =>
    have hq : eqI3 (u 0 : Nat) (u 1 : Nat) (u 2 : Nat) 0 0 0 = false := (isz_eqI3 u).trans hz
    have HD : Hid (∀ j, W.dv u j = u j) := W.dv_false hz
    clear hz
    go_enter Try.func44, Try.ntmps44
    go_wp2
    exact bodyPost_ret (v := .agg #[.int .u64 (u 0 : Nat), .int .u64 (u 1 : Nat), .int .u64 (u 2 : Nat)]) (by simp [results, Try.results44, go_sem]) rfl ⟨by rw [HD.out, HD.out, HD.out], ((Below.refl _ _).alloc (Nat.le_refl _) _).alloc (by simp) _⟩

/-- Two ratings, boxed one behind the other from block q on. -/
def R12 (q : Nat) (v u x y : Nat → Nat) (w' : World) : Prop := w'.cell? ⟨q, 0, none⟩ = some (.int .u64 (v 0 : Nat)) ∧ w'.cell? ⟨q, 1, none⟩ = some (.int .u64 (v 1 : Nat)) ∧ w'.cell? ⟨q, 2, none⟩ = some (.int .u64 (v 2 : Nat)) ∧ w'.cell? ⟨q, 3, none⟩ = some (.int .u64 (u 0 : Nat)) ∧ w'.cell? ⟨q, 4, none⟩ = some (.int .u64 (u 1 : Nat)) ∧ w'.cell? ⟨q, 5, none⟩ = some (.int .u64 (u 2 : Nat)) ∧ w'.cell? ⟨q + 1, 0, none⟩ = some (.int .u64 (x 0 : Nat)) ∧ w'.cell? ⟨q + 1, 1, none⟩ = some (.int .u64 (x 1 : Nat)) ∧ w'.cell? ⟨q + 1, 2, none⟩ = some (.int .u64 (x 2 : Nat)) ∧ w'.cell? ⟨q + 1, 3, none⟩ = some (.int .u64 (y 0 : Nat)) ∧ w'.cell? ⟨q + 1, 4, none⟩ = some (.int .u64 (y 1 : Nat)) ∧ w'.cell? ⟨q + 1, 5, none⟩ = some (.int .u64 (y 2 : Nat))

theorem r12_below {B q : Nat} {v u x y : Nat → Nat} {z z' : World} (hb : Below B z z') (h : R12 q v u x y z) (hq : q + 2 ≤ B) : R12 q v u x y z' := by
  unfold R12 at h ⊢
  rw [hb.cell (by simp; omega), hb.cell (by simp; omega), hb.cell (by simp; omega), hb.cell (by simp; omega), hb.cell (by simp; omega), hb.cell (by simp; omega), hb.cell (by simp; omega), hb.cell (by simp; omega), hb.cell (by simp; omega), hb.cell (by simp; omega), hb.cell (by simp; omega), hb.cell (by simp; omega)]
  exact h
theorem r12_drew {q : Nat} {v u x y : Nat → Nat} {z : World} (h : R12 q v u x y z) : R12 q v u x y z.drew := h
theorem r12_start (w : World) (T : TypeId) (v u x y : Nat → Nat) : R12 w.heap.size v u x y ((w.alloc (.cells #[.int .u64 (v 0 : Nat), .int .u64 (v 1 : Nat), .int .u64 (v 2 : Nat), .int .u64 (u 0 : Nat), .int .u64 (u 1 : Nat), .int .u64 (u 2 : Nat)] T)).alloc (.cells #[.int .u64 (x 0 : Nat), .int .u64 (x 1 : Nat), .int .u64 (x 2 : Nat), .int .u64 (y 0 : Nat), .int .u64 (y 1 : Nat), .int .u64 (y 2 : Nat)] T)) := by
  have e1 : ((w.alloc (.cells #[.int .u64 (v 0 : Nat), .int .u64 (v 1 : Nat), .int .u64 (v 2 : Nat), .int .u64 (u 0 : Nat), .int .u64 (u 1 : Nat), .int .u64 (u 2 : Nat)] T)).alloc (.cells #[.int .u64 (x 0 : Nat), .int .u64 (x 1 : Nat), .int .u64 (x 2 : Nat), .int .u64 (y 0 : Nat), .int .u64 (y 1 : Nat), .int .u64 (y 2 : Nat)] T)).heap[w.heap.size + 1]? = some (.cells #[.int .u64 (x 0 : Nat), .int .u64 (x 1 : Nat), .int .u64 (x 2 : Nat), .int .u64 (y 0 : Nat), .int .u64 (y 1 : Nat), .int .u64 (y 2 : Nat)] T (0, 0)) := heap_alloc_at _ _ _ (by simp)
  have e0 : ((w.alloc (.cells #[.int .u64 (v 0 : Nat), .int .u64 (v 1 : Nat), .int .u64 (v 2 : Nat), .int .u64 (u 0 : Nat), .int .u64 (u 1 : Nat), .int .u64 (u 2 : Nat)] T)).alloc (.cells #[.int .u64 (x 0 : Nat), .int .u64 (x 1 : Nat), .int .u64 (x 2 : Nat), .int .u64 (y 0 : Nat), .int .u64 (y 1 : Nat), .int .u64 (y 2 : Nat)] T)).heap[w.heap.size]? = some (.cells #[.int .u64 (v 0 : Nat), .int .u64 (v 1 : Nat), .int .u64 (v 2 : Nat), .int .u64 (u 0 : Nat), .int .u64 (u 1 : Nat), .int .u64 (u 2 : Nat)] T (0, 0)) := by rw [Below.heap_alloc _ _ _ (by simp)]; exact heap_alloc_at _ _ _ rfl
  exact ⟨cell_of_row _ _ _ _ _ _ e0, cell_of_row _ _ _ _ _ _ e0, cell_of_row _ _ _ _ _ _ e0, cell_of_row _ _ _ _ _ _ e0, cell_of_row _ _ _ _ _ _ e0, cell_of_row _ _ _ _ _ _ e0, cell_of_row _ _ _ _ _ _ e1, cell_of_row _ _ _ _ _ _ e1, cell_of_row _ _ _ _ _ _ e1, cell_of_row _ _ _ _ _ _ e1, cell_of_row _ _ _ _ _ _ e1, cell_of_row _ _ _ _ _ _ e1⟩

/-- Rating.Compare as a number: the products of value and divisor, crosswise. -/
def cmpR (v u x y : Nat → Nat) : Int := W.cmpN (W.prd v (W.dv y)) (W.prd x (W.dv u)) 6

set_option maxRecDepth 100000 in
set_option maxHeartbeats 1600000 in
theorem compare37_any (v u x y : Nat → Nat) (hv : W.Words v 3) (hu : W.Words u 3) (hx : W.Words x 3) (hy : W.Words y 3) (w : World) :
    Calls Try.prog 37 #[.agg #[.int .u64 (v 0 : Nat), .int .u64 (v 1 : Nat), .int .u64 (v 2 : Nat), .int .u64 (u 0 : Nat), .int .u64 (u 1 : Nat), .int .u64 (u 2 : Nat)], .agg #[.int .u64 (x 0 : Nat), .int .u64 (x 1 : Nat), .int .u64 (x 2 : Nat), .int .u64 (y 0 : Nat), .int .u64 (y 1 : Nat), .int .u64 (y 2 : Nat)]] w fun e w' => e = .returned (.int .i64 (cmpR v u x y)) ∧ Below w.heap.size w w' := by
  have hdu := W.dv_words hu
  have hdy := W.dv_words hy
  have HS0 := r12_start w 31 v u x y
  have hsz0 : w.heap.size + 2 ≤ ((w.alloc (.cells #[.int .u64 (v 0 : Nat), .int .u64 (v 1 : Nat), .int .u64 (v 2 : Nat), .int .u64 (u 0 : Nat), .int .u64 (u 1 : Nat), .int .u64 (u 2 : Nat)] 31)).alloc (.cells #[.int .u64 (x 0 : Nat), .int .u64 (x 1 : Nat), .int .u64 (x 2 : Nat), .int .u64 (y 0 : Nat), .int .u64 (y 1 : Nat), .int .u64 (y 2 : Nat)] 31)).heap.size := by simp
  have HB0 : Hid (Below w.heap.size w ((w.alloc (.cells #[.int .u64 (v 0 : Nat), .int .u64 (v 1 : Nat), .int .u64 (v 2 : Nat), .int .u64 (u 0 : Nat), .int .u64 (u 1 : Nat), .int .u64 (u 2 : Nat)] 31)).alloc (.cells #[.int .u64 (x 0 : Nat), .int .u64 (x 1 : Nat), .int .u64 (x 2 : Nat), .int .u64 (y 0 : Nat), .int .u64 (y 1 : Nat), .int .u64 (y 2 : Nat)] 31))) := ((Below.refl _ _).alloc (Nat.le_refl _) _).alloc (by simp) _
  go_enter Try.func37, Try.ntmps37
  go_wp2
  generalize ((w.alloc (.cells #[.int .u64 (v 0 : Nat), .int .u64 (v 1 : Nat), .int .u64 (v 2 : Nat), .int .u64 (u 0 : Nat), .int .u64 (u 1 : Nat), .int .u64 (u 2 : Nat)] 31)).alloc (.cells #[.int .u64 (x 0 : Nat), .int .u64 (x 1 : Nat), .int .u64 (x 2 : Nat), .int .u64 (y 0 : Nat), .int .u64 (y 1 : Nat), .int .u64 (y 2 : Nat)] 31)) = W0 at *
  have HS : Hid (R12 w.heap.size v u x y W0) := HS0
  clear HS0
  go_region_held3 (fun w' => w'.cell? ⟨w.heap.size, 0, none⟩ = some (.int .u64 (v 0 : Nat)) ∧ w'.cell? ⟨w.heap.size, 1, none⟩ = some (.int .u64 (v 1 : Nat)) ∧ w'.cell? ⟨w.heap.size, 2, none⟩ = some (.int .u64 (v 2 : Nat)) ∧ w'.cell? ⟨w.heap.size, 3, none⟩ = some (.int .u64 (u 0 : Nat)) ∧ w'.cell? ⟨w.heap.size, 4, none⟩ = some (.int .u64 (u 1 : Nat)) ∧ w'.cell? ⟨w.heap.size, 5, none⟩ = some (.int .u64 (u 2 : Nat)) ∧ w'.cell? ⟨w.heap.size + 1, 0, none⟩ = some (.int .u64 (x 0 : Nat)) ∧ w'.cell? ⟨w.heap.size + 1, 1, none⟩ = some (.int .u64 (x 1 : Nat)) ∧ w'.cell? ⟨w.heap.size + 1, 2, none⟩ = some (.int .u64 (x 2 : Nat)) ∧ w'.cell? ⟨w.heap.size + 1, 3, none⟩ = some (.int .u64 (y 0 : Nat)) ∧ w'.cell? ⟨w.heap.size + 1, 4, none⟩ = some (.int .u64 (y 1 : Nat)) ∧ w'.cell? ⟨w.heap.size + 1, 5, none⟩ = some (.int .u64 (y 2 : Nat)))
    ((show R12 w.heap.size v u x y _; (repeat (first | with_reducible exact HS.out | with_reducible refine r12_drew ?_ | with_reducible refine r12_below HB5.out ?_ ?_ | with_reducible refine r12_below HB4.out ?_ ?_ | with_reducible refine r12_below HB3.out ?_ ?_)); all_goals (first | omega | (simp only [drewSize]; omega))))
    (first
      | (go_at_call_of 44 (x 0); refine (divisor44_any x y _).mono ?_; rintro e w3 ⟨rfl, hb3⟩; have HB3 := show Hid _ from hb3; have hsz3 := hb3.size; simp only [drewSize] at hsz3; clear hb3)
      | (go_at_call_of 44 (v 0); refine (divisor44_any v u _).mono ?_; rintro e w4 ⟨rfl, hb4⟩; have HB4 := show Hid _ from hb4; have hsz4 := hb4.size; (try simp only [drewSize] at hsz4); clear hb4)
      | (go_at_call 43; refine (compareProducts_any v (W.dv y) x (W.dv u) hv hdy hx hdu _).mono ?_; rintro e w5 ⟨rfl, hb5⟩; have HB5 := show Hid _ from hb5; have hsz5 := hb5.size; clear hb5))
  go_wp2
  go_ret
  exact ⟨rfl, ((HB0.out.drew.trans (HB3.out.mono (by simp only [drewSize]; omega))).trans (HB4.out.mono (by omega))).trans (HB5.out.mono (by omega))⟩

end Go.Proofs.Qxb6614502a
