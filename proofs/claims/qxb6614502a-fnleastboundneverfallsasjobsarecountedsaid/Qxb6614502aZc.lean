/-
  The walk of FnLeastBoundNeverFallsAsJobsAreCounted.
-/
import Derived.Test.Qxb6614502aZa
import Derived.Test.Qxb6614502aZb
namespace Go.Proofs.Qxb6614502a
open Go.RowKit

def S7b (p : Nat) (q : Value) (a b : Nat) (v u : Nat → Nat) (w' : World) : Prop := w'.cell? ⟨p, 0, none⟩ = some q ∧ w'.cell? ⟨a, 0, none⟩ = some (.int .u64 (v 0 : Nat)) ∧ w'.cell? ⟨a, 1, none⟩ = some (.int .u64 (v 1 : Nat)) ∧ w'.cell? ⟨a, 2, none⟩ = some (.int .u64 (v 2 : Nat)) ∧ w'.cell? ⟨b, 0, none⟩ = some (.int .u64 (u 0 : Nat)) ∧ w'.cell? ⟨b, 1, none⟩ = some (.int .u64 (u 1 : Nat)) ∧ w'.cell? ⟨b, 2, none⟩ = some (.int .u64 (u 2 : Nat))
theorem s7b_below {B p a b : Nat} {q : Value} {v u : Nat → Nat} {x x' : World} (hb : Below B x x') (h : S7b p q a b v u x) (hp : p < B) (h1 : a < B) (h2 : b < B) : S7b p q a b v u x' := by
  unfold S7b at h ⊢
  rw [hb.cell (by simp; omega), hb.cell (by simp; omega), hb.cell (by simp; omega), hb.cell (by simp; omega), hb.cell (by simp; omega), hb.cell (by simp; omega), hb.cell (by simp; omega)]
  exact h
theorem s7b_drew {p a b : Nat} {q : Value} {v u : Nat → Nat} {x : World} (h : S7b p q a b v u x) : S7b p q a b v u x.drew := h
theorem s7b_alloc {p a b : Nat} {q : Value} {v u : Nat → Nat} {x : World} (o : Obj) (h : S7b p q a b v u x) (hp : p < x.heap.size) (h1 : a < x.heap.size) (h2 : b < x.heap.size) : S7b p q a b v u (x.alloc o) :=
  s7b_below ((Below.refl x.heap.size x).alloc (Nat.le_refl _) o) h hp h1 h2
theorem s7b_setCell {p a b : Nat} {q : Value} {v u : Nat → Nat} {x : World} (d : Addr) (y : Value) (h : S7b p q a b v u x) (hp : p < d.block) (h1 : a < d.block) (h2 : b < d.block) : S7b p q a b v u (x.setCell d y) :=
  s7b_below ((Below.refl d.block x).setCell (Nat.le_refl _) y) h hp h1 h2

set_option maxRecDepth 100000 in
set_option maxHeartbeats 6400000 in
theorem fn4_main (v u : Nat → Nat) (n k m r l : Nat) (x : Int) (hnk : k + m = n) (hv : W.Words v 3) (hu : W.Words u 3) (hd : dom v u = true) (hn : n < 9223372036854775808) (hr : r < 9223372036854775808) (hl : l < 9223372036854775808) (hrl : r ≤ l) (w : World) :
    Calls Try.prog 4 #[.agg #[.int .u64 (v 0 : Nat), .int .u64 (v 1 : Nat), .int .u64 (v 2 : Nat)], .agg #[.int .u64 (u 0 : Nat), .int .u64 (u 1 : Nat), .int .u64 (u 2 : Nat)], .int .i64 (n : Nat), .int .i64 (k : Nat), .int .i64 x, .int .i64 (r : Nat), .int .i64 (l : Nat)] w fun e w' => e = .returned (.bool true) ∧ Below w.heap.size w w' := by
  have HF := show Hid _ from never_falls v u k m r l hv hu hd (by omega) hr hl hrl
  rw [hnk] at HF
  have HLB : Hid (lbV v u n r = lstV v u n r ∧ lbU v u n r = lstU v u n r) := by
    obtain ⟨b1, b2, b3⟩ := dom_fit hv hu hd
    have m3 := mul63 n r (by omega) hr
    exact lb_lst ⟨hv, hu, by omega, by omega, b3⟩ (by omega)
  have hk : k < 18446744073709551616 := by omega
  have hl64 : l < 18446744073709551616 := by omega
  have hm : m < 9223372036854775808 := by omega
  have wk := wrapN k hk
  have wl := wrapN l hl64
  have d1 : decide (((n : Nat) : Int) < 0) = false := decide_eq_false (by omega)
  have d2 : decide (((k : Nat) : Int) < 0) = false := decide_eq_false (by omega)
  have d3 : decide (((n : Nat) : Int) < ((k : Nat) : Int)) = false := decide_eq_false (by omega)
  have d4 : decide (((r : Nat) : Int) < 0) = false := decide_eq_false (by omega)
  have d5 : decide (((l : Nat) : Int) < ((r : Nat) : Int)) = false := decide_eq_false (by omega)
  have e1 : IntKind.i64.wrap (((n : Nat) : Int) - ((k : Nat) : Int)) = ((m : Nat) : Int) := by rw [IntKind.wrap_i64]; omega
  have hkn : k ≤ n := by omega
  have hkn' : ((k : Nat) : Int) ≤ ((n : Nat) : Int) := by omega
  clear hnk
  have hLV := W.add3_words v (W.prod3 k l)
  have hLU := W.add3_words u (W.word3 k)
  have HA : Hid (((w.alloc (.cells #[.int .u64 (v 0 : Nat), .int .u64 (v 1 : Nat), .int .u64 (v 2 : Nat)] 23)).alloc (.cells #[.int .u64 (u 0 : Nat), .int .u64 (u 1 : Nat), .int .u64 (u 2 : Nat)] 23)).heap[w.heap.size]? = some (.cells #[.int .u64 (v 0 : Nat), .int .u64 (v 1 : Nat), .int .u64 (v 2 : Nat)] 23 (0, 0))) := by show _ = _; rw [Below.heap_alloc _ _ _ (by simp)]; exact heap_alloc_new w _
  have HB : Hid (((w.alloc (.cells #[.int .u64 (v 0 : Nat), .int .u64 (v 1 : Nat), .int .u64 (v 2 : Nat)] 23)).alloc (.cells #[.int .u64 (u 0 : Nat), .int .u64 (u 1 : Nat), .int .u64 (u 2 : Nat)] 23)).heap[w.heap.size + 1]? = some (.cells #[.int .u64 (u 0 : Nat), .int .u64 (u 1 : Nat), .int .u64 (u 2 : Nat)] 23 (0, 0))) := heap_alloc_at _ _ _ (by simp)
  have HW : Hid (Below w.heap.size w ((w.alloc (.cells #[.int .u64 (v 0 : Nat), .int .u64 (v 1 : Nat), .int .u64 (v 2 : Nat)] 23)).alloc (.cells #[.int .u64 (u 0 : Nat), .int .u64 (u 1 : Nat), .int .u64 (u 2 : Nat)] 23))) := ((Below.refl _ _).alloc (Nat.le_refl _) _).alloc (by simp) _
  have HZ : w.heap.size + 2 ≤ ((w.alloc (.cells #[.int .u64 (v 0 : Nat), .int .u64 (v 1 : Nat), .int .u64 (v 2 : Nat)] 23)).alloc (.cells #[.int .u64 (u 0 : Nat), .int .u64 (u 1 : Nat), .int .u64 (u 2 : Nat)] 23)).heap.size := by simp
  go_enter Try.func4, Try.ntmps4
  go_wp2_with fail
  generalize ((w.alloc (.cells #[.int .u64 (v 0 : Nat), .int .u64 (v 1 : Nat), .int .u64 (v 2 : Nat)] 23)).alloc (.cells #[.int .u64 (u 0 : Nat), .int .u64 (u 1 : Nat), .int .u64 (u 2 : Nat)] 23)) = w1 at *
  refine (dom7_any v u w1).mono ?_
  rintro e w2 ⟨rfl, hb⟩
  replace HA := show Hid _ from (hb.block _ (by omega)).trans HA.out
  replace HB := show Hid _ from (hb.block _ (by omega)).trans HB.out
  replace HW : Hid (Below w.heap.size w w2) := HW.out.trans (hb.mono (by omega))
  have zw2 := hb.size
  clear hb
  go_wp2_with fail
  refine (mean8_any w2).mono ?_
  rintro e w3 ⟨rfl, hb⟩
  replace HA := show Hid _ from (hb.block _ (by omega)).trans HA.out
  replace HB := show Hid _ from (hb.block _ (by omega)).trans HB.out
  replace HW : Hid (Below w.heap.size w w3) := HW.out.trans (hb.mono (by omega))
  have zw3 := hb.size
  clear hb
  go_wp2_with fail
  have HQ : Hid ((w3.alloc (.cells #[.func (.func 27) #[] #[]] 27)).heap[w3.heap.size]? = some (.cells #[.func (.func 27) #[] #[]] 27 (0, 0))) := heap_alloc_new w3 _
  have zw4 : w3.heap.size < (w3.alloc (.cells #[.func (.func 27) #[] #[]] 27)).heap.size := by simp
  replace HA := show Hid _ from (Below.heap_alloc w3 (.cells #[.func (.func 27) #[] #[]] 27) _ (by omega)).trans HA.out
  replace HB := show Hid _ from (Below.heap_alloc w3 (.cells #[.func (.func 27) #[] #[]] 27) _ (by omega)).trans HB.out
  replace HW := show Hid _ from HW.out.alloc (by omega) (.cells #[.func (.func 27) #[] #[]] 27)
  generalize w3.alloc (.cells #[.func (.func 27) #[] #[]] 27) = w4 at *
  generalize w3.heap.size = g15 at *
  have HS : Hid (S7b g15 (.func (.func 27) #[] #[]) w.heap.size (w.heap.size + 1) v u w4) := ⟨cell_of_row _ _ _ _ _ _ HQ.out, (row3 HA.out).1, (row3 HA.out).2.1, (row3 HA.out).2.2, (row3 HB.out).1, (row3 HB.out).2.1, (row3 HB.out).2.2⟩
  have kA : w.heap.size + 1 < g15 := by omega
  have kB : w.heap.size + 1 < w4.heap.size := by omega
  go_cut [16] (fun vv wx => ∃ g : Nat, vv = .pointer (some ⟨g, 0, none⟩) ∧ g < wx.heap.size ∧ AtR wx g (lstV v u n r) (lstU v u n r) ∧ Below w4.heap.size w4 wx)
  case first =>
    go_region_held3 (fun w' => w'.cell? ⟨g15, 0, none⟩ = some (.func (.func 27) #[] #[]) ∧ w'.cell? ⟨w.heap.size, 0, none⟩ = some (.int .u64 ((v) 0 : Nat)) ∧ w'.cell? ⟨w.heap.size, 1, none⟩ = some (.int .u64 ((v) 1 : Nat)) ∧ w'.cell? ⟨w.heap.size, 2, none⟩ = some (.int .u64 ((v) 2 : Nat)) ∧ w'.cell? ⟨w.heap.size + 1, 0, none⟩ = some (.int .u64 ((u) 0 : Nat)) ∧ w'.cell? ⟨w.heap.size + 1, 1, none⟩ = some (.int .u64 ((u) 1 : Nat)) ∧ w'.cell? ⟨w.heap.size + 1, 2, none⟩ = some (.int .u64 ((u) 2 : Nat)))
      ((show S7b g15 (.func (.func 27) #[] #[]) (w.heap.size) (w.heap.size + 1) (v) (u) _; (repeat (first | with_reducible exact HS.out | with_reducible refine s7b_drew ?_ | with_reducible refine s7b_alloc _ ?_ ?_ ?_ ?_ | with_reducible refine s7b_setCell _ _ ?_ ?_ ?_ ?_ | with_reducible refine s7b_below HB4.out ?_ ?_ ?_ ?_ | with_reducible refine s7b_below HB3.out ?_ ?_ ?_ ?_)); all_goals (first | omega | (simp only [drewSize, allocSize]; omega))))
      (first
        | (go_at_call 10; refine (new10_any (v) (u) _).mono ?_; rintro e y3 ⟨rfl, hb3⟩; obtain ⟨hc3, hf3⟩ := bcellM hb3; have HB3 := show Hid _ from hb3; have hsz3 := hb3.size; (try simp at hsz3); (try simp at hc3); (try simp at hf3); clear hb3; (try have z3 : w4.heap.size < y3.heap.size := by omega))
        | (go_at_call 11; refine (zzleast_any (v) (u) (n) r x hv hu hn hr _).mono ?_; rintro e y4 ⟨rfl, hb4⟩; obtain ⟨hc4, hf4⟩ := bcellM hb4; have HB4 := show Hid _ from hb4; have hsz4 := hb4.size; (try simp at hsz4); (try simp at hc4); (try simp at hf4); clear hb4; (try have z4 : y3.heap.size < y4.heap.size := by omega); (try have z6 : w4.heap.size < y4.heap.size := by omega)))
    all_goals
      go_wp2_with fail
      go_meet
      case rel =>
        refine ⟨_, rfl, ?_, ?_, ?_⟩
        · first | (simp only [allocSize, setSize]; omega) | (simp; omega) | simp
        all_goals ((repeat (first
          | with_reducible exact Below.refl _ _
          | with_reducible refine atR_six ?_ ?_ ?_ ?_ ?_ ?_
          | with_reducible refine atR_new _ ?_
          | with_reducible refine atR_alloc _ ?_ ?_
          | with_reducible refine bl_drew ?_
          | with_reducible refine bl_alloc _ ?_ ?_
          | with_reducible refine bl_setCell _ _ ?_ ?_
          | with_reducible refine bl_call HB4.out ?_ ?_
          | with_reducible refine bl_call HB3.out ?_ ?_)); all_goals (first | omega | (simp only [drewSize, allocSize]; omega) | (dsimp only; omega) | (simp [go_sem, *]; done)))
  case rest =>
    obtain ⟨g16, rfl, hz16, h16, hb⟩ := hcut
    have H16 : Hid _ := h16
    clear h16 HS
    replace HA := show Hid _ from (hb.block _ (by omega)).trans HA.out
    replace HB := show Hid _ from (hb.block _ (by omega)).trans HB.out
    replace HQ := show Hid _ from (hb.block _ (by omega)).trans HQ.out
    replace HW : Hid (Below w.heap.size w wc) := HW.out.trans (hb.mono (by omega))
    have zwc := hb.size
    clear hb
    obtain ⟨p0, p1, p2⟩ := row3 HA.out
    go_wp2_with fail
    clear p0 p1 p2
    refine (addProduct15_any v k l hv hk hl64 wc).mono ?_
    rintro e w5 ⟨rfl, hb⟩
    generalize W.add3 v (W.prod3 k l) = LV at *
    replace HA := show Hid _ from (hb.block _ (by omega)).trans HA.out
    replace HB := show Hid _ from (hb.block _ (by omega)).trans HB.out
    replace HQ := show Hid _ from (hb.block _ (by omega)).trans HQ.out
    replace H16 := show Hid _ from atR_below hb H16.out (by omega)
    replace HW : Hid (Below w.heap.size w w5) := HW.out.trans (hb.mono (by omega))
    have zw5 := hb.size
    clear hb
    obtain ⟨p0, p1, p2⟩ := row3 HB.out
    have kk0 : w.heap.size + 1 < w5.heap.size := by omega
    go_wp2_with fail
    clear p0 p1 p2 kk0
    have H17 : Hid ((w5.alloc (.cells #[.int .u64 ((LV) 0 : Nat), .int .u64 ((LV) 1 : Nat), .int .u64 ((LV) 2 : Nat)] 23)).heap[w5.heap.size]? = some (.cells #[.int .u64 ((LV) 0 : Nat), .int .u64 ((LV) 1 : Nat), .int .u64 ((LV) 2 : Nat)] 23 (0, 0))) := heap_alloc_new w5 _
    have zw6 : w5.heap.size < (w5.alloc (.cells #[.int .u64 ((LV) 0 : Nat), .int .u64 ((LV) 1 : Nat), .int .u64 ((LV) 2 : Nat)] 23)).heap.size := by simp
    replace HA := show Hid _ from (Below.heap_alloc w5 (.cells #[.int .u64 ((LV) 0 : Nat), .int .u64 ((LV) 1 : Nat), .int .u64 ((LV) 2 : Nat)] 23) _ (by omega)).trans HA.out
    replace HB := show Hid _ from (Below.heap_alloc w5 (.cells #[.int .u64 ((LV) 0 : Nat), .int .u64 ((LV) 1 : Nat), .int .u64 ((LV) 2 : Nat)] 23) _ (by omega)).trans HB.out
    replace HQ := show Hid _ from (Below.heap_alloc w5 (.cells #[.int .u64 ((LV) 0 : Nat), .int .u64 ((LV) 1 : Nat), .int .u64 ((LV) 2 : Nat)] 23) _ (by omega)).trans HQ.out
    replace H16 := show Hid _ from atR_alloc (.cells #[.int .u64 ((LV) 0 : Nat), .int .u64 ((LV) 1 : Nat), .int .u64 ((LV) 2 : Nat)] 23) H16.out (by omega)
    replace HW := show Hid _ from HW.out.alloc (by omega) (.cells #[.int .u64 ((LV) 0 : Nat), .int .u64 ((LV) 1 : Nat), .int .u64 ((LV) 2 : Nat)] 23)
    generalize w5.alloc (.cells #[.int .u64 ((LV) 0 : Nat), .int .u64 ((LV) 1 : Nat), .int .u64 ((LV) 2 : Nat)] 23) = w6 at *
    generalize w5.heap.size = g17 at *
    refine (addWord16_any u k hu hk w6).mono ?_
    rintro e w7 ⟨rfl, hb⟩
    generalize W.add3 u (W.word3 k) = LU at *
    replace HA := show Hid _ from (hb.block _ (by omega)).trans HA.out
    replace HB := show Hid _ from (hb.block _ (by omega)).trans HB.out
    replace HQ := show Hid _ from (hb.block _ (by omega)).trans HQ.out
    replace H16 := show Hid _ from atR_below hb H16.out (by omega)
    replace H17 := show Hid _ from (hb.block _ (by omega)).trans H17.out
    replace HW : Hid (Below w.heap.size w w7) := HW.out.trans (hb.mono (by omega))
    have zw7 := hb.size
    clear hb
    go_wp2_with fail
    have H18 : Hid ((w7.alloc (.cells #[.int .u64 ((LU) 0 : Nat), .int .u64 ((LU) 1 : Nat), .int .u64 ((LU) 2 : Nat)] 23)).heap[w7.heap.size]? = some (.cells #[.int .u64 ((LU) 0 : Nat), .int .u64 ((LU) 1 : Nat), .int .u64 ((LU) 2 : Nat)] 23 (0, 0))) := heap_alloc_new w7 _
    have zw8 : w7.heap.size < (w7.alloc (.cells #[.int .u64 ((LU) 0 : Nat), .int .u64 ((LU) 1 : Nat), .int .u64 ((LU) 2 : Nat)] 23)).heap.size := by simp
    replace HA := show Hid _ from (Below.heap_alloc w7 (.cells #[.int .u64 ((LU) 0 : Nat), .int .u64 ((LU) 1 : Nat), .int .u64 ((LU) 2 : Nat)] 23) _ (by omega)).trans HA.out
    replace HB := show Hid _ from (Below.heap_alloc w7 (.cells #[.int .u64 ((LU) 0 : Nat), .int .u64 ((LU) 1 : Nat), .int .u64 ((LU) 2 : Nat)] 23) _ (by omega)).trans HB.out
    replace HQ := show Hid _ from (Below.heap_alloc w7 (.cells #[.int .u64 ((LU) 0 : Nat), .int .u64 ((LU) 1 : Nat), .int .u64 ((LU) 2 : Nat)] 23) _ (by omega)).trans HQ.out
    replace H16 := show Hid _ from atR_alloc (.cells #[.int .u64 ((LU) 0 : Nat), .int .u64 ((LU) 1 : Nat), .int .u64 ((LU) 2 : Nat)] 23) H16.out (by omega)
    replace H17 := show Hid _ from (Below.heap_alloc w7 (.cells #[.int .u64 ((LU) 0 : Nat), .int .u64 ((LU) 1 : Nat), .int .u64 ((LU) 2 : Nat)] 23) _ (by omega)).trans H17.out
    replace HW := show Hid _ from HW.out.alloc (by omega) (.cells #[.int .u64 ((LU) 0 : Nat), .int .u64 ((LU) 1 : Nat), .int .u64 ((LU) 2 : Nat)] 23)
    generalize w7.alloc (.cells #[.int .u64 ((LU) 0 : Nat), .int .u64 ((LU) 1 : Nat), .int .u64 ((LU) 2 : Nat)] 23) = w8 at *
    generalize w7.heap.size = g18 at *
    have HS : Hid (S7b g15 (.func (.func 27) #[] #[]) g17 g18 (LV) (LU) w8) := ⟨cell_of_row _ _ _ _ _ _ HQ.out, (row3 (v := LV) H17.out).1, (row3 (v := LV) H17.out).2.1, (row3 (v := LV) H17.out).2.2, (row3 (v := LU) H18.out).1, (row3 (v := LU) H18.out).2.1, (row3 (v := LU) H18.out).2.2⟩
    have kC : g15 < w8.heap.size := by omega
    have kD : g17 < w8.heap.size := by omega
    go_cut [19] (fun vv wx => ∃ g : Nat, vv = .pointer (some ⟨g, 0, none⟩) ∧ g < wx.heap.size ∧ AtR wx g (lstV LV LU m r) (lstU LV LU m r) ∧ Below w8.heap.size w8 wx)
    case first =>
      go_region_held3 (fun w' => w'.cell? ⟨g15, 0, none⟩ = some (.func (.func 27) #[] #[]) ∧ w'.cell? ⟨g17, 0, none⟩ = some (.int .u64 ((LV) 0 : Nat)) ∧ w'.cell? ⟨g17, 1, none⟩ = some (.int .u64 ((LV) 1 : Nat)) ∧ w'.cell? ⟨g17, 2, none⟩ = some (.int .u64 ((LV) 2 : Nat)) ∧ w'.cell? ⟨g18, 0, none⟩ = some (.int .u64 ((LU) 0 : Nat)) ∧ w'.cell? ⟨g18, 1, none⟩ = some (.int .u64 ((LU) 1 : Nat)) ∧ w'.cell? ⟨g18, 2, none⟩ = some (.int .u64 ((LU) 2 : Nat)))
        ((show S7b g15 (.func (.func 27) #[] #[]) (g17) (g18) (LV) (LU) _; (repeat (first | with_reducible exact HS.out | with_reducible refine s7b_drew ?_ | with_reducible refine s7b_alloc _ ?_ ?_ ?_ ?_ | with_reducible refine s7b_setCell _ _ ?_ ?_ ?_ ?_ | with_reducible refine s7b_below HB4.out ?_ ?_ ?_ ?_ | with_reducible refine s7b_below HB3.out ?_ ?_ ?_ ?_)); all_goals (first | omega | (simp only [drewSize, allocSize]; omega))))
        (first
          | (go_at_call 10; refine (new10_any (LV) (LU) _).mono ?_; rintro e y3 ⟨rfl, hb3⟩; obtain ⟨hc3, hf3⟩ := bcellM hb3; have HB3 := show Hid _ from hb3; have hsz3 := hb3.size; (try simp at hsz3); (try simp at hc3); (try simp at hf3); clear hb3; (try have z3 : w8.heap.size < y3.heap.size := by omega))
          | (go_at_call 11; refine (zzleast_any (LV) (LU) (m) r x hLV hLU hm hr _).mono ?_; rintro e y4 ⟨rfl, hb4⟩; obtain ⟨hc4, hf4⟩ := bcellM hb4; have HB4 := show Hid _ from hb4; have hsz4 := hb4.size; (try simp at hsz4); (try simp at hc4); (try simp at hf4); clear hb4; (try have z4 : y3.heap.size < y4.heap.size := by omega); (try have z6 : w8.heap.size < y4.heap.size := by omega)))
      all_goals
        go_wp2_with fail
        go_meet
        case rel =>
          refine ⟨_, rfl, ?_, ?_, ?_⟩
          · first | (simp only [allocSize, setSize]; omega) | (simp; omega) | simp
          all_goals ((repeat (first
            | with_reducible exact Below.refl _ _
            | with_reducible refine atR_six ?_ ?_ ?_ ?_ ?_ ?_
            | with_reducible refine atR_new _ ?_
            | with_reducible refine atR_alloc _ ?_ ?_
            | with_reducible refine bl_drew ?_
            | with_reducible refine bl_alloc _ ?_ ?_
            | with_reducible refine bl_setCell _ _ ?_ ?_
            | with_reducible refine bl_call HB4.out ?_ ?_
            | with_reducible refine bl_call HB3.out ?_ ?_)); all_goals (first | omega | (simp only [drewSize, allocSize]; omega) | (dsimp only; omega) | (simp [go_sem, *]; done)))
    case rest =>
      rename World => wd
      obtain ⟨g19, rfl, hz19, h19, hb⟩ := hcut
      have H19 : Hid _ := h19
      clear h19 HS HQ H17 H18
      replace HA := show Hid _ from (hb.block _ (by omega)).trans HA.out
      replace HB := show Hid _ from (hb.block _ (by omega)).trans HB.out
      replace H16 := show Hid _ from atR_below hb H16.out (by omega)
      replace HW : Hid (Below w.heap.size w wd) := HW.out.trans (hb.mono (by omega))
      have zwd := hb.size
      clear hb
      obtain ⟨p0, p1, p2⟩ := row3 HA.out
      obtain ⟨t0, t1, t2⟩ := row3 HB.out
      go_wp2_with fail
      clear p0 p1 p2 t0 t1 t2
      refine (leastByCount12_any v u n r hv hu hn hr wd).mono ?_
      rintro e w9 ⟨rfl, hb⟩
      rw [HLB.out.1, HLB.out.2]
      replace H16 := show Hid _ from atR_below hb H16.out (by omega)
      replace H19 := show Hid _ from atR_below hb H19.out (by omega)
      replace HW : Hid (Below w.heap.size w w9) := HW.out.trans (hb.mono (by omega))
      have zw9 := hb.size
      clear hb
      clear HA HB HLB
      have hBV : W.Words (lstV v u n r) 3 := lstV_words hv
      have hBU : W.Words (lstU v u n r) 3 := lstU_words hu
      have hAV : W.Words (lstV LV LU m r) 3 := lstV_words hLV
      have hAU : W.Words (lstU LV LU m r) 3 := lstU_words hLU
      generalize lstV v u n r = BV at *
      generalize lstU v u n r = BU at *
      generalize lstV LV LU m r = AV at *
      generalize lstU LV LU m r = AU at *
      clear hLV hLU
      obtain ⟨p0, p1, p2, p3, p4, p5⟩ := show AtR _ _ _ _ from H16.out
      have kk0 : g16 < w9.heap.size := by omega
      have kk1 : g16 < w9.heap.size + 1 := by omega
      have kk2 : g16 ≠ w9.heap.size := by omega
      have kk3 : g16 ≠ w9.heap.size + 1 := by omega
      go_wp2_with fail
      clear p0 p1 p2 p3 p4 p5 kk0 kk1 kk2 kk3
      have H20 : Hid (((w9.alloc (.cells #[.int .u64 (BV 0 : Nat), .int .u64 (BV 1 : Nat), .int .u64 (BV 2 : Nat)] 23)).alloc (.cells #[.int .u64 (BU 0 : Nat), .int .u64 (BU 1 : Nat), .int .u64 (BU 2 : Nat)] 23)).heap[w9.heap.size]? = some (.cells #[.int .u64 (BV 0 : Nat), .int .u64 (BV 1 : Nat), .int .u64 (BV 2 : Nat)] 23 (0, 0))) := by show _ = _; rw [Below.heap_alloc _ _ _ (by simp)]; exact heap_alloc_new w9 _
      have H21 : Hid (((w9.alloc (.cells #[.int .u64 (BV 0 : Nat), .int .u64 (BV 1 : Nat), .int .u64 (BV 2 : Nat)] 23)).alloc (.cells #[.int .u64 (BU 0 : Nat), .int .u64 (BU 1 : Nat), .int .u64 (BU 2 : Nat)] 23)).heap[w9.heap.size + 1]? = some (.cells #[.int .u64 (BU 0 : Nat), .int .u64 (BU 1 : Nat), .int .u64 (BU 2 : Nat)] 23 (0, 0))) := heap_alloc_at _ _ _ (by simp)
      have z10 : ((w9.alloc (.cells #[.int .u64 (BV 0 : Nat), .int .u64 (BV 1 : Nat), .int .u64 (BV 2 : Nat)] 23)).alloc (.cells #[.int .u64 (BU 0 : Nat), .int .u64 (BU 1 : Nat), .int .u64 (BU 2 : Nat)] 23)).heap.size = w9.heap.size + 2 := by simp
      replace H16 : Hid (AtR ((w9.alloc (.cells #[.int .u64 (BV 0 : Nat), .int .u64 (BV 1 : Nat), .int .u64 (BV 2 : Nat)] 23)).alloc (.cells #[.int .u64 (BU 0 : Nat), .int .u64 (BU 1 : Nat), .int .u64 (BU 2 : Nat)] 23)) g16 BV BU) := atR_alloc _ (atR_alloc _ H16.out (by omega)) (by simp; omega)
      replace H19 : Hid (AtR ((w9.alloc (.cells #[.int .u64 (BV 0 : Nat), .int .u64 (BV 1 : Nat), .int .u64 (BV 2 : Nat)] 23)).alloc (.cells #[.int .u64 (BU 0 : Nat), .int .u64 (BU 1 : Nat), .int .u64 (BU 2 : Nat)] 23)) g19 AV AU) := atR_alloc _ (atR_alloc _ H19.out (by omega)) (by simp; omega)
      replace HW : Hid (Below w.heap.size w ((w9.alloc (.cells #[.int .u64 (BV 0 : Nat), .int .u64 (BV 1 : Nat), .int .u64 (BV 2 : Nat)] 23)).alloc (.cells #[.int .u64 (BU 0 : Nat), .int .u64 (BU 1 : Nat), .int .u64 (BU 2 : Nat)] 23))) := (HW.out.alloc (by omega) _).alloc (by simp; omega) _
      generalize ((w9.alloc (.cells #[.int .u64 (BV 0 : Nat), .int .u64 (BV 1 : Nat), .int .u64 (BV 2 : Nat)] 23)).alloc (.cells #[.int .u64 (BU 0 : Nat), .int .u64 (BU 1 : Nat), .int .u64 (BU 2 : Nat)] 23)) = w10 at *
      generalize w9.heap.size = g20 at *
      refine (value13_any BV BU w10).mono ?_
      rintro e w11 ⟨rfl, hb⟩
      replace H16 := show Hid _ from atR_below hb H16.out (by omega)
      replace H19 := show Hid _ from atR_below hb H19.out (by omega)
      replace H20 := show Hid _ from (hb.block _ (by omega)).trans H20.out
      replace H21 := show Hid _ from (hb.block _ (by omega)).trans H21.out
      replace HW : Hid (Below w.heap.size w w11) := HW.out.trans (hb.mono (by omega))
      have zw11 := hb.size
      clear hb
      obtain ⟨p0, p1, p2, p3, p4, p5⟩ := show AtR _ _ _ _ from H16.out
      have kk0 : g16 < w11.heap.size := by omega
      go_wp2_with fail
      clear p0 p1 p2 p3 p4 p5 kk0
      have H22 : Hid ((w11.alloc (.cells #[.int .u64 (BV 0 : Nat), .int .u64 (BV 1 : Nat), .int .u64 (BV 2 : Nat)] 23)).heap[w11.heap.size]? = some (.cells #[.int .u64 (BV 0 : Nat), .int .u64 (BV 1 : Nat), .int .u64 (BV 2 : Nat)] 23 (0, 0))) := heap_alloc_new w11 _
      have zw12 : w11.heap.size < (w11.alloc (.cells #[.int .u64 (BV 0 : Nat), .int .u64 (BV 1 : Nat), .int .u64 (BV 2 : Nat)] 23)).heap.size := by simp
      replace H16 := show Hid _ from atR_alloc (.cells #[.int .u64 (BV 0 : Nat), .int .u64 (BV 1 : Nat), .int .u64 (BV 2 : Nat)] 23) H16.out (by omega)
      replace H19 := show Hid _ from atR_alloc (.cells #[.int .u64 (BV 0 : Nat), .int .u64 (BV 1 : Nat), .int .u64 (BV 2 : Nat)] 23) H19.out (by omega)
      replace H20 := show Hid _ from (Below.heap_alloc w11 (.cells #[.int .u64 (BV 0 : Nat), .int .u64 (BV 1 : Nat), .int .u64 (BV 2 : Nat)] 23) _ (by omega)).trans H20.out
      replace H21 := show Hid _ from (Below.heap_alloc w11 (.cells #[.int .u64 (BV 0 : Nat), .int .u64 (BV 1 : Nat), .int .u64 (BV 2 : Nat)] 23) _ (by omega)).trans H21.out
      replace HW := show Hid _ from HW.out.alloc (by omega) (.cells #[.int .u64 (BV 0 : Nat), .int .u64 (BV 1 : Nat), .int .u64 (BV 2 : Nat)] 23)
      generalize w11.alloc (.cells #[.int .u64 (BV 0 : Nat), .int .u64 (BV 1 : Nat), .int .u64 (BV 2 : Nat)] 23) = w12 at *
      generalize w11.heap.size = g22 at *
      refine (weight14_any BV BU w12).mono ?_
      rintro e w13 ⟨rfl, hb⟩
      clear H16
      replace H19 := show Hid _ from atR_below hb H19.out (by omega)
      replace H20 := show Hid _ from (hb.block _ (by omega)).trans H20.out
      replace H21 := show Hid _ from (hb.block _ (by omega)).trans H21.out
      replace H22 := show Hid _ from (hb.block _ (by omega)).trans H22.out
      replace HW : Hid (Below w.heap.size w w13) := HW.out.trans (hb.mono (by omega))
      have zw13 := hb.size
      clear hb
      obtain ⟨p0, p1, p2, p3, p4, p5⟩ := show AtR _ _ _ _ from H19.out
      have kk0 : g19 < w13.heap.size := by omega
      go_wp2_with fail
      clear p0 p1 p2 p3 p4 p5 kk0
      have H23 : Hid ((w13.alloc (.cells #[.int .u64 (BU 0 : Nat), .int .u64 (BU 1 : Nat), .int .u64 (BU 2 : Nat)] 23)).heap[w13.heap.size]? = some (.cells #[.int .u64 (BU 0 : Nat), .int .u64 (BU 1 : Nat), .int .u64 (BU 2 : Nat)] 23 (0, 0))) := heap_alloc_new w13 _
      have zw14 : w13.heap.size < (w13.alloc (.cells #[.int .u64 (BU 0 : Nat), .int .u64 (BU 1 : Nat), .int .u64 (BU 2 : Nat)] 23)).heap.size := by simp
      replace H19 := show Hid _ from atR_alloc (.cells #[.int .u64 (BU 0 : Nat), .int .u64 (BU 1 : Nat), .int .u64 (BU 2 : Nat)] 23) H19.out (by omega)
      replace H20 := show Hid _ from (Below.heap_alloc w13 (.cells #[.int .u64 (BU 0 : Nat), .int .u64 (BU 1 : Nat), .int .u64 (BU 2 : Nat)] 23) _ (by omega)).trans H20.out
      replace H21 := show Hid _ from (Below.heap_alloc w13 (.cells #[.int .u64 (BU 0 : Nat), .int .u64 (BU 1 : Nat), .int .u64 (BU 2 : Nat)] 23) _ (by omega)).trans H21.out
      replace H22 := show Hid _ from (Below.heap_alloc w13 (.cells #[.int .u64 (BU 0 : Nat), .int .u64 (BU 1 : Nat), .int .u64 (BU 2 : Nat)] 23) _ (by omega)).trans H22.out
      replace HW := show Hid _ from HW.out.alloc (by omega) (.cells #[.int .u64 (BU 0 : Nat), .int .u64 (BU 1 : Nat), .int .u64 (BU 2 : Nat)] 23)
      generalize w13.alloc (.cells #[.int .u64 (BU 0 : Nat), .int .u64 (BU 1 : Nat), .int .u64 (BU 2 : Nat)] 23) = w14 at *
      generalize w13.heap.size = g23 at *
      refine (value13_any AV AU w14).mono ?_
      rintro e w15 ⟨rfl, hb⟩
      replace H19 := show Hid _ from atR_below hb H19.out (by omega)
      replace H20 := show Hid _ from (hb.block _ (by omega)).trans H20.out
      replace H21 := show Hid _ from (hb.block _ (by omega)).trans H21.out
      replace H22 := show Hid _ from (hb.block _ (by omega)).trans H22.out
      replace H23 := show Hid _ from (hb.block _ (by omega)).trans H23.out
      replace HW : Hid (Below w.heap.size w w15) := HW.out.trans (hb.mono (by omega))
      have zw15 := hb.size
      clear hb
      obtain ⟨p0, p1, p2, p3, p4, p5⟩ := show AtR _ _ _ _ from H19.out
      have kk0 : g19 < w15.heap.size := by omega
      go_wp2_with fail
      clear p0 p1 p2 p3 p4 p5 kk0
      have H24 : Hid ((w15.alloc (.cells #[.int .u64 (AV 0 : Nat), .int .u64 (AV 1 : Nat), .int .u64 (AV 2 : Nat)] 23)).heap[w15.heap.size]? = some (.cells #[.int .u64 (AV 0 : Nat), .int .u64 (AV 1 : Nat), .int .u64 (AV 2 : Nat)] 23 (0, 0))) := heap_alloc_new w15 _
      have zw16 : w15.heap.size < (w15.alloc (.cells #[.int .u64 (AV 0 : Nat), .int .u64 (AV 1 : Nat), .int .u64 (AV 2 : Nat)] 23)).heap.size := by simp
      replace H19 := show Hid _ from atR_alloc (.cells #[.int .u64 (AV 0 : Nat), .int .u64 (AV 1 : Nat), .int .u64 (AV 2 : Nat)] 23) H19.out (by omega)
      replace H20 := show Hid _ from (Below.heap_alloc w15 (.cells #[.int .u64 (AV 0 : Nat), .int .u64 (AV 1 : Nat), .int .u64 (AV 2 : Nat)] 23) _ (by omega)).trans H20.out
      replace H21 := show Hid _ from (Below.heap_alloc w15 (.cells #[.int .u64 (AV 0 : Nat), .int .u64 (AV 1 : Nat), .int .u64 (AV 2 : Nat)] 23) _ (by omega)).trans H21.out
      replace H22 := show Hid _ from (Below.heap_alloc w15 (.cells #[.int .u64 (AV 0 : Nat), .int .u64 (AV 1 : Nat), .int .u64 (AV 2 : Nat)] 23) _ (by omega)).trans H22.out
      replace H23 := show Hid _ from (Below.heap_alloc w15 (.cells #[.int .u64 (AV 0 : Nat), .int .u64 (AV 1 : Nat), .int .u64 (AV 2 : Nat)] 23) _ (by omega)).trans H23.out
      replace HW := show Hid _ from HW.out.alloc (by omega) (.cells #[.int .u64 (AV 0 : Nat), .int .u64 (AV 1 : Nat), .int .u64 (AV 2 : Nat)] 23)
      generalize w15.alloc (.cells #[.int .u64 (AV 0 : Nat), .int .u64 (AV 1 : Nat), .int .u64 (AV 2 : Nat)] 23) = w16 at *
      generalize w15.heap.size = g24 at *
      refine (weight14_any AV AU w16).mono ?_
      rintro e w17 ⟨rfl, hb⟩
      clear H19
      replace H20 := show Hid _ from (hb.block _ (by omega)).trans H20.out
      replace H21 := show Hid _ from (hb.block _ (by omega)).trans H21.out
      replace H22 := show Hid _ from (hb.block _ (by omega)).trans H22.out
      replace H23 := show Hid _ from (hb.block _ (by omega)).trans H23.out
      replace H24 := show Hid _ from (hb.block _ (by omega)).trans H24.out
      replace HW : Hid (Below w.heap.size w w17) := HW.out.trans (hb.mono (by omega))
      have zw17 := hb.size
      clear hb
      obtain ⟨p0, p1, p2⟩ := row3 H20.out
      obtain ⟨q0, q1, q2⟩ := row3 H21.out
      obtain ⟨s0, s1, s2⟩ := row3 H22.out
      obtain ⟨t0, t1, t2⟩ := row3 H23.out
      obtain ⟨y0, y1, y2⟩ := row3 H24.out
      have kk0 : g20 < w17.heap.size := by omega
      have kk1 : g20 + 1 < w17.heap.size := by omega
      have kk2 : g22 < w17.heap.size := by omega
      have kk3 : g23 < w17.heap.size := by omega
      have kk4 : g24 < w17.heap.size := by omega
      have heq := eq23
      have hq3 := eqI3_self BV
      have hq4 := eqI3_self BU
      go_wp2_with fail
      clear p0 p1 p2 q0 q1 q2 s0 s1 s2 t0 t1 t2 y0 y1 y2 kk0 kk1 kk2 kk3 kk4
      have hge : decide (0 ≤ cmpR AV AU BV BU) = true := decide_eq_true (Int.not_lt.1 HF.out)
      refine (compareFractions17_any AV AU BV BU hAV hAU hBV hBU _).mono ?_
      rintro e w18 ⟨rfl, hb⟩
      go_wp2_with fail
      go_ret
      exact ⟨rfl, (HW.out.alloc (by omega) _).trans (hb.mono (by simp; omega))⟩

end Go.Proofs.Qxb6614502a
