/-
  leastByCount.
-/
import Derived.Test.Qxb6614502aT
namespace Go.Proofs.Qxb6614502a
open Go.RowKit

/-- As the law says it: is some job left, and the mean above the response? -/
def lb (v u : Nat → Nat) (c r : Nat) : Bool := decide (0 < c) && !W.isz u && pbl u r v
def lbV (v u : Nat → Nat) (c r : Nat) : Nat → Nat := fun j => if lb v u c r = true then W.add3 v (W.prod3 c r) j else v j
def lbU (v u : Nat → Nat) (c r : Nat) : Nat → Nat := fun j => if lb v u c r = true then W.add3 u (W.word3 c) j else u j
theorem lb_true {v u : Nat → Nat} {c r : Nat} (h : lb v u c r = true) (j : Nat) : lbV v u c r j = W.add3 v (W.prod3 c r) j ∧ lbU v u c r j = W.add3 u (W.word3 c) j := by
  rw [lbV, lbU, if_pos h, if_pos h]; exact ⟨rfl, rfl⟩
theorem lb_false {v u : Nat → Nat} {c r : Nat} (h : lb v u c r = false) (j : Nat) : lbV v u c r j = v j ∧ lbU v u c r j = u j := by
  rw [lbV, lbU, if_neg (by rw [h]; decide), if_neg (by rw [h]; decide)]; exact ⟨rfl, rfl⟩

structure Lay12 (w wk : World) (v u : Nat → Nat) : Prop where
  a : wk.heap[w.heap.size]? = some (.cells #[.int .u64 (v 0 : Nat), .int .u64 (v 1 : Nat), .int .u64 (v 2 : Nat)] 23 (0, 0))
  b : wk.heap[w.heap.size + 1]? = some (.cells #[.int .u64 (u 0 : Nat), .int .u64 (u 1 : Nat), .int .u64 (u 2 : Nat)] 23 (0, 0))
  r : wk.heap[w.heap.size + 1 + 1]? = some (.cells #[.int .u64 0, .int .u64 0, .int .u64 0] 23 (0, 0))
  s : wk.heap[w.heap.size + 1 + 1 + 1]? = some (.cells #[.int .u64 0, .int .u64 0, .int .u64 0] 23 (0, 0))
  size : w.heap.size + 4 ≤ wk.heap.size
  below : Below w.heap.size w wk

theorem lay12 (w : World) (v u : Nat → Nat) : Lay12 w ((((w.alloc (.cells #[.int .u64 (v 0 : Nat), .int .u64 (v 1 : Nat), .int .u64 (v 2 : Nat)] 23)).alloc (.cells #[.int .u64 (u 0 : Nat), .int .u64 (u 1 : Nat), .int .u64 (u 2 : Nat)] 23)).alloc (.cells #[.int .u64 0, .int .u64 0, .int .u64 0] 23)).alloc (.cells #[.int .u64 0, .int .u64 0, .int .u64 0] 23)) v u := by
  refine ⟨?_, ?_, ?_, ?_, ?_, ?_⟩
  · rw [Below.heap_alloc _ _ _ (by simp; omega), Below.heap_alloc _ _ _ (by simp; omega), Below.heap_alloc _ _ _ (by simp)]
    exact heap_alloc_new w _
  · rw [Below.heap_alloc _ _ _ (by simp), Below.heap_alloc _ _ _ (by simp)]
    exact heap_alloc_at _ _ _ (by simp)
  · rw [Below.heap_alloc _ _ _ (by simp)]
    exact heap_alloc_at _ _ _ (by simp)
  · exact heap_alloc_at _ _ _ (by simp)
  · simp
  · exact ((((Below.refl _ _).alloc (Nat.le_refl _) _).alloc (by simp) _).alloc (by simp; omega) _).alloc (by simp; omega) _

theorem Lay12.next {w wk w' : World} {v u : Nat → Nat} (h : Lay12 w wk v u) (hb : Below wk.heap.size wk w') : Lay12 w w' v u := by
  have hs := h.size
  exact ⟨(hb.block _ (by omega)).trans h.a, (hb.block _ (by omega)).trans h.b, (hb.block _ (by omega)).trans h.r, (hb.block _ (by omega)).trans h.s, Nat.le_trans hs hb.size, h.below.trans (hb.mono (by omega))⟩

/-- Three cells; three zero cells that may be written. -/
theorem row3 {w : World} {b : Nat} {t : TypeId} {v : Nat → Nat} (h : w.heap[b]? = some (.cells #[.int .u64 (v 0 : Nat), .int .u64 (v 1 : Nat), .int .u64 (v 2 : Nat)] t (0, 0))) : w.cell? ⟨b, 0, none⟩ = some (.int .u64 (v 0 : Nat)) ∧ w.cell? ⟨b, 1, none⟩ = some (.int .u64 (v 1 : Nat)) ∧ w.cell? ⟨b, 2, none⟩ = some (.int .u64 (v 2 : Nat)) :=
  ⟨cell_of_row _ _ _ _ _ _ h, cell_of_row _ _ _ _ _ _ h, cell_of_row _ _ _ _ _ _ h⟩
theorem zero3 {w : World} {b : Nat} {t : TypeId} (h : w.heap[b]? = some (.cells #[.int .u64 0, .int .u64 0, .int .u64 0] t (0, 0))) : w.cell? ⟨b, 0, none⟩ = some (.int .u64 0) ∧ w.cell? ⟨b, 1, none⟩ = some (.int .u64 0) ∧ w.cell? ⟨b, 2, none⟩ = some (.int .u64 0) ∧ ∀ o, w.frozen? ⟨b, o, none⟩ = false :=
  ⟨cell_of_row _ _ _ _ _ _ h, cell_of_row _ _ _ _ _ _ h, cell_of_row _ _ _ _ _ _ h, fun o => by simp [World.frozen?, h]⟩

/-- Two numbers lie at q and at q + 1. -/
def S2 (q : Nat) (v u : Nat → Nat) (w' : World) : Prop := w'.cell? ⟨q, 0, none⟩ = some (.int .u64 (v 0 : Nat)) ∧ w'.cell? ⟨q, 1, none⟩ = some (.int .u64 (v 1 : Nat)) ∧ w'.cell? ⟨q, 2, none⟩ = some (.int .u64 (v 2 : Nat)) ∧ w'.cell? ⟨q + 1, 0, none⟩ = some (.int .u64 (u 0 : Nat)) ∧ w'.cell? ⟨q + 1, 1, none⟩ = some (.int .u64 (u 1 : Nat)) ∧ w'.cell? ⟨q + 1, 2, none⟩ = some (.int .u64 (u 2 : Nat))
theorem s2_below {B q : Nat} {v u : Nat → Nat} {x x' : World} (hb : Below B x x') (h : S2 q v u x) (hq : q + 2 ≤ B) : S2 q v u x' := by
  unfold S2 at h ⊢
  rw [hb.cell (by simp; omega), hb.cell (by simp; omega), hb.cell (by simp; omega), hb.cell (by simp; omega), hb.cell (by simp; omega), hb.cell (by simp; omega)]
  exact h
theorem s2_drew {q : Nat} {v u : Nat → Nat} {x : World} (h : S2 q v u x) : S2 q v u x.drew := h
theorem s2_setCell {q : Nat} {v u : Nat → Nat} {x : World} (p : Addr) (y : Value) (h : S2 q v u x) (hq : q + 2 ≤ p.block) : S2 q v u (x.setCell p y) :=
  s2_below ((Below.refl p.block x).setCell (Nat.le_refl _) y) h hq
theorem s2_of {w wk : World} {v u : Nat → Nat} (h : Lay12 w wk v u) : S2 w.heap.size v u wk :=
  ⟨(row3 h.a).1, (row3 h.a).2.1, (row3 h.a).2.2, (row3 h.b).1, (row3 h.b).2.1, (row3 h.b).2.2⟩

set_option maxRecDepth 100000 in
set_option maxHeartbeats 3200000 in
theorem leastByCount12_any (v u : Nat → Nat) (c r : Nat) (hv : W.Words v 3) (hu : W.Words u 3) (hc : c < 9223372036854775808) (hr : r < 9223372036854775808) (w : World) :
    Calls Try.prog 12 #[.agg #[.int .u64 (v 0 : Nat), .int .u64 (v 1 : Nat), .int .u64 (v 2 : Nat)], .agg #[.int .u64 (u 0 : Nat), .int .u64 (u 1 : Nat), .int .u64 (u 2 : Nat)], .int .i64 (c : Nat), .int .i64 (r : Nat)] w fun e w' => e = .returned (.tuple #[.agg #[.int .u64 (lbV v u c r 0 : Nat), .int .u64 (lbV v u c r 1 : Nat), .int .u64 (lbV v u c r 2 : Nat)], .agg #[.int .u64 (lbU v u c r 0 : Nat), .int .u64 (lbU v u c r 1 : Nat), .int .u64 (lbU v u c r 2 : Nat)]]) ∧ Below w.heap.size w w' := by
  have HL : Hid (Lay12 w _ v u) := lay12 w v u
  have HE : Hid (lb v u c r = (decide (0 < c) && !W.isz u && pbl u r v)) := rfl
  have HTT : Hid (lb v u c r = true → ∀ j, lbV v u c r j = W.add3 v (W.prod3 c r) j ∧ lbU v u c r j = W.add3 u (W.word3 c) j) := lb_true
  have HFF : Hid (lb v u c r = false → ∀ j, lbV v u c r j = v j ∧ lbU v u c r j = u j) := lb_false
  have hc64 : c < 18446744073709551616 := by omega
  have hr64 : r < 18446744073709551616 := by omega
  have wc := wrapN c hc64
  have wr := wrapN r hr64
  by_cases h0 : 0 < c
  · have d0 : decide ((0 : Int) < (c : Int)) = true := decide_eq_true (by omega)
    have hz0 : W.isz u = W.isz u := rfl
    rw [decide_eq_true h0, Bool.true_and] at HE
    go_enter Try.func12, Try.ntmps12
    go_wp2_with fail
    generalize ((((w.alloc (.cells #[.int .u64 (v 0 : Nat), .int .u64 (v 1 : Nat), .int .u64 (v 2 : Nat)] 23)).alloc (.cells #[.int .u64 (u 0 : Nat), .int .u64 (u 1 : Nat), .int .u64 (u 2 : Nat)] 23)).alloc (.cells #[.int .u64 0, .int .u64 0, .int .u64 0] 23)).alloc (.cells #[.int .u64 0, .int .u64 0, .int .u64 0] 23)) = W0 at *
    refine (isZero26_any u _).mono ?_
    rintro e w4 ⟨rfl, hb4⟩
    have HL4 : Hid (Lay12 w w4 v u) := HL.out.next hb4
    clear HL hb4
    cases hz : W.isz u with
    | true =>
      rw [hz] at HE
      have hlow := HFF.out (HE.out.trans rfl)
      have HLO := show Hid _ from hlow
      clear hlow HE HFF HTT
      obtain ⟨v0, v1, v2⟩ := row3 HL4.out.a
      obtain ⟨u0, u1, u2⟩ := row3 HL4.out.b
      obtain ⟨z0, z1, z2, zf⟩ := zero3 HL4.out.r
      obtain ⟨y0, y1, y2, yf⟩ := zero3 HL4.out.s
      have HBK : Hid _ := HL4.out.below
      go_wp2
      go_region
      all_goals
        go_wp2_with fail
        exact bodyPost_ret (v := .tuple #[.agg #[.int .u64 (lbV v u c r 0 : Nat), .int .u64 (lbV v u c r 1 : Nat), .int .u64 (lbV v u c r 2 : Nat)], .agg #[.int .u64 (lbU v u c r 0 : Nat), .int .u64 (lbU v u c r 1 : Nat), .int .u64 (lbU v u c r 2 : Nat)]]) (by rw [(HLO.out 0).1, (HLO.out 1).1, (HLO.out 2).1, (HLO.out 0).2, (HLO.out 1).2, (HLO.out 2).2]; simp [results, Try.results12, go_sem, z0, z1, z2, y0, y1, y2]) rfl ⟨rfl, by (repeat (first | with_reducible exact HBK.out | with_reducible refine bl_drew ?_ | with_reducible refine bl_setCell _ _ ?_ ?_)); all_goals (dsimp only; omega)⟩
    | false =>
      rw [hz, Bool.not_false, Bool.true_and] at HE
      obtain ⟨v0, v1, v2⟩ := row3 HL4.out.a
      obtain ⟨u0, u1, u2⟩ := row3 HL4.out.b
      go_wp2_with fail
      refine (productBelow29_any u v r hu hr64 _).mono ?_
      rintro e w5 ⟨rfl, hb5⟩
      have HL5 : Hid (Lay12 w w5 v u) := HL4.out.next hb5
      clear HL4 hb5 v0 v1 v2 u0 u1 u2
      obtain ⟨v0, v1, v2⟩ := row3 HL5.out.a
      obtain ⟨u0, u1, u2⟩ := row3 HL5.out.b
      obtain ⟨z0, z1, z2, zf⟩ := zero3 HL5.out.r
      obtain ⟨y0, y1, y2, yf⟩ := zero3 HL5.out.s
      have HBK : Hid _ := HL5.out.below
      cases hp : pbl u r v with
      | false =>
        rw [hp] at HE
        have hlow := HFF.out HE.out
        have HLO := show Hid _ from hlow
        clear hlow HE HFF HTT
        go_wp2
        go_region
        all_goals
          go_wp2_with fail
          exact bodyPost_ret (v := .tuple #[.agg #[.int .u64 (lbV v u c r 0 : Nat), .int .u64 (lbV v u c r 1 : Nat), .int .u64 (lbV v u c r 2 : Nat)], .agg #[.int .u64 (lbU v u c r 0 : Nat), .int .u64 (lbU v u c r 1 : Nat), .int .u64 (lbU v u c r 2 : Nat)]]) (by rw [(HLO.out 0).1, (HLO.out 1).1, (HLO.out 2).1, (HLO.out 0).2, (HLO.out 1).2, (HLO.out 2).2]; simp [results, Try.results12, go_sem, z0, z1, z2, y0, y1, y2]) rfl ⟨rfl, by (repeat (first | with_reducible exact HBK.out | with_reducible refine bl_drew ?_ | with_reducible refine bl_setCell _ _ ?_ ?_)); all_goals (dsimp only; omega)⟩
      | true =>
        rw [hp] at HE
        have hlow := HTT.out HE.out
        have HLO := show Hid _ from hlow
        clear hlow HE HFF HTT
        have hsz5 := HL5.out.size
        have HS : Hid (S2 w.heap.size v u w5) := s2_of HL5.out
        clear HL5
        have k1 : w.heap.size < w5.heap.size := by omega
        have k2 : w.heap.size + 1 < w5.heap.size := by omega
        have k3 : w.heap.size + 1 + 1 < w5.heap.size := by omega
        have k4 : w.heap.size + 1 + 1 + 1 < w5.heap.size := by omega
        go_wp2_with fail
        go_region_held3 (fun w' => w'.cell? ⟨w.heap.size, 0, none⟩ = some (.int .u64 (v 0 : Nat)) ∧ w'.cell? ⟨w.heap.size, 1, none⟩ = some (.int .u64 (v 1 : Nat)) ∧ w'.cell? ⟨w.heap.size, 2, none⟩ = some (.int .u64 (v 2 : Nat)) ∧ w'.cell? ⟨w.heap.size + 1, 0, none⟩ = some (.int .u64 (u 0 : Nat)) ∧ w'.cell? ⟨w.heap.size + 1, 1, none⟩ = some (.int .u64 (u 1 : Nat)) ∧ w'.cell? ⟨w.heap.size + 1, 2, none⟩ = some (.int .u64 (u 2 : Nat)))
          ((show S2 w.heap.size v u _; (repeat (first | with_reducible exact HS.out | with_reducible refine s2_drew ?_ | with_reducible refine s2_setCell _ _ ?_ ?_ | with_reducible refine s2_below HB7.out ?_ ?_ | with_reducible refine s2_below HB6.out ?_ ?_)); all_goals (first | omega | (simp only [drewSize]; omega))))
          (first
            | (go_at_call 15; refine (addProduct15_any v c r hv hc64 hr64 _).mono ?_; rintro e w6 ⟨rfl, hb6⟩; obtain ⟨hc6, hf6⟩ := bcellM hb6; have HB6 := show Hid _ from hb6; have hsz6 := hb6.size; (try simp at hsz6); (try simp at hc6); (try simp at hf6); clear hb6; (try have j1 : w.heap.size < w6.heap.size := by omega); (try have j2 : w.heap.size + 1 < w6.heap.size := by omega); (try have j3 : w.heap.size + 1 + 1 < w6.heap.size := by omega); (try have j4 : w.heap.size + 1 + 1 + 1 < w6.heap.size := by omega))
            | (go_at_call 16; refine (addWord16_any u c hu hc64 _).mono ?_; rintro e w7 ⟨rfl, hb7⟩; obtain ⟨hc7, hf7⟩ := bcellM hb7; have HB7 := show Hid _ from hb7; have hsz7 := hb7.size; (try simp at hsz7); (try simp at hc7); (try simp at hf7); clear hb7; (try have l1 : w.heap.size < w7.heap.size := by omega); (try have l2 : w.heap.size + 1 < w7.heap.size := by omega); (try have l3 : w.heap.size + 1 + 1 < w7.heap.size := by omega); (try have l4 : w.heap.size + 1 + 1 + 1 < w7.heap.size := by omega)))
        all_goals
          go_wp2_with fail
          exact bodyPost_ret (v := .tuple #[.agg #[.int .u64 (lbV v u c r 0 : Nat), .int .u64 (lbV v u c r 1 : Nat), .int .u64 (lbV v u c r 2 : Nat)], .agg #[.int .u64 (lbU v u c r 0 : Nat), .int .u64 (lbU v u c r 1 : Nat), .int .u64 (lbU v u c r 2 : Nat)]]) (by rw [(HLO.out 0).1, (HLO.out 1).1, (HLO.out 2).1, (HLO.out 0).2, (HLO.out 1).2, (HLO.out 2).2]; simp [results, Try.results12, go_sem, *]) rfl ⟨rfl, by (repeat (first | with_reducible exact HBK.out | with_reducible refine bl_drew ?_ | with_reducible refine bl_setCell _ _ ?_ ?_ | with_reducible refine bl_call HB7.out ?_ ?_ | with_reducible refine bl_call HB6.out ?_ ?_)); all_goals (first | omega | (simp only [drewSize]; omega))⟩
  · have d0 : decide ((0 : Int) < (c : Int)) = false := decide_eq_false (by omega)
    rw [decide_eq_false h0] at HE
    have hlow := HFF.out (HE.out.trans rfl)
    have HLO := show Hid _ from hlow
    clear hlow HE HFF HTT
    go_enter Try.func12, Try.ntmps12
    go_wp2
    generalize ((((w.alloc (.cells #[.int .u64 (v 0 : Nat), .int .u64 (v 1 : Nat), .int .u64 (v 2 : Nat)] 23)).alloc (.cells #[.int .u64 (u 0 : Nat), .int .u64 (u 1 : Nat), .int .u64 (u 2 : Nat)] 23)).alloc (.cells #[.int .u64 0, .int .u64 0, .int .u64 0] 23)).alloc (.cells #[.int .u64 0, .int .u64 0, .int .u64 0] 23)) = W0 at *
    obtain ⟨v0, v1, v2⟩ := row3 HL.out.a
    obtain ⟨u0, u1, u2⟩ := row3 HL.out.b
    obtain ⟨z0, z1, z2, zf⟩ := zero3 HL.out.r
    obtain ⟨y0, y1, y2, yf⟩ := zero3 HL.out.s
    have HBK : Hid _ := HL.out.below
    clear HL
    go_region
    all_goals
      go_wp2_with fail
      exact bodyPost_ret (v := .tuple #[.agg #[.int .u64 (lbV v u c r 0 : Nat), .int .u64 (lbV v u c r 1 : Nat), .int .u64 (lbV v u c r 2 : Nat)], .agg #[.int .u64 (lbU v u c r 0 : Nat), .int .u64 (lbU v u c r 1 : Nat), .int .u64 (lbU v u c r 2 : Nat)]]) (by rw [(HLO.out 0).1, (HLO.out 1).1, (HLO.out 2).1, (HLO.out 0).2, (HLO.out 1).2, (HLO.out 2).2]; simp [results, Try.results12, go_sem, z0, z1, z2, y0, y1, y2]) rfl ⟨rfl, by (repeat (first | with_reducible exact HBK.out | with_reducible refine bl_drew ?_ | with_reducible refine bl_setCell _ _ ?_ ?_)); all_goals (dsimp only; omega)⟩

end Go.Proofs.Qxb6614502a
