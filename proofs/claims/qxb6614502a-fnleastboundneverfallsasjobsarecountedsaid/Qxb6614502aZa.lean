/-
  The law's own long multiplication and comparison of fractions.
-/
import Derived.Test.Qxb6614502aX
namespace Go.Proofs.Qxb6614502a
open Go.RowKit

theorem RS.drewN {W0 wr : World} {pb x i k : Nat} {b P : Nat → Nat} (h : RS W0 wr pb x b i P k) (q : Nat) : RS W0 (wr.drewN q) pb x b i P k :=
  ⟨⟨h.six.row⟩, h.below.trans ⟨rfl, rfl, rfl, Nat.le_refl _, fun _ _ => rfl⟩⟩
theorem RS.next1 {W0 wr : World} {pb x i k : Nat} {b P : Nat → Nat} (h : RS W0 wr pb x b i P k) (hik : i + k < 6) :
    RS W0 (wr.setCell ⟨pb, i + k, none⟩ (.int .u64 (W.mlo ((W.rowS x b i P k).1 (i + k)) x (b k) (W.rowS x b i P k).2 : Nat))) pb x b i P (k + 1) :=
  ⟨h.six.put (i + k) _ hik, h.below.setCell (by simp) _⟩

set_option maxRecDepth 100000 in
set_option maxHeartbeats 1600000 in
theorem fullProduct32_any (a b : Nat → Nat) (ha : W.Words a 3) (hb : W.Words b 3) (w : World) :
    Calls Try.prog 32 #[.agg #[.int .u64 (a 0 : Nat), .int .u64 (a 1 : Nat), .int .u64 (a 2 : Nat)], .agg #[.int .u64 (b 0 : Nat), .int .u64 (b 1 : Nat), .int .u64 (b 2 : Nat)]] w fun e w' =>
      e = .returned (.agg #[.int .u64 (W.prd a b 0 : Nat), .int .u64 (W.prd a b 1 : Nat), .int .u64 (W.prd a b 2 : Nat), .int .u64 (W.prd a b 3 : Nat), .int .u64 (W.prd a b 4 : Nat), .int .u64 (W.prd a b 5 : Nat)]) ∧ Below w.heap.size w w' := by
  have HL : Hid (Lay w _ 23 a b) := lay_make w 23 a b
  go_enter Try.func32, Try.ntmps32
  go_wp2
  unfold Z6 at HL
  generalize ((((w.alloc (.cells #[.int .u64 (a 0 : Nat), .int .u64 (a 1 : Nat), .int .u64 (a 2 : Nat)] 23)).alloc (.cells #[.int .u64 (b 0 : Nat), .int .u64 (b 1 : Nat), .int .u64 (b 2 : Nat)] 23)).alloc (.cells #[.int .u64 0, .int .u64 0, .int .u64 0, .int .u64 0, .int .u64 0, .int .u64 0] 62)).alloc (.cells #[.int .u64 0, .int .u64 0, .int .u64 0, .int .u64 0, .int .u64 0, .int .u64 0] 62)) = W0 at *
  go_loopw [6] (fun v wr => ∃ i : Nat, i ≤ 3 ∧ v = .int .i64 i ∧ Six wr (w.heap.size + 1 + 1 + 1) (W.rows a b i) ∧ Below (w.heap.size + 1 + 1 + 1) W0 wr) (fun v _ => 3 - (intOf v).toNat)
  case atStart => exact ⟨0, by omega, rfl, HL.out.six, Below.refl _ _⟩
  case round =>
    obtain ⟨i, hi, rfl, hsix, hbel⟩ := hrel
    have HS : Hid (Six wr (w.heap.size + 1 + 1 + 1) (W.rows a b i)) := hsix
    have HB : Hid (Below (w.heap.size + 1 + 1 + 1) W0 wr) := hbel
    have HBA : Hid (∀ j, j < 3 → wr.cell? ⟨w.heap.size, j, none⟩ = some (.int .u64 (a j : Nat))) := cells3 ((hbel.block _ (by omega)).trans HL.out.a)
    have HBB : Hid (∀ j, j < 3 → wr.cell? ⟨w.heap.size + 1, j, none⟩ = some (.int .u64 (b j : Nat))) := cells3 ((hbel.block _ (by omega)).trans HL.out.b)
    clear hsix hbel
    by_cases hlt : i < 3
    · have hi1 : (0 : Int) ≤ (i : Int) := by omega
      have hi2 : (i : Int) < 3 := by omega
      go_wp2
      have hax := ha i hlt
      have hrw := W.rows_words a b ha hb i (by omega)
      go_loopw [7, 8] (fun c v wq => ∃ k : Nat, k ≤ 3 ∧ v = .int .i64 k ∧ c = .int .u64 ((W.rowS (a i) b i (W.rows a b i) k).2 : Nat) ∧ RS W0 wq (w.heap.size + 1 + 1 + 1) (a i) b i (W.rows a b i) k) (fun _ v _ => 3 - (intOf v).toNat)
      case atStart => exact ⟨0, by omega, rfl, rfl, HS.out, HB.out⟩
      case round =>
        rename World => wq
        obtain ⟨k, hk, rfl, rfl, hrs⟩ := hrel
        have HR : Hid (RS W0 wq (w.heap.size + 1 + 1 + 1) (a i) b i (W.rows a b i) k) := hrs
        have hwd := W.rowS_words (a i) b i (W.rows a b i) hax hb hrw (by omega) k hk
        obtain ⟨hw1, hw2⟩ := hwd
        by_cases hkt : k < 3
        · have hcell := hrs.six.cell (i + k) (by omega)
          have hfree := hrs.six.free (i + k)
          have hlp := hrs.six.lt
          clear hrs
          have HN := fun q => (HR.out.drewN q).next1 (by omega : i + k < 6)
          have hpk := hw1 (i + k) (by omega)
          have hbk := hb k hkt
          have HS1 := W.step_lo ((W.rowS (a i) b i (W.rows a b i) k).1 (i + k)) (a i) (b k) (W.rowS (a i) b i (W.rows a b i) k).2
          have HC1 := carry_step ((W.rowS (a i) b i (W.rows a b i) k).1 (i + k)) (a i) (b k) (W.rowS (a i) b i (W.rows a b i) k).2 hpk hax hbk hw2
          have e2 : (W.rowS (a i) b i (W.rows a b i) (k + 1)).2 = W.mhi ((W.rowS (a i) b i (W.rows a b i) k).1 (i + k)) (a i) (b k) (W.rowS (a i) b i (W.rows a b i) k).2 := rfl
          rw [← e2] at HC1
          have HN' : Hid _ := HN
          have HS1' : Hid _ := HS1
          have HC1' : Hid _ := HC1
          clear HN HS1 HC1 e2 hw1
          generalize (W.rowS (a i) b i (W.rows a b i) k).1 (i + k) = p at *
          generalize hcc : (W.rowS (a i) b i (W.rows a b i) k).2 = c at *
          clear hcc
          have cb := (Below.cell HR.out.below (p := ⟨w.heap.size + 1, k, none⟩) (by dsimp only; omega)).trans ((Below.cell HB.out (p := ⟨w.heap.size + 1, k, none⟩) (by dsimp only; omega)).symm.trans (HBB.out k hkt))
          have ca := (Below.cell HR.out.below (p := ⟨w.heap.size, i, none⟩) (by dsimp only; omega)).trans ((Below.cell HB.out (p := ⟨w.heap.size, i, none⟩) (by dsimp only; omega)).symm.trans (HBA.out i hlt))
          have hk1 : (0 : Int) ≤ (k : Int) := by omega
          have hk2 : (k : Int) < 3 := by omega
          have hl := W.lo_lt (a i) (b k)
          have hsl := W.sm_lt p (W.lo (a i) (b k)) 0
          go_wp2
          go_quiet ((go_at_call 30; exact Calls.quiet_of_same (mul64_any (a i) (b k) hax hbk _)))
          go_wp2_with fail
          refine (add64_0 p (W.lo (a i) (b k)) hpk hl _).mono ?_
          rintro e w4 ⟨rfl, hw⟩
          rw [hw]
          clear hw
          go_wp2_with fail
          refine (add64_0 (W.sm p (W.lo (a i) (b k)) 0) c hsl hw2 _).mono ?_
          rintro e w4 ⟨rfl, hw⟩
          rw [hw]
          clear hw
          go_wp2
          go_roundw
          case rel => exact ⟨k + 1, by omega, by go_num, by rw [HC1'.out], by rw [HS1'.out]; exact HN'.out _⟩
          case measure => simp [intOf]; omega
        · have hk3 : k = 3 := by omega
          subst hk3
          have hcell := hrs.six.cell (i + 3) (by omega)
          have hfree := hrs.six.free (i + 3)
          have HN : Hid (Six (wq.setCell ⟨w.heap.size + 1 + 1 + 1, i + 3, none⟩ (.int .u64 ((W.rowS (a i) b i (W.rows a b i) 3).2 : Nat))) (w.heap.size + 1 + 1 + 1) (W.rows a b (i + 1))) := hrs.six.put (i + 3) _ (by omega)
          have HB2 : Hid (Below (w.heap.size + 1 + 1 + 1) W0 (wq.setCell ⟨w.heap.size + 1 + 1 + 1, i + 3, none⟩ (.int .u64 ((W.rowS (a i) b i (W.rows a b i) 3).2 : Nat)))) := hrs.below.setCell (by simp) _
          clear hrs hw1 hw2
          generalize (W.rowS (a i) b i (W.rows a b i) 3).2 = c at *
          generalize (W.rowS (a i) b i (W.rows a b i) 3).1 (i + 3) = p at *
          go_wp2
          go_roundw
          case rel => exact ⟨i + 1, by omega, by go_num, HN.out, HB2.out⟩
          case measure => simp [intOf]; omega
    · have hi3 : i = 3 := by omega
      subst hi3
      have c0 : wr.cell? ⟨w.heap.size + 1 + 1 + 1, 0, none⟩ = some (.int .u64 (W.prd a b 0 : Nat)) := HS.out.cell 0 (by omega)
      have c1 : wr.cell? ⟨w.heap.size + 1 + 1 + 1, 1, none⟩ = some (.int .u64 (W.prd a b 1 : Nat)) := HS.out.cell 1 (by omega)
      have c2 : wr.cell? ⟨w.heap.size + 1 + 1 + 1, 2, none⟩ = some (.int .u64 (W.prd a b 2 : Nat)) := HS.out.cell 2 (by omega)
      have c3 : wr.cell? ⟨w.heap.size + 1 + 1 + 1, 3, none⟩ = some (.int .u64 (W.prd a b 3 : Nat)) := HS.out.cell 3 (by omega)
      have c4 : wr.cell? ⟨w.heap.size + 1 + 1 + 1, 4, none⟩ = some (.int .u64 (W.prd a b 4 : Nat)) := HS.out.cell 4 (by omega)
      have c5 : wr.cell? ⟨w.heap.size + 1 + 1 + 1, 5, none⟩ = some (.int .u64 (W.prd a b 5 : Nat)) := HS.out.cell 5 (by omega)
      have hres : wr.heap[w.heap.size + 1 + 1]? = some (.cells Z6 62 (0, 0)) := (HB.out.block _ (by omega)).trans HL.out.res
      have r0 : wr.cell? ⟨w.heap.size + 1 + 1, 0, none⟩ = some (.int .u64 0) := cell_of_row wr _ _ _ _ _ hres
      have r1 : wr.cell? ⟨w.heap.size + 1 + 1, 1, none⟩ = some (.int .u64 0) := cell_of_row wr _ _ _ _ _ hres
      have r2 : wr.cell? ⟨w.heap.size + 1 + 1, 2, none⟩ = some (.int .u64 0) := cell_of_row wr _ _ _ _ _ hres
      have r3 : wr.cell? ⟨w.heap.size + 1 + 1, 3, none⟩ = some (.int .u64 0) := cell_of_row wr _ _ _ _ _ hres
      have r4 : wr.cell? ⟨w.heap.size + 1 + 1, 4, none⟩ = some (.int .u64 0) := cell_of_row wr _ _ _ _ _ hres
      have r5 : wr.cell? ⟨w.heap.size + 1 + 1, 5, none⟩ = some (.int .u64 0) := cell_of_row wr _ _ _ _ _ hres
      have rf : ∀ j, wr.frozen? ⟨w.heap.size + 1 + 1, j, none⟩ = false := fun j => by simp [World.frozen?, hres]
      have HW : Hid (Below w.heap.size w wr) := HL.out.below.trans (HB.out.mono (by omega))
      clear hres HBA HBB
      go_wp2
      exact bodyPost_ret (v := .agg #[.int .u64 (W.prd a b 0 : Nat), .int .u64 (W.prd a b 1 : Nat), .int .u64 (W.prd a b 2 : Nat), .int .u64 (W.prd a b 3 : Nat), .int .u64 (W.prd a b 4 : Nat), .int .u64 (W.prd a b 5 : Nat)]) (by simp [results, Try.results32, go_sem, r0, r1, r2, r3, r4, r5]) rfl ⟨rfl, ((((((HW.out.setCell (by simp; omega) _).setCell (by simp; omega) _).setCell (by simp; omega) _).setCell (by simp; omega) _).setCell (by simp; omega) _).setCell (by simp; omega) _)⟩


set_option maxRecDepth 100000 in
set_option maxHeartbeats 400000 in
theorem divisorOf33_any (u : Nat → Nat) (w : World) : Calls Try.prog 33 #[.agg #[.int .u64 (u 0 : Nat), .int .u64 (u 1 : Nat), .int .u64 (u 2 : Nat)]] w fun e w' => e = .returned (.agg #[.int .u64 (W.dv u 0 : Nat), .int .u64 (W.dv u 1 : Nat), .int .u64 (W.dv u 2 : Nat)]) ∧ Below w.heap.size w w' := by
  have HT : Hid (W.isz u = true → ∀ j, W.dv u j = W.word3 1 j) := W.dv_true
  have HF : Hid (W.isz u = false → ∀ j, W.dv u j = u j) := W.dv_false
  go_enter Try.func33, Try.ntmps33
  go_wp2_with fail
  refine (isZero26_any u _).mono ?_
  rintro e w4 ⟨rfl, hb4⟩
  have HB : Hid (Below w.heap.size w w4) := (((Below.refl _ _).alloc (Nat.le_refl _) _).alloc (by simp) _).trans (hb4.mono (by simp; omega))
  obtain ⟨u0, u1, u2⟩ := row3 (v := u) (t := 23) ((hb4.block w.heap.size (by simp; omega)).trans ((Below.heap_alloc _ _ _ (by simp)).trans (heap_alloc_new w _)))
  obtain ⟨z0, z1, z2, zf⟩ := zero3 (t := 23) ((hb4.block (w.heap.size + 1) (by simp)).trans (heap_alloc_at _ _ _ (by simp)))
  clear hb4
  cases hz : W.isz u with
  | true =>
    have HD := show Hid _ from HT.out hz
    clear HT HF hz
    go_wp2
    exact bodyPost_ret (v := .agg #[.int .u64 1, .int .u64 0, .int .u64 0]) (by simp [results, Try.results33, go_sem, z0, z1, z2]) rfl ⟨by rw [HD.out, HD.out, HD.out]; rfl, ((HB.out.setCell (by simp) _).setCell (by simp) _).setCell (by simp) _⟩
  | false =>
    have HD := show Hid _ from HF.out hz
    clear HT HF hz
    go_wp2
    exact bodyPost_ret (v := .agg #[.int .u64 (u 0 : Nat), .int .u64 (u 1 : Nat), .int .u64 (u 2 : Nat)]) (by simp [results, Try.results33, go_sem, z0, z1, z2]) rfl ⟨by rw [HD.out, HD.out, HD.out], ((HB.out.setCell (by simp) _).setCell (by simp) _).setCell (by simp) _⟩

set_option maxRecDepth 100000 in
set_option maxHeartbeats 3200000 in
theorem compareFractions17_any (a b c d : Nat → Nat) (ha : W.Words a 3) (hb : W.Words b 3) (hc : W.Words c 3) (hd : W.Words d 3) (w : World) :
    Calls Try.prog 17 #[.agg #[.int .u64 (a 0 : Nat), .int .u64 (a 1 : Nat), .int .u64 (a 2 : Nat)], .agg #[.int .u64 (b 0 : Nat), .int .u64 (b 1 : Nat), .int .u64 (b 2 : Nat)], .agg #[.int .u64 (c 0 : Nat), .int .u64 (c 1 : Nat), .int .u64 (c 2 : Nat)], .agg #[.int .u64 (d 0 : Nat), .int .u64 (d 1 : Nat), .int .u64 (d 2 : Nat)]] w fun e w' => e = .returned (.int .i64 (cmpR a b c d)) ∧ Below w.heap.size w w' := by
  have HS0 := s12_start w 23 a b c d
  have hsz0 : w.heap.size + 4 ≤ ((((w.alloc (.cells #[.int .u64 (a 0 : Nat), .int .u64 (a 1 : Nat), .int .u64 (a 2 : Nat)] 23)).alloc (.cells #[.int .u64 (b 0 : Nat), .int .u64 (b 1 : Nat), .int .u64 (b 2 : Nat)] 23)).alloc (.cells #[.int .u64 (c 0 : Nat), .int .u64 (c 1 : Nat), .int .u64 (c 2 : Nat)] 23)).alloc (.cells #[.int .u64 (d 0 : Nat), .int .u64 (d 1 : Nat), .int .u64 (d 2 : Nat)] 23)).heap.size := by simp
  have HB0 : Hid (Below w.heap.size w ((((w.alloc (.cells #[.int .u64 (a 0 : Nat), .int .u64 (a 1 : Nat), .int .u64 (a 2 : Nat)] 23)).alloc (.cells #[.int .u64 (b 0 : Nat), .int .u64 (b 1 : Nat), .int .u64 (b 2 : Nat)] 23)).alloc (.cells #[.int .u64 (c 0 : Nat), .int .u64 (c 1 : Nat), .int .u64 (c 2 : Nat)] 23)).alloc (.cells #[.int .u64 (d 0 : Nat), .int .u64 (d 1 : Nat), .int .u64 (d 2 : Nat)] 23))) := ((((Below.refl _ _).alloc (Nat.le_refl _) _).alloc (by simp) _).alloc (by simp; omega) _).alloc (by simp; omega) _
  have HCR : Hid (cmpR a b c d = W.cmpN (W.prd a (W.dv d)) (W.prd c (W.dv b)) 6) := rfl
  go_enter Try.func17, Try.ntmps17
  go_wp2
  generalize ((((w.alloc (.cells #[.int .u64 (a 0 : Nat), .int .u64 (a 1 : Nat), .int .u64 (a 2 : Nat)] 23)).alloc (.cells #[.int .u64 (b 0 : Nat), .int .u64 (b 1 : Nat), .int .u64 (b 2 : Nat)] 23)).alloc (.cells #[.int .u64 (c 0 : Nat), .int .u64 (c 1 : Nat), .int .u64 (c 2 : Nat)] 23)).alloc (.cells #[.int .u64 (d 0 : Nat), .int .u64 (d 1 : Nat), .int .u64 (d 2 : Nat)] 23)) = W0 at *
  have HS : Hid (S12 w.heap.size a b c d W0) := HS0
  clear HS0
  go_cut [9] (fun vv wx => ∃ g : Nat, vv = .pointer (some ⟨g, 0, none⟩) ∧ g < wx.heap.size ∧ At6 wx g (W.prd a (W.dv d)) ∧ Below W0.heap.size W0 wx)
  case first =>
    go_region_held3 (fun w' => w'.cell? ⟨w.heap.size, 0, none⟩ = some (.int .u64 (a 0 : Nat)) ∧ w'.cell? ⟨w.heap.size, 1, none⟩ = some (.int .u64 (a 1 : Nat)) ∧ w'.cell? ⟨w.heap.size, 2, none⟩ = some (.int .u64 (a 2 : Nat)) ∧ w'.cell? ⟨w.heap.size + 1, 0, none⟩ = some (.int .u64 (b 0 : Nat)) ∧ w'.cell? ⟨w.heap.size + 1, 1, none⟩ = some (.int .u64 (b 1 : Nat)) ∧ w'.cell? ⟨w.heap.size + 1, 2, none⟩ = some (.int .u64 (b 2 : Nat)) ∧ w'.cell? ⟨w.heap.size + 1 + 1, 0, none⟩ = some (.int .u64 (c 0 : Nat)) ∧ w'.cell? ⟨w.heap.size + 1 + 1, 1, none⟩ = some (.int .u64 (c 1 : Nat)) ∧ w'.cell? ⟨w.heap.size + 1 + 1, 2, none⟩ = some (.int .u64 (c 2 : Nat)) ∧ w'.cell? ⟨w.heap.size + 1 + 1 + 1, 0, none⟩ = some (.int .u64 (d 0 : Nat)) ∧ w'.cell? ⟨w.heap.size + 1 + 1 + 1, 1, none⟩ = some (.int .u64 (d 1 : Nat)) ∧ w'.cell? ⟨w.heap.size + 1 + 1 + 1, 2, none⟩ = some (.int .u64 (d 2 : Nat)))
      ((show S12 w.heap.size a b c d _; (repeat (first | with_reducible exact HS.out | with_reducible refine s12_drew ?_ | with_reducible refine s12_alloc _ ?_ ?_ | with_reducible refine s12_setCell _ _ ?_ ?_ | with_reducible refine s12_below HB4.out ?_ ?_ | with_reducible refine s12_below HB3.out ?_ ?_)); all_goals (first | omega | (simp only [drewSize, allocSize]; omega))))
      (first
        | (go_at_call 33; refine (divisorOf33_any d _).mono ?_; rintro e w3 ⟨rfl, hb3⟩; obtain ⟨hc3, hf3⟩ := bcellM hb3; have HB3 := show Hid _ from hb3; have hsz3 := hb3.size; (try simp at hsz3); (try simp at hc3); (try simp at hf3); clear hb3; (try have z3 : W0.heap.size < w3.heap.size := by omega))
        | (go_at_call 32; refine (fullProduct32_any a (W.dv d) ha (W.dv_words hd) _).mono ?_; rintro e w4 ⟨rfl, hb4⟩; obtain ⟨hc4, hf4⟩ := bcellM hb4; have HB4 := show Hid _ from hb4; have hsz4 := hb4.size; (try simp at hsz4); (try simp at hc4); (try simp at hf4); clear hb4; (try have z4 : w3.heap.size < w4.heap.size := by omega); (try have z6 : W0.heap.size < w4.heap.size := by omega)))
    all_goals
      go_wp2_with fail
      go_meet
      case rel =>
        refine ⟨_, rfl, ?_, ?_, ?_⟩
        · first | (simp only [allocSize, setSize]; omega) | (simp; omega) | simp
        all_goals ((repeat (first
          | with_reducible exact Below.refl _ _
          | with_reducible refine at6_six ?_ ?_ ?_ ?_ ?_ ?_
          | with_reducible refine at6_new _ ?_
          | with_reducible refine at6_alloc _ ?_ ?_
          | with_reducible refine bl_drew ?_
          | with_reducible refine bl_alloc _ ?_ ?_
          | with_reducible refine bl_setCell _ _ ?_ ?_
          | with_reducible refine bl_call HB4.out ?_ ?_
          | with_reducible refine bl_call HB3.out ?_ ?_)); all_goals (first | omega | (simp only [drewSize, allocSize]; omega) | (dsimp only; omega) | (simp [go_sem, *]; done)))
  case rest =>
    obtain ⟨g9, rfl, hz9, h9, hbc⟩ := hcut
    have H9 : Hid _ := h9
    replace HS : Hid (S12 w.heap.size a b c d wc) := s12_below hbc HS.out hsz0
    replace HB0 : Hid (Below w.heap.size w wc) := HB0.out.trans (hbc.mono (by omega))
    replace hsz0 : w.heap.size + 4 ≤ wc.heap.size := Nat.le_trans hsz0 hbc.size
    clear h9 hbc
    rename World => W1
    go_wp2_with fail
    go_cut [10] (fun vv wx => ∃ g : Nat, vv = .pointer (some ⟨g, 0, none⟩) ∧ g < wx.heap.size ∧ At6 wx g (W.prd c (W.dv b)) ∧ Below W1.heap.size W1 wx)
    case first =>
      go_region_held3 (fun w' => w'.cell? ⟨w.heap.size, 0, none⟩ = some (.int .u64 (a 0 : Nat)) ∧ w'.cell? ⟨w.heap.size, 1, none⟩ = some (.int .u64 (a 1 : Nat)) ∧ w'.cell? ⟨w.heap.size, 2, none⟩ = some (.int .u64 (a 2 : Nat)) ∧ w'.cell? ⟨w.heap.size + 1, 0, none⟩ = some (.int .u64 (b 0 : Nat)) ∧ w'.cell? ⟨w.heap.size + 1, 1, none⟩ = some (.int .u64 (b 1 : Nat)) ∧ w'.cell? ⟨w.heap.size + 1, 2, none⟩ = some (.int .u64 (b 2 : Nat)) ∧ w'.cell? ⟨w.heap.size + 1 + 1, 0, none⟩ = some (.int .u64 (c 0 : Nat)) ∧ w'.cell? ⟨w.heap.size + 1 + 1, 1, none⟩ = some (.int .u64 (c 1 : Nat)) ∧ w'.cell? ⟨w.heap.size + 1 + 1, 2, none⟩ = some (.int .u64 (c 2 : Nat)) ∧ w'.cell? ⟨w.heap.size + 1 + 1 + 1, 0, none⟩ = some (.int .u64 (d 0 : Nat)) ∧ w'.cell? ⟨w.heap.size + 1 + 1 + 1, 1, none⟩ = some (.int .u64 (d 1 : Nat)) ∧ w'.cell? ⟨w.heap.size + 1 + 1 + 1, 2, none⟩ = some (.int .u64 (d 2 : Nat)))
        ((show S12 w.heap.size a b c d _; (repeat (first | with_reducible exact HS.out | with_reducible refine s12_drew ?_ | with_reducible refine s12_alloc _ ?_ ?_ | with_reducible refine s12_setCell _ _ ?_ ?_ | with_reducible refine s12_below HB4.out ?_ ?_ | with_reducible refine s12_below HB3.out ?_ ?_)); all_goals (first | omega | (simp only [drewSize, allocSize]; omega))))
        (first
          | (go_at_call 33; refine (divisorOf33_any b _).mono ?_; rintro e w3 ⟨rfl, hb3⟩; obtain ⟨hc3, hf3⟩ := bcellM hb3; have HB3 := show Hid _ from hb3; have hsz3 := hb3.size; (try simp at hsz3); (try simp at hc3); (try simp at hf3); clear hb3; (try have z3 : W1.heap.size < w3.heap.size := by omega))
          | (go_at_call 32; refine (fullProduct32_any c (W.dv b) hc (W.dv_words hb) _).mono ?_; rintro e w4 ⟨rfl, hb4⟩; obtain ⟨hc4, hf4⟩ := bcellM hb4; have HB4 := show Hid _ from hb4; have hsz4 := hb4.size; (try simp at hsz4); (try simp at hc4); (try simp at hf4); clear hb4; (try have z4 : w3.heap.size < w4.heap.size := by omega); (try have z6 : W1.heap.size < w4.heap.size := by omega)))
      all_goals
        go_wp2_with fail
        go_meet
        case rel =>
          refine ⟨_, rfl, ?_, ?_, ?_⟩
          · first | (simp only [allocSize, setSize]; omega) | (simp; omega) | simp
          all_goals ((repeat (first
            | with_reducible exact Below.refl _ _
            | with_reducible refine at6_six ?_ ?_ ?_ ?_ ?_ ?_
            | with_reducible refine at6_new _ ?_
            | with_reducible refine at6_alloc _ ?_ ?_
            | with_reducible refine bl_drew ?_
            | with_reducible refine bl_alloc _ ?_ ?_
            | with_reducible refine bl_setCell _ _ ?_ ?_
            | with_reducible refine bl_call HB4.out ?_ ?_
            | with_reducible refine bl_call HB3.out ?_ ?_)); all_goals (first | omega | (simp only [drewSize, allocSize]; omega) | (dsimp only; omega) | (simp [go_sem, *]; done)))
    case rest =>
      obtain ⟨g10, rfl, hz10, h10, hbc⟩ := hcut
      have h9 : At6 wc g9 (W.prd a (W.dv d)) := fun j hj => (Below.cell hbc (p := ⟨g9, j, none⟩) hz9).trans (H9.out j hj)
      have HBC : Hid (Below w.heap.size w wc) := HB0.out.trans (hbc.mono (by omega))
      clear hbc HB0 HS hsz0 H9 hz9 hz10
      go_wp2
      go_loopw [11] (fun v wr => ∃ n : Nat, n ≤ 6 ∧ v = .int .i64 ((n : Int) - 1) ∧ Hid (W.cmpN (W.prd a (W.dv d)) (W.prd c (W.dv b)) 6 = W.cmpN (W.prd a (W.dv d)) (W.prd c (W.dv b)) n) ∧ At6 wr g9 (W.prd a (W.dv d)) ∧ At6 wr g10 (W.prd c (W.dv b)) ∧ Hid (Below w.heap.size w wr)) (fun v _ => (intOf v + 1).toNat)
      case atStart => exact ⟨6, by omega, rfl, rfl, h9, h10, HBC⟩
      case round =>
        clear h9 h10 HBC
        obtain ⟨n, hn, rfl, HN, h9, h10, HBC⟩ := hrel
        by_cases hlt : 0 < n
        · obtain ⟨m, rfl⟩ : ∃ m, n = m + 1 := ⟨n - 1, by omega⟩
          have c9 := h9 m (by omega)
          have c10 := h10 m (by omega)
          have hi1 : (0 : Int) ≤ (m : Int) := by omega
          have hi2 : (m : Int) < 6 := by omega
          have ei : ((m + 1 : Nat) : Int) - 1 = (m : Int) := by omega
          rw [ei]
          clear ei
          have HC : Hid (W.cmpN (W.prd a (W.dv d)) (W.prd c (W.dv b)) (m + 1) = if W.prd a (W.dv d) m < W.prd c (W.dv b) m then -1 else if W.prd c (W.dv b) m < W.prd a (W.dv d) m then 1 else W.cmpN (W.prd a (W.dv d)) (W.prd c (W.dv b)) m) := rfl
          by_cases t1 : W.prd a (W.dv d) m < W.prd c (W.dv b) m
          · have e1 : decide (((W.prd a (W.dv d) m : Nat) : Int) < ((W.prd c (W.dv b) m : Nat) : Int)) = true := decide_eq_true (by omega)
            have HR : Hid (W.cmpN (W.prd a (W.dv d)) (W.prd c (W.dv b)) 6 = -1) := by show _ = _; rw [HN.out, HC.out, if_pos t1]
            go_wp2
            go_quiet (fail)
            go_wp2
            go_ret
            exact ⟨by rw [HCR.out, HR.out]; rfl, HBC.out.trans ⟨rfl, rfl, rfl, Nat.le_refl _, fun _ _ => rfl⟩⟩
          · by_cases t2 : W.prd c (W.dv b) m < W.prd a (W.dv d) m
            · have e1 : decide (((W.prd a (W.dv d) m : Nat) : Int) < ((W.prd c (W.dv b) m : Nat) : Int)) = false := decide_eq_false (by omega)
              have e2 : decide (((W.prd c (W.dv b) m : Nat) : Int) < ((W.prd a (W.dv d) m : Nat) : Int)) = true := decide_eq_true (by omega)
              have HR : Hid (W.cmpN (W.prd a (W.dv d)) (W.prd c (W.dv b)) 6 = 1) := by show _ = _; rw [HN.out, HC.out, if_neg t1, if_pos t2]
              go_wp2
              go_quiet (fail)
              go_wp2
              go_quiet (fail)
              go_wp2
              go_ret
              exact ⟨by rw [HCR.out, HR.out]; rfl, HBC.out.trans ⟨rfl, rfl, rfl, Nat.le_refl _, fun _ _ => rfl⟩⟩
            · have e1 : decide (((W.prd a (W.dv d) m : Nat) : Int) < ((W.prd c (W.dv b) m : Nat) : Int)) = false := decide_eq_false (by omega)
              have e2 : decide (((W.prd c (W.dv b) m : Nat) : Int) < ((W.prd a (W.dv d) m : Nat) : Int)) = false := decide_eq_false (by omega)
              have HR : Hid (W.cmpN (W.prd a (W.dv d)) (W.prd c (W.dv b)) 6 = W.cmpN (W.prd a (W.dv d)) (W.prd c (W.dv b)) m) := by show _ = _; rw [HN.out, HC.out, if_neg t1, if_neg t2]
              go_wp2
              go_quiet (fail)
              go_wp2
              go_quiet (fail)
              go_wp2
              go_roundw
              case rel => exact ⟨m, by omega, rfl, HR, h9, h10, HBC.out.trans ⟨rfl, rfl, rfl, Nat.le_refl _, fun _ _ => rfl⟩⟩
              case measure => simp [intOf]
        · have hn0 : n = 0 := by omega
          subst hn0
          go_wp2
          go_ret
          exact ⟨by rw [HCR.out, HN.out]; rfl, HBC.out⟩


end Go.Proofs.Qxb6614502a
