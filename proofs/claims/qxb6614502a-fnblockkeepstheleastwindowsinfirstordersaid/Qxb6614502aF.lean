/-
  FnBlocksAnswersAlikeInEitherOrder: the walk.
-/
import Derived.Test.Qxb6614502aE
namespace Go.Proofs.Qxb6614502a
open Go.RowKit

/-- A row of n numbers at block ob, its first k those of f; below ob the world is as w was. -/
structure CP (w wr : World) (ob n : Nat) (f : Nat → Int) (k : Nat) : Prop where
  row : ∃ cur : Array Value, wr.heap[ob]? = some (.cells cur 2 (0, 0)) ∧ cur.size = n ∧ ∀ j, j < k → cur[j]? = some (.int .i64 (f j))
  below : Below ob w wr

theorem CP.start {w w' : World} {n : Nat} {f : Nat → Int} {xs : List Value} (h : w'.ownsRow w.heap.size 2 1 (.slice (some ⟨w.heap.size, 0, none⟩) n n) n xs) (hg : w.grownBy w' none) : CP w w' w.heap.size n f 0 := by
  refine ⟨?_, ⟨hg.os, hg.tape, hg.output, hg.size, fun k hk => hg.block k hk (by simp)⟩⟩
  rcases h.2 with ⟨h, _⟩ | ⟨g, cap, cur, hv, _, hrow, _, _, hs, _⟩
  · simp at h
  · simp at hv
    obtain ⟨rfl, rfl⟩ := hv
    exact ⟨cur, hrow, by simpa using hs, fun j hj => by omega⟩

theorem CP.spot {w wr : World} {ob n k : Nat} {f : Nat → Int} (h : CP w wr ob n f k) (j : Nat) (hj : j < n) : (∃ v, wr.cell? ⟨ob, j, none⟩ = some v) ∧ wr.frozen? ⟨ob, j, none⟩ = false := by
  obtain ⟨cur, hrow, hs, _⟩ := h.row
  exact ⟨⟨cur[j]'(by omega), by rw [cell_of_row wr ob _ cur 2 _ hrow, Array.getElem?_eq_getElem (by omega)]⟩, frozen_of_row hrow⟩

theorem CP.put {w wr : World} {ob n k : Nat} {f : Nat → Int} (h : CP w wr ob n f k) (hk : k < n) : CP w (wr.setCell ⟨ob, k, none⟩ (.int .i64 (f k))) ob n f (k + 1) := by
  obtain ⟨⟨cur, hrow, hs, hc⟩, hb⟩ := h
  refine ⟨⟨_, block_setCell (o := k) (.int .i64 (f k)) hrow, by simpa using hs, fun j hj => ?_⟩, hb.setCell (by simp) _⟩
  rw [Array.getElem?_setIfInBounds]
  by_cases e : k = j
  · subst e; rw [if_pos rfl, if_pos (by omega)]
  · rw [if_neg e]; exact hc j (by omega)

theorem CP.cells {w wr : World} {ob n : Nat} {f : Nat → Int} (h : CP w wr ob n f n) (j : Nat) (hj : j < n) : wr.cell? ⟨ob, j, none⟩ = some (.int .i64 (f j)) := by
  obtain ⟨⟨cur, hrow, hs, hc⟩, hb⟩ := h
  rw [cell_of_row wr ob _ cur 2 _ hrow]; exact hc j hj

theorem CP.lt {w wr : World} {ob n k : Nat} {f : Nat → Int} (h : CP w wr ob n f k) : ob < wr.heap.size := by
  obtain ⟨⟨cur, hrow, hs, hc⟩, hb⟩ := h
  exact lt_of_block hrow

theorem Try.info2 : (Try.prog.info? 2).map (fun i => (i.zero, i.size, i.bytes)) = some (some (.int .i64 0), 1, 8) := by kernel_rfl

/-- A window of the script that counts: no wider than the most free, and under (a, b). -/
def hits (most a b : Int) (p : Int × Int) : Bool := decide (p.1 ≤ most) && lew p.1 p.2 a b

/-- A script's cells lie there, from place so of block sb on. -/
structure Scr (w : World) (sb so : Nat) (S : List (Int × Int)) : Prop where
  lt : sb < w.heap.size
  x : ∀ j, j < S.length → w.cell? ⟨sb, so + j * 2, none⟩ = some (.int .i64 (fx S j))
  y : ∀ j, j < S.length → w.cell? ⟨sb, so + j * 2 + 1, none⟩ = some (.int .i64 (fy S j))

theorem Scr.below {w w' : World} {sb so B : Nat} {S : List (Int × Int)} (h : Scr w sb so S) (hb : Below B w w') (hB : w.heap.size ≤ B) : Scr w' sb so S :=
  ⟨Nat.lt_of_lt_of_le h.lt hb.size, fun j hj => ((bcell hb).1 _ _ (Nat.lt_of_lt_of_le h.lt hB)).trans (h.x j hj), fun j hj => ((bcell hb).1 _ _ (Nat.lt_of_lt_of_le h.lt hB)).trans (h.y j hj)⟩

/-- A plan that has been told the windows T, in whatever order, answers by them; below pb the world is as w2 was. -/
def FW (w2 wr : World) (pb ob n : Nat) (f : Nat → Int) (T : List (Int × Int)) : Prop :=
  ∃ B, B.length ≤ T.length ∧ Plan wr pb ob n f B ∧ Below pb w2 wr ∧ ∀ x y, underL B x y = T.any (hits (mostTo f n) x y)

theorem FW.start {w2 : World} {pb ob n : Nat} {f : Nat → Int} (h : Plan w2 pb ob n f []) : FW w2 w2 pb ob n f [] :=
  ⟨[], Nat.le_refl _, h, Below.refl _ _, fun _ _ => rfl⟩

theorem FW.step {w2 wr w3 : World} {pb ob n : Nat} {f : Nat → Int} {T T' : List (Int × Int)} {B : List (Int × Int)} {a b : Int} (hl : B.length ≤ T.length) (hb : Below pb w2 wr) (hu : ∀ x y, underL B x y = T.any (hits (mostTo f n) x y))
    (hb3 : Below pb wr w3) (hp3 : Plan w3 pb ob n f (blockL (mostTo f n) B a b)) (hT : T'.length = T.length + 1) (ha : ∀ p : Int × Int → Bool, T'.any p = (T.any p || p (a, b))) : FW w2 w3 pb ob n f T' := by
  refine ⟨_, ?_, hp3, hb.trans hb3, fun x y => ?_⟩
  · have := blockL_length (mostTo f n) B a b; omega
  · rw [underL_blockL, ha, hu]; rfl

theorem take_any (S : List (Int × Int)) (k : Nat) (h : k < S.length) (p : Int × Int → Bool) : (S.take (k + 1)).any p = ((S.take k).any p || p (fx S k, fy S k)) := by
  rw [take_snocW S k h, List.any_append]
  simp only [List.any_cons, List.any_nil, Bool.or_false]
  rfl

theorem drop_any (S : List (Int × Int)) (k : Nat) (h : k < S.length) (p : Int × Int → Bool) : (S.drop k).any p = ((S.drop (k + 1)).any p || p (fx S k, fy S k)) := by
  rw [List.drop_eq_getElem_cons h, List.any_cons, Bool.or_comm, ← getD_lt S k h]
  rfl

set_option maxRecDepth 100000 in
set_option maxHeartbeats 1600000 in
theorem alike_main (fb fo n fc m sc : Nat) (sa : Option Addr) (f : Nat → Int) (S : List (Int × Int)) (a b : Int) (w : World) (hn : n + 1 ≤ 4096) (hm : S.length = m) (hm' : m ≤ 1024)
    (hfb : fb < w.heap.size) (hf : ∀ j, j < n + 1 → w.cell? ⟨fb, fo + j, none⟩ = some (.int .i64 (f j))) (hsa : 0 < m → ∃ sb so, sa = some ⟨sb, so, none⟩ ∧ Scr w sb so S) :
    Calls Try.prog 6 #[.slice (some ⟨fb, fo, none⟩) (n + 1) fc, .slice sa m sc, .int .i64 a, .int .i64 b] w fun e w' => e = .returned (.bool true) ∧ Below w.heap.size w w' := by
  obtain ⟨i0, hi0, hz0, hz1, hz2⟩ := info_parts Try.info2
  have HSA : Hid (0 < m → ∃ sb so, sa = some ⟨sb, so, none⟩ ∧ Scr w sb so S) := hsa
  have HSL : Hid (S.length = m) := hm
  clear hsa hm
  have h24 := fun wx => bytes24_any (some ⟨fb, fo, none⟩) sa (n + 1) fc m sc a b wx (by unfold maxLen; omega) (by unfold maxLen; omega)
  have d1 : decide (4096 < (n : Int) + 1) = false := decide_eq_false (by omega)
  have d2 : decide (1024 < (m : Int)) = false := decide_eq_false (by omega)
  go_enter Try.func6, Try.ntmps6
  go_wp2_with fail
  refine (h24 _).mono ?_
  rintro e w' ⟨z, rfl, rfl⟩
  clear h24
  cases z with
  | false =>
    go_wp2
    go_ret
    exact ⟨rfl, Below.refl _ _⟩
  | true =>
    go_wp2_with (at_make; refine wpList_make_full _ rfl _ _ 42 rfl w'.heap.size 2 i0 (.int .i64 0) 1 Try.underlying42 hi0 hz0 hz1 .i64 .i64 _ _ (n + 1) rfl rfl (by omega) (by omega) (by rw [hz2]; omega) (by unfold maxLen; omega) (Nat.le_refl _) ?_)
    intro w1 hown1 hgr1
    have hcp := CP.start (f := f) hown1 hgr1
    have HCP : Hid (CP w' w1 w'.heap.size (n + 1) f 0) := hcp
    clear hown1 hgr1 hcp
    go_wp2
    go_loopw [41] (fun i wr => ∃ k : Nat, k ≤ n + 1 ∧ i = .int .i64 k ∧ CP w' wr w'.heap.size (n + 1) f k) (fun i _ => n + 1 - (intOf i).toNat)
    case atStart => exact ⟨0, Nat.zero_le _, rfl, HCP.out⟩
    case round =>
      clear HCP
      obtain ⟨k, hk, rfl, hcp⟩ := hrel
      have HCP : Hid (CP w' wr w'.heap.size (n + 1) f k) := hcp
      by_cases hlt : k < n + 1
      · have hck := (hcp.below.cell (p := ⟨fb, fo + k, none⟩) hfb).trans (hf k hlt)
        obtain ⟨⟨v0, hv0⟩, hz⟩ := hcp.spot k hlt
        clear hcp hf
        go_wp2
        go_roundw
        case rel => exact ⟨k + 1, by omega, by go_num, HCP.out.put hlt⟩
        case measure => simp [intOf]; omega
      · have hkn : k = n + 1 := by omega
        subst hkn
        have HC : Hid (∀ j, j < n + 1 → wr.cell? ⟨w'.heap.size, j, none⟩ = some (.int .i64 (f j))) := hcp.cells
        have HB1 : Hid (Below w'.heap.size w' wr) := hcp.below
        have hob : w'.heap.size < wr.heap.size := hcp.lt
        clear hcp HCP hf
        go_wp2_with (go_at_call 19; refine (newPlan_any w'.heap.size n f wr hob HC.out).mono ?_; rintro e w2 ⟨rfl, hb2, hp2⟩)
        have hpb := hb2.size
        generalize hpbe : wr.heap.size = pb at *
        clear hpbe
        have HF2 : Hid (FW w2 w2 pb w'.heap.size n f []) := FW.start hp2
        have HB2 : Hid (Below w'.heap.size w' w2) := HB1.out.trans (hb2.mono (by omega))
        clear hb2 hp2 HB1
        go_loopw [12] (fun i wr => ∃ k : Nat, k ≤ m ∧ i = .int .i64 k ∧ FW w2 wr pb w'.heap.size n f (S.take k)) (fun i _ => m - (intOf i).toNat)
        case atStart => exact ⟨0, Nat.zero_le _, rfl, HF2.out⟩
        case round =>
          clear HF2
          obtain ⟨k, hk, rfl, hfw⟩ := hrel
          by_cases hlt : k < m
          · obtain ⟨sb, so, rfl, hscr⟩ := HSA.out (by omega)
            obtain ⟨B, hBl, hp, hbw, hu⟩ := hfw
            have hlS : k < S.length := by rw [HSL.out]; exact hlt
            have hsx := ((HB2.out.trans (hbw.mono (by omega))).cell (p := ⟨sb, so + k * 2, none⟩) hscr.lt).trans (hscr.x k hlS)
            have hsy := ((HB2.out.trans (hbw.mono (by omega))).cell (p := ⟨sb, so + k * 2 + 1, none⟩) hscr.lt).trans (hscr.y k hlS)
            have hsl := hscr.lt
            have hBl2 : B.length ≤ 1023 := by simp at hBl; omega
            have HP : Hid (Plan wr.drew pb w'.heap.size n f B) := hp.below (Below.refl _ _).drew
            have HU : Hid (∀ x y, underL B x y = (S.take k).any (hits (mostTo f n) x y)) := hu
            have HW : Hid (Below pb w2 wr) := hbw
            clear hu hbw hp hscr
            have hi1 : (0 : Int) ≤ (k : Int) := by omega
            have hi2 : (k : Int) < (m : Int) := by omega
            go_wp2
            go_region_held3 (fun w' => w'.cell? ⟨sb, so + k * 2, none⟩ = some (.int .i64 (fx S k)) ∧ w'.cell? ⟨sb, so + k * 2 + 1, none⟩ = some (.int .i64 (fy S k)))
              (first | go_keep | (rw [hb3.cell (by simp; omega), hb3.cell (by simp; omega)]; assumption))
              ((go_at_call 20; refine (zzblock_any HP.out hn hBl2 _ _).mono ?_; rintro e w3 ⟨rfl, hb3, hp3⟩))
            have HF3 : Hid (FW w2 w3 pb w'.heap.size n f (S.take (k + 1))) := FW.step hBl HW.out HU.out ((Below.refl pb wr).drew.trans hb3) hp3 (by simp; omega) (take_any S k hlS)
            clear hb3 hp3
            go_wp2
            go_roundw
            case rel => exact ⟨k + 1, by omega, by go_num, HF3.out⟩
            case measure => simp [intOf]; omega
          · have hkm : k = m := by omega
            subst hkm
            obtain ⟨B1, hBl1, hp1, hbw1, hu1⟩ := hfw
            rw [← HSL.out, List.take_length] at hu1
            have hBl1' : B1.length ≤ 1024 := by simp at hBl1; omega
            have HP1 : Hid (Plan wr pb w'.heap.size n f B1) := hp1
            have HU1 : Hid (∀ x y, underL B1 x y = S.any (hits (mostTo f n) x y)) := hu1
            have HB3 : Hid (Below w'.heap.size w' wr) := HB2.out.trans (hbw1.mono (by omega))
            have hob1 : w'.heap.size < wr.heap.size := by have := hp1.size; omega
            have hsz1 := hp1.size
            clear hp1 hbw1 hu1 HB2
            go_wp2_with (go_at_call 19; refine (newPlan_any w'.heap.size n f wr hob1 HP1.out.cells).mono ?_; rintro e w4 ⟨rfl, hb4, hp4⟩)
            have hpb4 := hb4.size
            have HF4 : Hid (FW w4 w4 wr.heap.size w'.heap.size n f (S.drop k)) := by
              rw [← HSL.out, List.drop_length]; exact FW.start hp4
            have HB4 : Hid (Below wr.heap.size wr w4) := hb4
            clear hb4 hp4
            go_loopw [14] (fun i wq => ∃ j : Nat, j ≤ k ∧ i = .int .i64 ((j : Int) - 1) ∧ FW w4 wq wr.heap.size w'.heap.size n f (S.drop j)) (fun i _ => (intOf i + 1).toNat)
            case atStart => exact ⟨k, Nat.le_refl _, rfl, HF4.out⟩
            case round =>
              clear HF4
              rename World => wq
              obtain ⟨j, hj, rfl, hfw⟩ := hrel
              by_cases hlt : 0 < j
              · obtain ⟨i, rfl⟩ : ∃ i, j = i + 1 := ⟨j - 1, by omega⟩
                obtain ⟨sb, so, rfl, hscr⟩ := HSA.out (by omega)
                obtain ⟨B, hBl, hp, hbw, hu⟩ := hfw
                have hlS : i < S.length := by rw [HSL.out]; omega
                have hbq : Below w'.heap.size w' wq := HB3.out.trans ((HB4.out.trans hbw).mono (by omega))
                have hsx := (hbq.cell (p := ⟨sb, so + i * 2, none⟩) hscr.lt).trans (hscr.x i hlS)
                have hsy := (hbq.cell (p := ⟨sb, so + i * 2 + 1, none⟩) hscr.lt).trans (hscr.y i hlS)
                have hsl := hscr.lt
                have hBl2 : B.length ≤ 1023 := by have := HSL.out; simp at hBl; omega
                have HP : Hid (Plan wq.drew wr.heap.size w'.heap.size n f B) := hp.below (Below.refl _ _).drew
                have HU : Hid (∀ x y, underL B x y = (S.drop (i + 1)).any (hits (mostTo f n) x y)) := hu
                have HW : Hid (Below wr.heap.size w4 wq) := hbw
                clear hu hbw hp hscr hbq
                have hi1 : (0 : Int) ≤ (i : Int) := by omega
                have hi2 : (i : Int) < (k : Int) := by omega
                have ei : ((i + 1 : Nat) : Int) - 1 = (i : Int) := by omega
                rw [ei]
                clear ei
                go_wp2
                go_region_held3 (fun w' => w'.cell? ⟨sb, so + i * 2, none⟩ = some (.int .i64 (fx S i)) ∧ w'.cell? ⟨sb, so + i * 2 + 1, none⟩ = some (.int .i64 (fy S i)))
                  (first | go_keep | (rw [hb3.cell (by simp; omega), hb3.cell (by simp; omega)]; assumption))
                  ((go_at_call 20; refine (zzblock_any HP.out hn hBl2 _ _).mono ?_; rintro e w3 ⟨rfl, hb3, hp3⟩))
                have HF3 : Hid (FW w4 w3 wr.heap.size w'.heap.size n f (S.drop i)) := FW.step hBl HW.out HU.out ((Below.refl _ wq).drew.trans hb3) hp3 (by simp; omega) (drop_any S i hlS)
                clear hb3 hp3
                go_wp2
                go_roundw
                case rel => exact ⟨i, by omega, rfl, HF3.out⟩
                case measure => simp [intOf]
              · have hj0 : j = 0 := by omega
                subst hj0
                obtain ⟨B2, hBl2, hp2, hbw2, hu2⟩ := hfw
                rw [List.drop_zero] at hu2
                have hBl2' : B2.length ≤ 1024 := by rw [List.drop_zero, HSL.out] at hBl2; omega
                have hb5 : Below wr.heap.size wr wq := HB4.out.trans hbw2
                have HP1q : Hid (Plan wq pb w'.heap.size n f B1) := HP1.out.below hb5
                have HP2q : Hid (Plan wq wr.heap.size w'.heap.size n f B2) := hp2
                have HU2 : Hid (∀ x y, underL B2 x y = S.any (hits (mostTo f n) x y)) := hu2
                have HBq : Hid (Below w'.heap.size w' wq) := HB3.out.trans (hb5.mono (by omega))
                have hszq := hp2.size
                clear hb5 hp2 hbw2 hu2 HP1 HB3 HB4
                go_wp2_with (go_at_call 21; refine (mostOf_any w'.heap.size n f wq hn HP1q.out.cells).mono ?_; rintro e w6 ⟨rfl, rfl⟩)
                go_loopw [16, 98] (fun g i wv => ∃ j : Nat, j ≤ k ∧ i = .int .i64 j ∧ g = .bool ((S.take j).any (hits (mostTo f n) a b)) ∧ Below w6.heap.size w6 wv) (fun _ i _ => k - (intOf i).toNat)
                case atStart => exact ⟨0, Nat.zero_le _, rfl, rfl, Below.refl _ _⟩
                case round =>
                  rename World => wv
                  obtain ⟨j, hj, rfl, rfl, hbv⟩ := hrel
                  have hszv := hbv.size
                  by_cases hlt : j < k
                  · obtain ⟨sb, so, rfl, hscr⟩ := HSA.out (by omega)
                    have hlS : j < S.length := by rw [HSL.out]; exact hlt
                    have hbz : Below w'.heap.size w' wv := HBq.out.trans (hbv.mono (by omega))
                    have hsx := (hbz.cell (p := ⟨sb, so + j * 2, none⟩) hscr.lt).trans (hscr.x j hlS)
                    have hsy := (hbz.cell (p := ⟨sb, so + j * 2 + 1, none⟩) hscr.lt).trans (hscr.y j hlS)
                    have hi1 : (0 : Int) ≤ (j : Int) := by omega
                    have hi2 : (j : Int) < (k : Int) := by omega
                    have HT : Hid ((S.take (j + 1)).any (hits (mostTo f n) a b) = ((S.take j).any (hits (mostTo f n) a b) || hits (mostTo f n) a b (fx S j, fy S j))) := take_any S j hlS _
                    generalize (S.take j).any (hits (mostTo f n) a b) = q at *
                    clear hscr hbz
                    by_cases c1 : fx S j ≤ mostTo f n
                    · by_cases c2 : fx S j ≤ a
                      · by_cases c3 : fy S j ≤ b
                        · have HH : Hid (hits (mostTo f n) a b (fx S j, fy S j) = true) := by simp [Hid, hits, lew, c1, c2, c3]
                          go_wp2
                          go_roundw
                          case rel => exact ⟨j + 1, by omega, by go_num, by rw [HT.out, HH.out, Bool.or_true], hbv.alloc (by omega) _⟩
                          case measure => simp [intOf]; omega
                        · have HH : Hid (hits (mostTo f n) a b (fx S j, fy S j) = false) := by simp [Hid, hits, lew, c3]
                          go_wp2
                          go_roundw
                          case rel => exact ⟨j + 1, by omega, by go_num, by rw [HT.out, HH.out, Bool.or_false], hbv.alloc (by omega) _⟩
                          case measure => simp [intOf]; omega
                      · have HH : Hid (hits (mostTo f n) a b (fx S j, fy S j) = false) := by simp [Hid, hits, lew, c2]
                        go_wp2
                        go_roundw
                        case rel => exact ⟨j + 1, by omega, by go_num, by rw [HT.out, HH.out, Bool.or_false], hbv.alloc (by omega) _⟩
                        case measure => simp [intOf]; omega
                    · have HH : Hid (hits (mostTo f n) a b (fx S j, fy S j) = false) := by simp [Hid, hits, c1]
                      go_wp2
                      go_roundw
                      case rel => exact ⟨j + 1, by omega, by go_num, by rw [HT.out, HH.out, Bool.or_false], hbv.alloc (by omega) _⟩
                      case measure => simp [intOf]; omega
                  · have hjk : j = k := by omega
                    subst hjk
                    have HQ : Hid ((S.take j).any (hits (mostTo f n) a b) = S.any (hits (mostTo f n) a b)) := by
                      show _ = _
                      rw [← HSL.out, List.take_length]
                    rw [HQ.out]
                    have HA1 : Hid (underL B1 a b = S.any (hits (mostTo f n) a b)) := HU1.out a b
                    have HA2 : Hid (underL B2 a b = S.any (hits (mostTo f n) a b)) := HU2.out a b
                    generalize S.any (hits (mostTo f n) a b) = q at *
                    have HP1v : Hid (Plan wv pb w'.heap.size n f B1) := HP1q.out.below hbv
                    have HBv : Hid (Below w'.heap.size w' wv) := HBq.out.trans (hbv.mono (by omega))
                    have HP2v : Hid (Plan wv wr.heap.size w'.heap.size n f B2) := HP2q.out.below hbv
                    clear hbv
                    go_wp2_with fail
                    refine (zzblocks_any HP1v.out hBl1' a b).mono ?_
                    rintro e w7 ⟨rfl, hb7⟩
                    rw [HA1.out]
                    have HP2w : Hid (Plan w7 wr.heap.size w'.heap.size n f B2) := HP2v.out.below hb7
                    have HB7 : Hid (Below w'.heap.size w' w7) := HBv.out.trans (hb7.mono (by omega))
                    clear hb7
                    go_wp2_with fail
                    refine (zzblocks_any HP2w.out hBl2' a b).mono ?_
                    rintro e w8 ⟨rfl, hb8⟩
                    rw [HA2.out]
                    have HB8 : Hid (Below w'.heap.size w' w8) := HB7.out.trans (hb8.mono (by have := HP2w.out.size; omega))
                    clear hb8
                    go_wp2
                    go_ret
                    exact ⟨rfl, HB8.out⟩

end Go.Proofs.Qxb6614502a
