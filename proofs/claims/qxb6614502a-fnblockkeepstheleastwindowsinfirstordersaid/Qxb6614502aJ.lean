/-
  FnBlockKeepsTheLeastWindowsInFirstOrder: the walk.
-/
import Derived.Test.Qxb6614502aI
namespace Go.Proofs.Qxb6614502a
open Go.RowKit

theorem Try.info49 : (Try.prog.info? 49).map (fun i => (i.zero, i.size, i.bytes)) = some (some (.agg #[.int .i64 0, .int .i64 0]), 2, 16) := by kernel_rfl

/-- A plan that has been told the first k windows; below pb the world is as w2 was. -/
def FB (w2 wr : World) (pb ob n : Nat) (f : Nat → Int) (S : List (Int × Int)) (k : Nat) : Prop :=
  Plan wr pb ob n f (foldB (mostTo f n) S k) ∧ Below pb w2 wr

/-- The list of wanted windows, gathered over the first k. -/
def WT (w6 wv : World) (most : Int) (S : List (Int × Int)) (m : Nat) (v : Value) (k : Nat) : Prop :=
  wv.ownsRow w6.heap.size 49 2 v (wantL most S m k).length (wcells (wantL most S m k)) ∧ Below w6.heap.size w6 wv

theorem own_below {w w' : World} {base : Nat} {e : TypeId} {size : Nat} {v : Value} {n : Nat} {xs : List Value} (h : w.ownsRow base e size v n xs) (hb : Below w.heap.size w w') : w'.ownsRow base e size v n xs :=
  h.kept (row := none) ⟨hb.os, hb.tape, hb.output, hb.size, fun k hk _ => hb.block k hk⟩ (by cases v.ownBlock <;> simp)

theorem WT.skip {w6 wv wz : World} {most : Int} {S : List (Int × Int)} {m k : Nat} {v : Value} (h : WT w6 wv most S m v k) (hk : kept most S m k = false) (hb : Below wv.heap.size wv wz) : WT w6 wz most S m v (k + 1) := by
  have e : wantL most S m (k + 1) = wantL most S m k := by rw [wantL_succ, hk]; simp
  have := h.2.size
  exact ⟨by rw [e]; exact own_below h.1 hb, h.2.trans (hb.mono (by omega))⟩

theorem WT.add {w6 wv wz w1 : World} {most : Int} {S : List (Int × Int)} {m k : Nat} {v v' : Value} (h : WT w6 wv most S m v k) (hk : kept most S m k = true) (hb : Below wv.heap.size wv wz)
    (hown : w1.ownsRow w6.heap.size 49 2 v' ((wantL most S m k).length + 1) (wcells (wantL most S m k) ++ [.int .i64 (fx S k), .int .i64 (fy S k)])) (hgrow : wz.grownBy w1 v.ownBlock) : WT w6 w1 most S m v' (k + 1) := by
  have e : wantL most S m (k + 1) = wantL most S m k ++ [wnd S k] := by rw [wantL_succ, hk]; simp
  have h6 := h.2.size
  have hz := hb.size
  refine ⟨by rw [e, wcells_append, List.length_append]; exact hown, (h.2.trans (hb.mono (by omega))).grown hgrow (by omega) (fun j hj => ?_)⟩
  exact (h.1.lt j hj).1

theorem want_cells {w : World} {base : Nat} {e : TypeId} {ad : Option Addr} {c : Nat} {B : List (Int × Int)} (h : w.ownsRow base e 2 (.slice ad B.length c) B.length (wcells B)) (i : Nat) (hi : i < B.length) :
    ∃ g, ad = some ⟨g, 0, none⟩ ∧ w.cell? ⟨g, i * 2, none⟩ = some (.int .i64 (fx B i)) ∧ w.cell? ⟨g, i * 2 + 1, none⟩ = some (.int .i64 (fy B i)) := by
  rcases h.2 with ⟨_, h0⟩ | ⟨g, cap, cur, hv, hg, hrow, hnc, hcm, hcs, htake⟩
  · omega
  · simp at hv
    obtain ⟨rfl, rfl⟩ := hv
    refine ⟨g, rfl, ?_, ?_⟩
    · rw [cell_of_row w g _ cur e _ hrow]; exact (cells_of_take htake i hi).1
    · rw [cell_of_row w g _ cur e _ hrow]; exact (cells_of_take htake i hi).2

set_option maxRecDepth 100000 in
set_option maxHeartbeats 3200000 in
theorem keeps_main (fb fo n fc m sc : Nat) (sa : Option Addr) (f : Nat → Int) (S : List (Int × Int)) (w : World) (hn : n + 1 ≤ 4096) (hm : S.length = m) (hm' : m ≤ 1024)
    (hfb : fb < w.heap.size) (hf : ∀ j, j < n + 1 → w.cell? ⟨fb, fo + j, none⟩ = some (.int .i64 (f j))) (hsa : 0 < m → ∃ sb so, sa = some ⟨sb, so, none⟩ ∧ Scr w sb so S) :
    Calls Try.prog 5 #[.slice (some ⟨fb, fo, none⟩) (n + 1) fc, .slice sa m sc] w fun e w' => e = .returned (.bool true) ∧ Below w.heap.size w w' := by
  obtain ⟨i0, hi0, hz0, hz1, hz2⟩ := info_parts Try.info2
  obtain ⟨i49, hi49, hy0, hy1, hy2⟩ := info_parts Try.info49
  have HSA : Hid (0 < m → ∃ sb so, sa = some ⟨sb, so, none⟩ ∧ Scr w sb so S) := hsa
  have HSL : Hid (S.length = m) := hm
  clear hsa hm
  have h18 := fun wx => bytes18_any (some ⟨fb, fo, none⟩) sa (n + 1) fc m sc wx (by unfold maxLen; omega) (by unfold maxLen; omega)
  have d1 : decide (4096 < (n : Int) + 1) = false := decide_eq_false (by omega)
  have d2 : decide (1024 < (m : Int)) = false := decide_eq_false (by omega)
  go_enter Try.func5, Try.ntmps5
  go_wp2_with fail
  refine (h18 _).mono ?_
  rintro e w' ⟨z, rfl, rfl⟩
  clear h18
  cases z with
  | false =>
    go_wp2
    go_ret
    exact ⟨rfl, Below.refl _ _⟩
  | true =>
    go_wp2_with (at_make; refine wpList_make_full _ rfl _ _ 42 rfl w'.heap.size 2 i0 (.int .i64 0) 1 Try.underlying42 hi0 hz0 hz1 .i64 .i64 _ _ (n + 1) rfl rfl (by omega) (by omega) (by rw [hz2]; omega) (by unfold maxLen; omega) (Nat.le_refl _) ?_)
    intro w1 hown1 hgr1
    have hcp := CP.start (f := f) hown1 hgr1
    have HCP : Hid (CP w' w1 w'.heap.size (n + 1) f 0) := hcp
    clear hown1 hgr1 hcp
    go_wp2
    go_loopw [40] (fun i wr => ∃ k : Nat, k ≤ n + 1 ∧ i = .int .i64 k ∧ CP w' wr w'.heap.size (n + 1) f k) (fun i _ => n + 1 - (intOf i).toNat)
    case atStart => exact ⟨0, Nat.zero_le _, rfl, HCP.out⟩
    case round =>
      clear HCP
      obtain ⟨k, hk, rfl, hcp⟩ := hrel
      have HCP : Hid (CP w' wr w'.heap.size (n + 1) f k) := hcp
      by_cases hlt : k < n + 1
      · have hck := (hcp.below.cell (p := ⟨fb, fo + k, none⟩) hfb).trans (hf k hlt)
        obtain ⟨⟨v0, hv0⟩, hz⟩ := hcp.spot k hlt
        clear hcp hf
        go_wp2
        go_roundw
        case rel => exact ⟨k + 1, by omega, by go_num, HCP.out.put hlt⟩
        case measure => simp [intOf]; omega
      · have hkn : k = n + 1 := by omega
        subst hkn
        have HC : Hid (∀ j, j < n + 1 → wr.cell? ⟨w'.heap.size, j, none⟩ = some (.int .i64 (f j))) := hcp.cells
        have HB1 : Hid (Below w'.heap.size w' wr) := hcp.below
        have hob : w'.heap.size < wr.heap.size := hcp.lt
        clear hcp HCP hf
        go_wp2_with (go_at_call 19; refine (newPlan_any w'.heap.size n f wr hob HC.out).mono ?_; rintro e w2 ⟨rfl, hb2, hp2⟩)
        have hpb := hb2.size
        generalize hpbe : wr.heap.size = pb at *
        clear hpbe
        have HF2 : Hid (FB w2 w2 pb w'.heap.size n f S 0) := ⟨hp2, Below.refl _ _⟩
        have HB2 : Hid (Below w'.heap.size w' w2) := HB1.out.trans (hb2.mono (by omega))
        clear hb2 hp2 HB1
        go_loopw [56] (fun i wr => ∃ k : Nat, k ≤ m ∧ i = .int .i64 k ∧ FB w2 wr pb w'.heap.size n f S k) (fun i _ => m - (intOf i).toNat)
        case atStart => exact ⟨0, Nat.zero_le _, rfl, HF2.out⟩
        case round =>
          clear HF2
          obtain ⟨k, hk, rfl, hfw⟩ := hrel
          by_cases hlt : k < m
          · obtain ⟨sb, so, rfl, hscr⟩ := HSA.out (by omega)
            obtain ⟨hp, hbw⟩ := hfw
            have hlS : k < S.length := by rw [HSL.out]; exact hlt
            have hsx := ((HB2.out.trans (hbw.mono (by omega))).cell (p := ⟨sb, so + k * 2, none⟩) hscr.lt).trans (hscr.x k hlS)
            have hsy := ((HB2.out.trans (hbw.mono (by omega))).cell (p := ⟨sb, so + k * 2 + 1, none⟩) hscr.lt).trans (hscr.y k hlS)
            have hsl := hscr.lt
            have hBl2 : (foldB (mostTo f n) S k).length ≤ 1023 := by have := foldB_length (mostTo f n) S k; omega
            have HP : Hid (Plan wr.drew pb w'.heap.size n f (foldB (mostTo f n) S k)) := hp.below (Below.refl _ _).drew
            have HW : Hid (Below pb w2 wr) := hbw
            clear hbw hp hscr
            have hi1 : (0 : Int) ≤ (k : Int) := by omega
            have hi2 : (k : Int) < (m : Int) := by omega
            go_wp2
            go_region_held3 (fun w' => w'.cell? ⟨sb, so + k * 2, none⟩ = some (.int .i64 (fx S k)) ∧ w'.cell? ⟨sb, so + k * 2 + 1, none⟩ = some (.int .i64 (fy S k)))
              (first | go_keep | (rw [hb3.cell (by simp; omega), hb3.cell (by simp; omega)]; assumption))
              ((go_at_call 20; refine (zzblock_any HP.out hn hBl2 _ _).mono ?_; rintro e w3 ⟨rfl, hb3, hp3⟩))
            have HF3 : Hid (FB w2 w3 pb w'.heap.size n f S (k + 1)) := ⟨hp3, HW.out.trans ((Below.refl pb wr).drew.trans hb3)⟩
            clear hb3 hp3
            go_wp2
            go_roundw
            case rel => exact ⟨k + 1, by omega, by go_num, HF3.out⟩
            case measure => simp [intOf]; omega
          · have hkm : k = m := by omega
            subst hkm
            obtain ⟨hp1, hbw1⟩ := hfw
            have HP1 : Hid (Plan wr pb w'.heap.size n f (foldB (mostTo f n) S k)) := hp1
            have HB3 : Hid (Below w'.heap.size w' wr) := HB2.out.trans (hbw1.mono (by omega))
            have hsz1 := hp1.size
            clear hp1 hbw1 HB2
            go_wp2_with (first
              | (go_at_call 21; refine (mostOf_any w'.heap.size n f wr hn HP1.out.cells).mono ?_; rintro e w6 ⟨rfl, hw6⟩; rw [hw6])
              | (at_make; refine wpList_make_own _ rfl _ _ 43 rfl wr.heap.size 49 i49 _ 2 Try.underlying43 hi49 hy0 hy1 .i64 .i64 _ k rfl rfl (by omega) (by rw [hy2]; omega) (by unfold maxLen; omega) (Nat.le_refl _) ?_))
            intro w7 hown7 hgr7
            have HT7 : Hid (WT wr w7 (mostTo f n) S k (.slice (some ⟨wr.heap.size, 0, none⟩) 0 k) 0) := ⟨hown7, ⟨hgr7.os, hgr7.tape, hgr7.output, hgr7.size, fun j hj => hgr7.block j hj (by simp)⟩⟩
            clear hown7 hgr7
            go_wp2
            go_loopw [10, 79] (fun v i wv => ∃ j : Nat, j ≤ k ∧ i = .int .i64 j ∧ WT wr wv (mostTo f n) S k v j) (fun _ i _ => k - (intOf i).toNat)
            case atStart => exact ⟨0, Nat.zero_le _, rfl, HT7.out⟩
            case round =>
              clear HT7
              rename World => wv
              obtain ⟨j, hj, rfl, hwt⟩ := hrel
              have hszv := hwt.2.size
              have hbv : Below w'.heap.size w' wv := HB3.out.trans (hwt.2.mono (by omega))
              by_cases hlt : j < k
              · obtain ⟨sb, so, rfl, hscr⟩ := HSA.out (by omega)
                have hlS : j < S.length := by rw [HSL.out]; exact hlt
                have hsx := (hbv.cell (p := ⟨sb, so + j * 2, none⟩) hscr.lt).trans (hscr.x j hlS)
                have hsy := (hbv.cell (p := ⟨sb, so + j * 2 + 1, none⟩) hscr.lt).trans (hscr.y j hlS)
                have hsl := hscr.lt
                have hi1 : (0 : Int) ≤ (j : Int) := by omega
                have hi2 : (j : Int) < (k : Int) := by omega
                have HWT : Hid (WT wr wv (mostTo f n) S k u10 j) := hwt
                have HBV : Hid (Below w'.heap.size w' wv) := hbv
                have HSC : Hid (Scr w' sb so S) := hscr
                clear hwt hbv hscr
                by_cases c0 : mostTo f n < fx S j
                · have HK : Hid (kept (mostTo f n) S k j = false) := by simp [Hid, kept]; intro h; omega
                  go_wp2
                  go_roundw
                  case rel => exact ⟨j + 1, by omega, by go_num, HWT.out.skip HK.out ((Below.refl _ _).alloc (Nat.le_refl _) _)⟩
                  case measure => simp [intOf]; omega
                · go_wp2
                  go_loopw [13, 92] (fun g i wz => ∃ l : Nat, l ≤ k ∧ i = .int .i64 l ∧ g = .bool true ∧ Hid (clean (mostTo f n) S j l = true) ∧ Below (wv.heap.size + 1) (wv.alloc (.cells #[.int .i64 (fx S j), .int .i64 (fy S j)] 49)) wz) (fun _ i _ => k - (intOf i).toNat)
                  case atStart => exact ⟨0, Nat.zero_le _, rfl, rfl, rfl, Below.refl _ _⟩
                  case round =>
                    clear hsx hsy hi1 hi2
                    rename World => wz
                    obtain ⟨l, hl, rfl, rfl, HC, hbz⟩ := hrel
                    have hszz : wv.heap.size + 1 ≤ wz.heap.size := by have := hbz.size; simpa using this
                    have hszl : wv.heap.size < wz.heap.size := by omega
                    have hx0 : wz.cell? ⟨wv.heap.size, 0, none⟩ = some (.int .i64 (fx S j)) := by rw [hbz.cell (by simp)]; rw [cell_of_row _ _ _ _ _ _ (heap_alloc_new wv _)]; rfl
                    have hx1 : wz.cell? ⟨wv.heap.size, 1, none⟩ = some (.int .i64 (fy S j)) := by rw [hbz.cell (by simp)]; rw [cell_of_row _ _ _ _ _ _ (heap_alloc_new wv _)]; rfl
                    have HBZ : Hid (Below wv.heap.size wv wz) := ((Below.refl _ _).alloc (Nat.le_refl _) _).trans (hbz.mono (by omega))
                    have HZ : Hid (Below (wv.heap.size + 1) (wv.alloc (.cells #[.int .i64 (fx S j), .int .i64 (fy S j)] 49)) wz) := hbz
                    clear hbz
                    by_cases hll : l < k
                    · have hlS2 : l < S.length := by rw [HSL.out]; exact hll
                      have hbw : Below w'.heap.size w' wz := HBV.out.trans (HBZ.out.mono (by omega))
                      have hsx := (hbw.cell (p := ⟨sb, so + l * 2, none⟩) HSC.out.lt).trans (HSC.out.x l hlS2)
                      have hsy := (hbw.cell (p := ⟨sb, so + l * 2 + 1, none⟩) HSC.out.lt).trans (HSC.out.y l hlS2)
                      have hi1 : (0 : Int) ≤ (l : Int) := by omega
                      have hi2 : (l : Int) < (k : Int) := by omega
                      clear hbw
                      have hnext : beats (mostTo f n) S j l = false → Hid (clean (mostTo f n) S j (l + 1) = true) := fun h => by show _ = _; rw [clean, HC.out, h]; rfl
                      have hstop : beats (mostTo f n) S j l = true → Hid (kept (mostTo f n) S k j = false) := fun h => by show _ = _; rw [kept, clean_mono _ _ _ _ _ hll h, Bool.and_false]
                      by_cases c1 : mostTo f n < fx S l
                      · have HN := hnext (by have : ¬ fx S l ≤ mostTo f n := by omega
                                             simp [beats, this])
                        clear hnext hstop
                        go_wp2
                        go_roundw
                        case rel => exact ⟨l + 1, by omega, by go_num, rfl, HN, HZ.out.alloc (by omega) _⟩
                        case measure => simp [intOf]; omega
                      · by_cases c2 : fx S l ≤ fx S j
                        · by_cases c3 : fy S l ≤ fy S j
                          · cases c4 : fx S l != fx S j with
                            | true =>
                              have HN := hstop (by simp only [beats, lew_true c2 c3, c4]; simp; omega)
                              clear hnext hstop
                              go_wp2
                              go_roundw
                              case rel => exact ⟨j + 1, by omega, by go_num, HWT.out.skip HN.out (HBZ.out.alloc (by omega) _)⟩
                              case measure => simp [intOf]; omega
                            | false =>
                              cases c5 : fy S l != fy S j with
                              | true =>
                                have HN := hstop (by simp only [beats, lew_true c2 c3, c4, c5]; simp; omega)
                                clear hnext hstop
                                go_wp2
                                go_roundw
                                case rel => exact ⟨j + 1, by omega, by go_num, HWT.out.skip HN.out (HBZ.out.alloc (by omega) _)⟩
                                case measure => simp [intOf]; omega
                              | false =>
                                by_cases c6 : l < j
                                · have HN := hstop (by simp only [beats, lew_true c2 c3, c4, c5]; simp [c6]; omega)
                                  clear hnext hstop
                                  go_wp2
                                  go_roundw
                                  case rel => exact ⟨j + 1, by omega, by go_num, HWT.out.skip HN.out (HBZ.out.alloc (by omega) _)⟩
                                  case measure => simp [intOf]; omega
                                · have HN := hnext (by simp only [beats, lew_true c2 c3, c4, c5]; simp [c6])
                                  clear hnext hstop
                                  go_wp2
                                  go_roundw
                                  case rel => exact ⟨l + 1, by omega, by go_num, rfl, HN, HZ.out.alloc (by omega) _⟩
                                  case measure => simp [intOf]; omega
                          · have HN := hnext (by simp [beats, lew_false2 c3])
                            clear hnext hstop
                            go_wp2
                            go_roundw
                            case rel => exact ⟨l + 1, by omega, by go_num, rfl, HN, HZ.out.alloc (by omega) _⟩
                            case measure => simp [intOf]; omega
                        · have HN := hnext (by simp [beats, lew_false1 c2])
                          clear hnext hstop
                          go_wp2
                          go_roundw
                          case rel => exact ⟨l + 1, by omega, by go_num, rfl, HN, HZ.out.alloc (by omega) _⟩
                          case measure => simp [intOf]; omega
                    · have hlk : l = k := by omega
                      subst hlk
                      have HK : Hid (kept (mostTo f n) S l j = true) := by show _ = _; rw [kept, HC.out]; simp; omega
                      have HOZ : Hid (wz.ownsRow wr.heap.size 49 2 u10 (wantL (mostTo f n) S l j).length (wcells (wantL (mostTo f n) S l j))) := own_below HWT.out.1 HBZ.out
                      have hwl := wantL_length (mostTo f n) S l j
                      go_wp2_with (at_builtin; refine wpList_append_lies _ rfl _ _ _ rfl wr.heap.size 49 i49 _ 2 16 Try.underlying43 hi49 hy0 hy1 hy2 rfl (by omega) u10 _ _ rfl (HOZ.out.alloc _) ⟨wz.heap.size, 0, none⟩ 1 1 [.int .i64 (fx S j), .int .i64 (fy S j)] rfl rfl (World.news_of_block (cs := #[.int .i64 (fx S j), .int .i64 (fy S j)]) (t := 49) (fr := (0, 0)) (heap_alloc_new wz _)) (by simp [Value.oneCell']) (by omega) (by unfold maxLen; omega) (by omega) (by simp; omega) (wz.heap.size + 1) (by simp) ?_)
                      intro g cap w9 hown9 hgrow9 hat9 hlt9
                      have HF9 : Hid (WT wr w9 (mostTo f n) S l (.slice (some ⟨g, 0, none⟩) ((wantL (mostTo f n) S l j).length + 1) cap) (j + 1)) := HWT.out.add HK.out (HBZ.out.alloc (by omega) _) hown9 hgrow9
                      clear hown9 hgrow9 hat9 hlt9
                      go_wp2
                      go_roundw
                      case rel => exact ⟨j + 1, by omega, by go_num, HF9.out⟩
                      case measure => simp [intOf]; omega
              · have hjk : j = k := by omega
                subst hjk
                obtain ⟨hown, hbw⟩ := hwt
                rw [← foldB_want] at hown
                have HPv : Hid (Plan wv pb w'.heap.size n f (foldB (mostTo f n) S j)) := HP1.out.below hbw
                have HBv : Hid (Below w'.heap.size w' wv) := hbv
                have hBl := foldB_length (mostTo f n) S j
                clear HP1 hbw hbv HB3 HSA
                generalize foldB (mostTo f n) S j = B at *
                obtain ⟨ad, c, rfl⟩ := ownsRow_shape hown
                have HO : Hid (wv.ownsRow wr.heap.size 49 2 (.slice ad B.length c) B.length (wcells B)) := hown
                clear hown
                have hne : ((B.length : Int) != (B.length : Int)) = false := by simp
                go_wp2_with (go_at_call 22; refine (len22_any HPv.out).mono ?_; rintro e w6 ⟨rfl, hw6⟩; rw [hw6])
                go_loopw [17] (fun i wz => ∃ l : Nat, l ≤ B.length ∧ i = .int .i64 l ∧ ∃ q, wz = wv.drewN q) (fun i _ => B.length - (intOf i).toNat)
                case atStart => exact ⟨0, Nat.zero_le _, rfl, 0, rfl⟩
                case round =>
                  rename World => wz
                  obtain ⟨l, hl, rfl, q, rfl⟩ := hrel
                  by_cases hll : l < B.length
                  · obtain ⟨g, rfl, hx, hy⟩ := want_cells HO.out l hll
                    have hi1 : (0 : Int) ≤ (l : Int) := by omega
                    have hi2 : (l : Int) < (B.length : Int) := by omega
                    go_wp2_with (go_at_call 23; refine (at23_any (HPv.out.below (below_drewN _ q)) l hll).mono ?_; rintro e w6 ⟨rfl, q2, hw6⟩; rw [hw6])
                    go_roundw
                    case rel => exact ⟨l + 1, by omega, by go_num, _, rfl⟩
                    case measure => simp [intOf]; omega
                  · go_wp2
                    go_ret
                    exact ⟨rfl, HBv.out.trans ((below_drewN _ q).mono (by have := HBv.out.size; omega))⟩

end Go.Proofs.Qxb6614502a
