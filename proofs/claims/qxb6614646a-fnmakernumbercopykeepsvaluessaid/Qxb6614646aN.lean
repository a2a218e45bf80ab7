/-
  FnMakerNumberCopyKeepsValues: the walk.
-/
import Derived.Test.Qxb6614646aM
namespace Go.Proofs.Qxb6614646a
open Go.RowKit

set_option maxRecDepth 100000 in
set_option maxHeartbeats 6400000 in
theorem copy_main (nx ny nz xc yc zc : Nat) (sx sy sz : Option Addr) (X Y Z : Nat → Nat) (w : World) (h1 : nx ≤ 32768) (h2 : ny ≤ 32768) (h3 : nz ≤ 32768) (lx : ∀ j, j < nx → X j < 18446744073709551616) (ly : ∀ j, j < ny → Y j < 18446744073709551616) (lz : ∀ j, j < nz → Z j < 18446744073709551616)
    (hx : (0 < nx → ∃ xb xo, sx = some ⟨xb, xo, none⟩ ∧ xb < w.heap.size ∧ ∀ j, j < nx → w.cell? ⟨xb, xo + j, none⟩ = some (.float .f64 (X j)))) (hy : (0 < ny → ∃ xb xo, sy = some ⟨xb, xo, none⟩ ∧ xb < w.heap.size ∧ ∀ j, j < ny → w.cell? ⟨xb, xo + j, none⟩ = some (.float .f64 (Y j)))) (hz : (0 < nz → ∃ xb xo, sz = some ⟨xb, xo, none⟩ ∧ xb < w.heap.size ∧ ∀ j, j < nz → w.cell? ⟨xb, xo + j, none⟩ = some (.float .f64 (Z j)))) :
    Calls Try.prog 4 #[.slice sx nx xc, .slice sy ny yc, .slice sz nz zc] w fun e w' => e = .returned (.bool true) ∧ Below w.heap.size w w' := by
  obtain ⟨i0, hi0, hz0, hz1, hz2⟩ := info_parts info43
  obtain ⟨i1, hi1, hy0, hy1, hy2⟩ := info_parts info4
  have HX := show Hid _ from hx
  have HY := show Hid _ from hy
  have HZ := show Hid _ from hz
  have LX := show Hid _ from lx
  have LY := show Hid _ from ly
  have LZ := show Hid _ from lz
  clear hx hy hz lx ly lz
  have h10 := fun wx => bytes10_any sx sy sz nx xc ny yc nz zc wx (by unfold maxLen; omega) (by unfold maxLen; omega) (by unfold maxLen; omega)
  have HM0 : Hid (MkOk2 (w.alloc (.cells ZM 37)) w.heap.size w.heap.size) := mk_zero w
  go_enter Try.func4, Try.ntmps4
  go_wp2_with fail
  refine (h10 _).mono ?_
  rintro e w' ⟨z, rfl, hw⟩
  rw [hw]
  clear hw h10
  cases z with
  | false =>
    go_wp2
    go_ret
    exact ⟨rfl, Below.refl _ _⟩
  | true =>
    go_wp2_with (at_make; refine wpList_make_full _ rfl _ _ 38 rfl 0 43 i0 (.agg #[.pointer none]) 1 Try.underlying38 hi0 hz0 hz1 .i64 .i64 _ _ nx rfl rfl (by omega) (by omega) (by rw [hz2]; omega) (by unfold maxLen; omega) (Nat.zero_le _) ?_)
    intro w1 hown1 hgr1
    have hb1 := grown_below hgr1
    have hr1 := row_of2 hown1
    have HR1 := show Hid _ from hr1
    have HB1 := show Hid _ from hb1
    clear hb1 hr1 hown1 hgr1
    go_wp2_with (at_make; refine wpList_make_full _ rfl _ _ 39 rfl 0 4 i1 (.bool false) 1 Try.underlying39 hi1 hy0 hy1 .i64 .i64 _ _ nx rfl rfl (by omega) (by omega) (by rw [hy2]; omega) (by unfold maxLen; omega) (Nat.zero_le _) ?_)
    intro w2 hown2 hgr2
    obtain ⟨l1, l2, hrw, hbw⟩ := rw_new (X := X) (by simp) HB1.out HR1.out (grown_below hgr2) (row_of2 hown2)
    have HRX : Hid (Rw w2 (w.heap.size + 1) w1.heap.size nx 0 X) := hrw
    have HB2 : Hid (Below w.heap.size w w2) := ((Below.refl _ _).alloc (Nat.le_refl _) _).trans (hbw.mono (by simp))
    have HM2 : Hid (MkOk2 w2 w.heap.size w.heap.size) := (Stp.of_below (by simp) hbw).maker HM0.out (fun h => h)
    rw [allocSize] at l1
    clear hrw hbw hown2 hgr2 HB1 HR1 HM0
    generalize w1.heap.size = xo at *
    go_wp2
    go_loopw [10] (fun v wr => ∃ k : Nat, k ≤ nx ∧ v = .int .i64 k ∧ MkOk2 wr w.heap.size w.heap.size ∧ Rw wr (w.heap.size + 1) xo nx k X ∧ Below w.heap.size w wr) (fun v _ => nx - (intOf v).toNat)
    case atStart => exact ⟨0, by omega, rfl, HM2.out, HRX.out, HB2.out⟩
    case round =>
      clear HM2 HRX HB2
      obtain ⟨k, hk, rfl, hm, hrw, hbel⟩ := hrel
      have HM : Hid (MkOk2 wr w.heap.size w.heap.size) := hm
      have HR : Hid (Rw wr (w.heap.size + 1) xo nx k X) := hrw
      have HB : Hid (Below w.heap.size w wr) := hbel
      by_cases hlt : k < nx
      · obtain ⟨qb, qo, hsa, hqb, hqc⟩ := HX.out (by omega)
        subst hsa
        have cx : wr.cell? ⟨qb, qo + k, none⟩ = some (.float .f64 (X k)) := (hbel.cell (p := ⟨qb, qo + k, none⟩) hqb).trans (hqc k hlt)
        have hxk := LX.out k hlt
        clear hqc hm hrw hbel
        go_wp2_with fail
        refine (number8_any2 w.heap.size w.heap.size (X k) wr hxk (Nat.le_refl _) HM.out).mono ?_
        rintro e w3 ⟨a, rfl, hv, st, hm3⟩
        have hr3 := HR.out.keep st (by omega) (by omega)
        obtain ⟨⟨v0, hv0⟩, vf, ⟨o0, ho0⟩, of'⟩ := hr3.spot k hlt
        obtain ⟨_, _, n5, n6⟩ := hr3.noF
        have HN : Hid (∀ x, Stp w3 (put2 w3 (w.heap.size + 1) xo k a (Fl.fin (X k)) x) w.heap.size (fun y => y = w.heap.size + 1 ∨ y = xo) ∧ Rw (put2 w3 (w.heap.size + 1) xo k a (Fl.fin (X k)) x) (w.heap.size + 1) xo nx (k + 1) X) := fun x => hr3.put hlt (by omega) (by omega) (by omega) x hv
        have HST := show Hid _ from st
        have HM3 : Hid (MkOk2 w3 w.heap.size w.heap.size) := hm3
        clear hv st hm3 hr3
        have n1 : w.heap.size + 1 ≠ w3.heap.size := by omega
        have n2 : xo ≠ w3.heap.size := by omega
        have n3 : w.heap.size + 1 ≠ xo := by omega
        have n4 : xo ≠ w.heap.size + 1 := by omega
        generalize hfx : Fl.fin (X k) = fx at *
        clear hfx
        go_wp2
        go_roundw
        case rel => exact ⟨k + 1, by omega, by go_num, (HN.out _).1.maker HM3.out (by omega), (HN.out _).2, HB.out.trans (Below.trans ⟨HST.out.os, HST.out.tape, HST.out.output, HST.out.size, HST.out.low⟩ ⟨(HN.out _).1.os, (HN.out _).1.tape, (HN.out _).1.output, (HN.out _).1.size, (HN.out _).1.low⟩)⟩
        case measure => simp [intOf]; omega
      · have hkn : nx = k := by omega
        subst hkn
        have hsz := hbel.size
        obtain ⟨_, _, l5, l6⟩ := hrw.noF
        clear hm hrw hbel
        obtain ⟨a0, a1, a2, a3, u0, u1, u2, u3, c0, c1, c2, c3, s0, s1, s2, s3, e0, e1, e2, e3, e4, e5, e6, e7, hm2⟩ := mk_copy hsz HM.out
        have HM2 : Hid (MkOk2 (wr.alloc (.cells #[.slice a0 u0 c0, .int .i64 s0, .slice a1 u1 c1, .int .i64 s1, .slice a2 u2 c2, .int .i64 s2, .slice a3 u3 c3, .int .i64 s3] 37)) wr.heap.size w.heap.size) := hm2
        clear hm2
        go_wp2_with (at_make; refine wpList_make_full _ rfl _ _ 38 rfl 0 43 i0 (.agg #[.pointer none]) 1 Try.underlying38 hi0 hz0 hz1 .i64 .i64 _ _ ny rfl rfl (by omega) (by omega) (by rw [hz2]; omega) (by unfold maxLen; omega) (Nat.zero_le _) ?_)
        intro w3 hown3 hgr3
        have HR3 := show Hid _ from row_of2 hown3
        have HB3 := show Hid _ from grown_below hgr3
        clear hown3 hgr3 e0 e1 e2 e3 e4 e5 e6 e7
        go_wp2_with (at_make; refine wpList_make_full _ rfl _ _ 39 rfl 0 4 i1 (.bool false) 1 Try.underlying39 hi1 hy0 hy1 .i64 .i64 _ _ ny rfl rfl (by omega) (by omega) (by rw [hy2]; omega) (by unfold maxLen; omega) (Nat.zero_le _) ?_)
        intro w4 hown4 hgr4
        obtain ⟨l7, l8, hrwy, hbw4⟩ := rw_new (X := Y) (by simp) HB3.out HR3.out (grown_below hgr4) (row_of2 hown4)
        have HRY : Hid (Rw w4 (wr.heap.size + 1) w3.heap.size ny 0 Y) := hrwy
        have HB4 := show Hid _ from hbw4
        rw [allocSize] at l7
        clear hrwy hbw4 hown4 hgr4 HB3 HR3
        go_wp2_with (at_make; refine wpList_make_full _ rfl _ _ 38 rfl 0 43 i0 (.agg #[.pointer none]) 1 Try.underlying38 hi0 hz0 hz1 .i64 .i64 _ _ nz rfl rfl (by omega) (by omega) (by rw [hz2]; omega) (by unfold maxLen; omega) (Nat.zero_le _) ?_)
        intro w5 hown5 hgr5
        have HR5 := show Hid _ from row_of2 hown5
        have HB5 := show Hid _ from grown_below hgr5
        clear hown5 hgr5
        go_wp2_with (at_make; refine wpList_make_full _ rfl _ _ 39 rfl 0 4 i1 (.bool false) 1 Try.underlying39 hi1 hy0 hy1 .i64 .i64 _ _ nz rfl rfl (by omega) (by omega) (by rw [hy2]; omega) (by unfold maxLen; omega) (Nat.zero_le _) ?_)
        intro w6 hown6 hgr6
        obtain ⟨l9, l10, hrwz, hbw6⟩ := rw_new (X := Z) rfl HB5.out HR5.out (grown_below hgr6) (row_of2 hown6)
        have HP : Hid (P2 w w6 w.heap.size (w.heap.size + 1) xo wr.heap.size (wr.heap.size + 1) w3.heap.size w4.heap.size w5.heap.size nx ny nz 0 0 X Y Z) := by
          have t1 := Stp.alloc (F := w.heap.size) (.cells #[.slice a0 u0 c0, .int .i64 s0, .slice a1 u1 c1, .int .i64 s1, .slice a2 u2 c2, .int .i64 s2, .slice a3 u3 c3, .int .i64 s3] 37) hsz
          have t2 := Stp.of_below (F := w.heap.size) (by simp; omega) HB4.out
          have t3 := Stp.of_below (F := w.heap.size) (by omega) hbw6
          have t4 := (t1.trans t2).trans t3
          have t5 := t2.trans t3
          exact ⟨t4.maker HM.out (fun h => by rcases h with (h | h) | h <;> exact h), t5.maker HM2.out (fun h => by rcases h with h | h <;> exact h), HR.out.keep t4 (fun h => by rcases h with (h | h) | h <;> exact h) (fun h => by rcases h with (h | h) | h <;> exact h), HRY.out.keep t3 (fun h => h) (fun h => h), hrwz, HB.out.trans ⟨t4.os, t4.tape, t4.output, t4.size, t4.low⟩⟩
        clear hrwz hbw6 hown6 hgr6 HB5 HR5 HRY HB4 HM2 HM HR HB
        have hg2 : xo < wr.heap.size := l6
        generalize w3.heap.size = yo at *
        generalize w4.heap.size = zv at *
        generalize w5.heap.size = zo at *
        clear l5 l6 hsz
        by_cases hmx : ny < nz
        · go_wp2
          go_loopw [19] (fun v wq => ∃ i : Nat, i ≤ nz ∧ v = .int .i64 i ∧ P2 w wq w.heap.size (w.heap.size + 1) xo wr.heap.size (wr.heap.size + 1) yo zv zo nx ny nz (min i ny) (min i nz) X Y Z) (fun v _ => nz - (intOf v).toNat)
          case atStart => exact ⟨0, by omega, rfl, by rw [Nat.zero_min, Nat.zero_min]; exact HP.out⟩
          case round =>
            rename World => wq
            clear HP
            obtain ⟨i, hi, rfl, hp0⟩ := hrel
            by_cases hlt : i < nz
            · by_cases hyl : i < ny
              · by_cases hzl : i < nz
                · have HP : Hid (P2 w wq w.heap.size (w.heap.size + 1) xo wr.heap.size (wr.heap.size + 1) yo zv zo nx ny nz i i X Y Z) := by
                    have := hp0
                    rw [show min i ny = i by omega, show min i nz = i by omega] at this
                    exact this
                  clear hp0
                  obtain ⟨qy, ry, rfl, hqy, hcy⟩ := HY.out (by omega)
                  have cy : wq.cell? ⟨qy, ry + i, none⟩ = some (.float .f64 (Y i)) := (HP.out.below.cell (p := ⟨qy, ry + i, none⟩) hqy).trans (hcy i (by omega))
                  clear hcy
                  go_wp2_with fail
                  refine (number8_any2 w.heap.size w.heap.size (Y i) wq (LY.out i (by omega)) (by omega) HP.out.m1).mono ?_
                  rintro e wqb ⟨ay, rfl, hv, st, hm3⟩
                  have hr3 := HP.out.y.keep st (by omega) (by omega)
                  obtain ⟨⟨v0, hv0⟩, vf, ⟨o0, ho0⟩, of'⟩ := hr3.spot i (by omega)
                  obtain ⟨_, _, n5, n6⟩ := hr3.noF
                  have HN : Hid (∀ x, P2 w (put2 wqb (wr.heap.size + 1) yo i ay (Fl.fin (Y i)) x) w.heap.size (w.heap.size + 1) xo wr.heap.size (wr.heap.size + 1) yo zv zo nx ny nz (i + 1) i X Y Z) := fun x => HP.out.ynext (Nat.le_refl _) (by omega) (by omega) (by omega) (by omega) (by omega) (by omega) (by omega) (by omega) x hv st hm3
                  have HLOW : Hid (Below w.heap.size w wqb) := HP.out.below.trans ⟨st.os, st.tape, st.output, st.size, st.low⟩
                  clear hv st hm3 hr3 HP
                  have n1 : (wr.heap.size + 1) ≠ wqb.heap.size := by omega
                  have n2 : yo ≠ wqb.heap.size := by omega
                  have n3 : (wr.heap.size + 1) ≠ yo := by omega
                  have n4 : yo ≠ (wr.heap.size + 1) := by omega
                  generalize hfx : Fl.fin (Y i) = fy at *
                  clear hfx
                  obtain ⟨qz, rz, rfl, hqz, hcz⟩ := HZ.out (by omega)
                  have cz : wqb.cell? ⟨qz, rz + i, none⟩ = some (.float .f64 (Z i)) := (HLOW.out.cell (p := ⟨qz, rz + i, none⟩) hqz).trans (hcz i (by omega))
                  clear hcz
                  have m1 : qz ≠ wr.heap.size + 1 := by omega
                  have m2 : qz ≠ yo := by omega
                  have m3 : qz ≠ wqb.heap.size := by omega
                  have m4 : qz < wqb.heap.size := by omega
                  have m5 : wr.heap.size + 1 ≠ qz := by omega
                  have m6 : yo ≠ qz := by omega
                  go_wp2_with fail
                  have HP : Hid (P2 w (((wqb.setCell ⟨wr.heap.size + 1, i, none⟩ (.pointer ay)).setCell ⟨yo, i, none⟩ (.bool fy)).alloc (.cells #[.pointer ay] 43)) w.heap.size (w.heap.size + 1) xo wr.heap.size (wr.heap.size + 1) yo zv zo nx ny nz (i + 1) i X Y Z) := HN.out _
                  clear HN HLOW hv0 vf ho0 of' n1 n2 n3 n4 m1 m2 m3 m4 m5 m6 cz n5 n6
                  generalize (((wqb.setCell ⟨wr.heap.size + 1, i, none⟩ (.pointer ay)).setCell ⟨yo, i, none⟩ (.bool fy)).alloc (.cells #[.pointer ay] 43)) = w7 at *
                  refine (number8_any2 wr.heap.size w.heap.size (Z i) w7 (LZ.out i (by omega)) (by omega) HP.out.m2).mono ?_
                  rintro e w7b ⟨az, rfl, hv, st, hm3⟩
                  have hr3 := HP.out.z.keep st (by omega) (by omega)
                  obtain ⟨⟨v0, hv0⟩, vf, ⟨o0, ho0⟩, of'⟩ := hr3.spot i (by omega)
                  obtain ⟨_, _, n5, n6⟩ := hr3.noF
                  have HN : Hid (∀ x, P2 w (put2 w7b zv zo i az (Fl.fin (Z i)) x) w.heap.size (w.heap.size + 1) xo wr.heap.size (wr.heap.size + 1) yo zv zo nx ny nz (i + 1) (i + 1) X Y Z) := fun x => HP.out.znext (Nat.le_refl _) (by omega) (by omega) (by omega) (by omega) (by omega) (by omega) (by omega) (by omega) x hv st hm3
                  have HLOW : Hid (Below w.heap.size w w7b) := HP.out.below.trans ⟨st.os, st.tape, st.output, st.size, st.low⟩
                  clear hv st hm3 hr3 HP
                  have n1 : zv ≠ w7b.heap.size := by omega
                  have n2 : zo ≠ w7b.heap.size := by omega
                  have n3 : zv ≠ zo := by omega
                  have n4 : zo ≠ zv := by omega
                  generalize hfx : Fl.fin (Z i) = fz at *
                  clear hfx
                  go_wp2
                  go_roundw
                  case rel => exact ⟨i + 1, by omega, by go_num, by rw [show min (i + 1) ny = i + 1 by omega, show min (i + 1) nz = i + 1 by omega]; exact HN.out _⟩
                  case measure => simp [intOf]; omega
                · omega
              · have hzl : i < nz := hlt
                have HP : Hid (P2 w wq w.heap.size (w.heap.size + 1) xo wr.heap.size (wr.heap.size + 1) yo zv zo nx ny nz ny i X Y Z) := by
                  have := hp0
                  rw [show min i ny = ny by omega, show min i nz = i by omega] at this
                  exact this
                clear hp0
                obtain ⟨qz, rz, rfl, hqz, hcz⟩ := HZ.out (by omega)
                have cz : wq.cell? ⟨qz, rz + i, none⟩ = some (.float .f64 (Z i)) := (HP.out.below.cell (p := ⟨qz, rz + i, none⟩) hqz).trans (hcz i (by omega))
                clear hcz
                go_wp2_with fail
                refine (number8_any2 wr.heap.size w.heap.size (Z i) wq (LZ.out i (by omega)) (by omega) HP.out.m2).mono ?_
                rintro e wqb ⟨az, rfl, hv, st, hm3⟩
                have hr3 := HP.out.z.keep st (by omega) (by omega)
                obtain ⟨⟨v0, hv0⟩, vf, ⟨o0, ho0⟩, of'⟩ := hr3.spot i (by omega)
                obtain ⟨_, _, n5, n6⟩ := hr3.noF
                have HN : Hid (∀ x, P2 w (put2 wqb zv zo i az (Fl.fin (Z i)) x) w.heap.size (w.heap.size + 1) xo wr.heap.size (wr.heap.size + 1) yo zv zo nx ny nz ny (i + 1) X Y Z) := fun x => HP.out.znext (Nat.le_refl _) (by omega) (by omega) (by omega) (by omega) (by omega) (by omega) (by omega) (by omega) x hv st hm3
                have HLOW : Hid (Below w.heap.size w wqb) := HP.out.below.trans ⟨st.os, st.tape, st.output, st.size, st.low⟩
                clear hv st hm3 hr3 HP
                have n1 : zv ≠ wqb.heap.size := by omega
                have n2 : zo ≠ wqb.heap.size := by omega
                have n3 : zv ≠ zo := by omega
                have n4 : zo ≠ zv := by omega
                generalize hfx : Fl.fin (Z i) = fz at *
                clear hfx
                go_wp2
                go_roundw
                case rel => exact ⟨i + 1, by omega, by go_num, by rw [show min (i + 1) ny = ny by omega, show min (i + 1) nz = i + 1 by omega]; exact HN.out _⟩
                case measure => simp [intOf]; omega
            · have hiN : nz = i := by omega
              subst hiN
              have HP : Hid (P2 w wq w.heap.size (w.heap.size + 1) xo wr.heap.size (wr.heap.size + 1) yo zv zo nx ny nz ny nz X Y Z) := by
                have := hp0
                rw [show min nz ny = ny by omega, show min nz nz = nz by omega] at this
                exact this
              clear hp0
              go_wp2_with fail
              refine (allRead_rw (w.heap.size + 1) xo nx xc sx X wq (by omega) HP.out.x (fun h => by obtain ⟨xb, xo, e1, e2, e3⟩ := HX.out h; exact ⟨xb, xo, e1, Nat.lt_of_lt_of_le e2 HP.out.below.size, fun j hj => (HP.out.below.cell (p := ⟨xb, xo + j, none⟩) e2).trans (e3 j hj)⟩)).mono ?_
              rintro e w7 ⟨rfl, hb7⟩
              have t7 := Stp.of_below (F := w.heap.size) HP.out.below.size hb7
              have HY7 : Hid (Rw w7 (wr.heap.size + 1) yo ny ny Y) := HP.out.y.keep t7 (fun h => h) (fun h => h)
              have HZ7 : Hid (Rw w7 zv zo nz nz Z) := HP.out.z.keep t7 (fun h => h) (fun h => h)
              have HB7 : Hid (Below w.heap.size w w7) := HP.out.below.trans (hb7.mono HP.out.below.size)
              clear t7 hb7 HP
              go_wp2_with fail
              refine (allRead_rw (wr.heap.size + 1) yo ny yc sy Y w7 (by omega) HY7.out (fun h => by obtain ⟨xb, xo, e1, e2, e3⟩ := HY.out h; exact ⟨xb, xo, e1, Nat.lt_of_lt_of_le e2 HB7.out.size, fun j hj => (HB7.out.cell (p := ⟨xb, xo + j, none⟩) e2).trans (e3 j hj)⟩)).mono ?_
              rintro e w8 ⟨rfl, hb8⟩
              have t8 := Stp.of_below (F := w.heap.size) HB7.out.size hb8
              have HZ8 : Hid (Rw w8 zv zo nz nz Z) := HZ7.out.keep t8 (fun h => h) (fun h => h)
              have HB8 : Hid (Below w.heap.size w w8) := HB7.out.trans (hb8.mono HB7.out.size)
              clear t8 hb8 HY7 HZ7
              go_wp2_with fail
              refine (allRead_rw zv zo nz zc sz Z w8 (by omega) HZ8.out (fun h => by obtain ⟨xb, xo, e1, e2, e3⟩ := HZ.out h; exact ⟨xb, xo, e1, Nat.lt_of_lt_of_le e2 HB8.out.size, fun j hj => (HB8.out.cell (p := ⟨xb, xo + j, none⟩) e2).trans (e3 j hj)⟩)).mono ?_
              rintro e w9 ⟨rfl, hb9⟩
              go_wp2
              go_ret
              exact ⟨rfl, HB8.out.trans (hb9.mono HB8.out.size)⟩
        · go_wp2
          go_loopw [19] (fun v wq => ∃ i : Nat, i ≤ ny ∧ v = .int .i64 i ∧ P2 w wq w.heap.size (w.heap.size + 1) xo wr.heap.size (wr.heap.size + 1) yo zv zo nx ny nz (min i ny) (min i nz) X Y Z) (fun v _ => ny - (intOf v).toNat)
          case atStart => exact ⟨0, by omega, rfl, by rw [Nat.zero_min, Nat.zero_min]; exact HP.out⟩
          case round =>
            rename World => wq
            clear HP
            obtain ⟨i, hi, rfl, hp0⟩ := hrel
            by_cases hlt : i < ny
            · by_cases hyl : i < ny
              · by_cases hzl : i < nz
                · have HP : Hid (P2 w wq w.heap.size (w.heap.size + 1) xo wr.heap.size (wr.heap.size + 1) yo zv zo nx ny nz i i X Y Z) := by
                    have := hp0
                    rw [show min i ny = i by omega, show min i nz = i by omega] at this
                    exact this
                  clear hp0
                  obtain ⟨qy, ry, rfl, hqy, hcy⟩ := HY.out (by omega)
                  have cy : wq.cell? ⟨qy, ry + i, none⟩ = some (.float .f64 (Y i)) := (HP.out.below.cell (p := ⟨qy, ry + i, none⟩) hqy).trans (hcy i (by omega))
                  clear hcy
                  go_wp2_with fail
                  refine (number8_any2 w.heap.size w.heap.size (Y i) wq (LY.out i (by omega)) (by omega) HP.out.m1).mono ?_
                  rintro e wqb ⟨ay, rfl, hv, st, hm3⟩
                  have hr3 := HP.out.y.keep st (by omega) (by omega)
                  obtain ⟨⟨v0, hv0⟩, vf, ⟨o0, ho0⟩, of'⟩ := hr3.spot i (by omega)
                  obtain ⟨_, _, n5, n6⟩ := hr3.noF
                  have HN : Hid (∀ x, P2 w (put2 wqb (wr.heap.size + 1) yo i ay (Fl.fin (Y i)) x) w.heap.size (w.heap.size + 1) xo wr.heap.size (wr.heap.size + 1) yo zv zo nx ny nz (i + 1) i X Y Z) := fun x => HP.out.ynext (Nat.le_refl _) (by omega) (by omega) (by omega) (by omega) (by omega) (by omega) (by omega) (by omega) x hv st hm3
                  have HLOW : Hid (Below w.heap.size w wqb) := HP.out.below.trans ⟨st.os, st.tape, st.output, st.size, st.low⟩
                  clear hv st hm3 hr3 HP
                  have n1 : (wr.heap.size + 1) ≠ wqb.heap.size := by omega
                  have n2 : yo ≠ wqb.heap.size := by omega
                  have n3 : (wr.heap.size + 1) ≠ yo := by omega
                  have n4 : yo ≠ (wr.heap.size + 1) := by omega
                  generalize hfx : Fl.fin (Y i) = fy at *
                  clear hfx
                  obtain ⟨qz, rz, rfl, hqz, hcz⟩ := HZ.out (by omega)
                  have cz : wqb.cell? ⟨qz, rz + i, none⟩ = some (.float .f64 (Z i)) := (HLOW.out.cell (p := ⟨qz, rz + i, none⟩) hqz).trans (hcz i (by omega))
                  clear hcz
                  have m1 : qz ≠ wr.heap.size + 1 := by omega
                  have m2 : qz ≠ yo := by omega
                  have m3 : qz ≠ wqb.heap.size := by omega
                  have m4 : qz < wqb.heap.size := by omega
                  have m5 : wr.heap.size + 1 ≠ qz := by omega
                  have m6 : yo ≠ qz := by omega
                  go_wp2_with fail
                  have HP : Hid (P2 w (((wqb.setCell ⟨wr.heap.size + 1, i, none⟩ (.pointer ay)).setCell ⟨yo, i, none⟩ (.bool fy)).alloc (.cells #[.pointer ay] 43)) w.heap.size (w.heap.size + 1) xo wr.heap.size (wr.heap.size + 1) yo zv zo nx ny nz (i + 1) i X Y Z) := HN.out _
                  clear HN HLOW hv0 vf ho0 of' n1 n2 n3 n4 m1 m2 m3 m4 m5 m6 cz n5 n6
                  generalize (((wqb.setCell ⟨wr.heap.size + 1, i, none⟩ (.pointer ay)).setCell ⟨yo, i, none⟩ (.bool fy)).alloc (.cells #[.pointer ay] 43)) = w7 at *
                  refine (number8_any2 wr.heap.size w.heap.size (Z i) w7 (LZ.out i (by omega)) (by omega) HP.out.m2).mono ?_
                  rintro e w7b ⟨az, rfl, hv, st, hm3⟩
                  have hr3 := HP.out.z.keep st (by omega) (by omega)
                  obtain ⟨⟨v0, hv0⟩, vf, ⟨o0, ho0⟩, of'⟩ := hr3.spot i (by omega)
                  obtain ⟨_, _, n5, n6⟩ := hr3.noF
                  have HN : Hid (∀ x, P2 w (put2 w7b zv zo i az (Fl.fin (Z i)) x) w.heap.size (w.heap.size + 1) xo wr.heap.size (wr.heap.size + 1) yo zv zo nx ny nz (i + 1) (i + 1) X Y Z) := fun x => HP.out.znext (Nat.le_refl _) (by omega) (by omega) (by omega) (by omega) (by omega) (by omega) (by omega) (by omega) x hv st hm3
                  have HLOW : Hid (Below w.heap.size w w7b) := HP.out.below.trans ⟨st.os, st.tape, st.output, st.size, st.low⟩
                  clear hv st hm3 hr3 HP
                  have n1 : zv ≠ w7b.heap.size := by omega
                  have n2 : zo ≠ w7b.heap.size := by omega
                  have n3 : zv ≠ zo := by omega
                  have n4 : zo ≠ zv := by omega
                  generalize hfx : Fl.fin (Z i) = fz at *
                  clear hfx
                  go_wp2
                  go_roundw
                  case rel => exact ⟨i + 1, by omega, by go_num, by rw [show min (i + 1) ny = i + 1 by omega, show min (i + 1) nz = i + 1 by omega]; exact HN.out _⟩
                  case measure => simp [intOf]; omega
                · have HP : Hid (P2 w wq w.heap.size (w.heap.size + 1) xo wr.heap.size (wr.heap.size + 1) yo zv zo nx ny nz i nz X Y Z) := by
                    have := hp0
                    rw [show min i ny = i by omega, show min i nz = nz by omega] at this
                    exact this
                  clear hp0
                  obtain ⟨qy, ry, rfl, hqy, hcy⟩ := HY.out (by omega)
                  have cy : wq.cell? ⟨qy, ry + i, none⟩ = some (.float .f64 (Y i)) := (HP.out.below.cell (p := ⟨qy, ry + i, none⟩) hqy).trans (hcy i (by omega))
                  clear hcy
                  go_wp2_with fail
                  refine (number8_any2 w.heap.size w.heap.size (Y i) wq (LY.out i (by omega)) (by omega) HP.out.m1).mono ?_
                  rintro e wqb ⟨ay, rfl, hv, st, hm3⟩
                  have hr3 := HP.out.y.keep st (by omega) (by omega)
                  obtain ⟨⟨v0, hv0⟩, vf, ⟨o0, ho0⟩, of'⟩ := hr3.spot i (by omega)
                  obtain ⟨_, _, n5, n6⟩ := hr3.noF
                  have HN : Hid (∀ x, P2 w (put2 wqb (wr.heap.size + 1) yo i ay (Fl.fin (Y i)) x) w.heap.size (w.heap.size + 1) xo wr.heap.size (wr.heap.size + 1) yo zv zo nx ny nz (i + 1) nz X Y Z) := fun x => HP.out.ynext (Nat.le_refl _) (by omega) (by omega) (by omega) (by omega) (by omega) (by omega) (by omega) (by omega) x hv st hm3
                  have HLOW : Hid (Below w.heap.size w wqb) := HP.out.below.trans ⟨st.os, st.tape, st.output, st.size, st.low⟩
                  clear hv st hm3 hr3 HP
                  have n1 : (wr.heap.size + 1) ≠ wqb.heap.size := by omega
                  have n2 : yo ≠ wqb.heap.size := by omega
                  have n3 : (wr.heap.size + 1) ≠ yo := by omega
                  have n4 : yo ≠ (wr.heap.size + 1) := by omega
                  generalize hfx : Fl.fin (Y i) = fy at *
                  clear hfx
                  go_wp2
                  go_roundw
                  case rel => exact ⟨i + 1, by omega, by go_num, by rw [show min (i + 1) ny = i + 1 by omega, show min (i + 1) nz = nz by omega]; exact HN.out _⟩
                  case measure => simp [intOf]; omega
              · omega
            · have hiN : ny = i := by omega
              subst hiN
              have HP : Hid (P2 w wq w.heap.size (w.heap.size + 1) xo wr.heap.size (wr.heap.size + 1) yo zv zo nx ny nz ny nz X Y Z) := by
                have := hp0
                rw [show min ny ny = ny by omega, show min ny nz = nz by omega] at this
                exact this
              clear hp0
              go_wp2_with fail
              refine (allRead_rw (w.heap.size + 1) xo nx xc sx X wq (by omega) HP.out.x (fun h => by obtain ⟨xb, xo, e1, e2, e3⟩ := HX.out h; exact ⟨xb, xo, e1, Nat.lt_of_lt_of_le e2 HP.out.below.size, fun j hj => (HP.out.below.cell (p := ⟨xb, xo + j, none⟩) e2).trans (e3 j hj)⟩)).mono ?_
              rintro e w7 ⟨rfl, hb7⟩
              have t7 := Stp.of_below (F := w.heap.size) HP.out.below.size hb7
              have HY7 : Hid (Rw w7 (wr.heap.size + 1) yo ny ny Y) := HP.out.y.keep t7 (fun h => h) (fun h => h)
              have HZ7 : Hid (Rw w7 zv zo nz nz Z) := HP.out.z.keep t7 (fun h => h) (fun h => h)
              have HB7 : Hid (Below w.heap.size w w7) := HP.out.below.trans (hb7.mono HP.out.below.size)
              clear t7 hb7 HP
              go_wp2_with fail
              refine (allRead_rw (wr.heap.size + 1) yo ny yc sy Y w7 (by omega) HY7.out (fun h => by obtain ⟨xb, xo, e1, e2, e3⟩ := HY.out h; exact ⟨xb, xo, e1, Nat.lt_of_lt_of_le e2 HB7.out.size, fun j hj => (HB7.out.cell (p := ⟨xb, xo + j, none⟩) e2).trans (e3 j hj)⟩)).mono ?_
              rintro e w8 ⟨rfl, hb8⟩
              have t8 := Stp.of_below (F := w.heap.size) HB7.out.size hb8
              have HZ8 : Hid (Rw w8 zv zo nz nz Z) := HZ7.out.keep t8 (fun h => h) (fun h => h)
              have HB8 : Hid (Below w.heap.size w w8) := HB7.out.trans (hb8.mono HB7.out.size)
              clear t8 hb8 HY7 HZ7
              go_wp2_with fail
              refine (allRead_rw zv zo nz zc sz Z w8 (by omega) HZ8.out (fun h => by obtain ⟨xb, xo, e1, e2, e3⟩ := HZ.out h; exact ⟨xb, xo, e1, Nat.lt_of_lt_of_le e2 HB8.out.size, fun j hj => (HB8.out.cell (p := ⟨xb, xo + j, none⟩) e2).trans (e3 j hj)⟩)).mono ?_
              rintro e w9 ⟨rfl, hb9⟩
              go_wp2
              go_ret
              exact ⟨rfl, HB8.out.trans (hb9.mono HB8.out.size)⟩

end Go.Proofs.Qxb6614646a
