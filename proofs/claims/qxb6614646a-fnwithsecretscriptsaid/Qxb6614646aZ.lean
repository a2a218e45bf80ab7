/-
  FnWithSecretScript: the walk.
-/
import Derived.Test.Qxb6614646aY
import Derived.Test.Qxb6614646aX
import Derived.Deep.RegionWith
import Derived.BigQuiet
namespace Go.Proofs.Qxb6614646a
open Go.RowKit

theorem info9 : (Try.prog.info? 9).map (fun i => (i.zero, i.size, i.bytes)) = some (some (.string ByteArray.empty), 1, 16) := by kernel_rfl

theorem wrap64_k {k n : Nat} (hn : n ≤ 65536) (h : k < n) : wrap64 (k : Int) = k := Go.IntWalk.wrap64_in _ ⟨by omega, by omega⟩
theorem wrap_k {k n : Nat} (hn : n ≤ 65536) (h : k < n) : IntKind.i64.wrap (k : Int) = k := (Go.IntWalk.i64_left _).trans (wrap64_k hn h)
theorem below_step {w v y : World} (hb : Below v.heap.size v y) (e : Below w.heap.size w v) : Below w.heap.size w y := e.trans (hb.mono e.size)

set_option maxRecDepth 100000 in
set_option maxHeartbeats 3200000 in
theorem script5_main (x n c m d : Nat) (sa sb : Option Addr) (U : Nat → ByteArray) (B : Nat → Bool) (w : World) (hx : x < 18446744073709551616) (hn : n ≤ 65536) (hm : m ≤ 65536) (hu : IsStrs w sa n U) (hbs : IsBools w sb m B) :
    Calls Try.prog 5 #[.float .f64 x, .slice sa n c, .slice sb m d] w fun e w' => e = .returned (.bool true) ∧ Below w.heap.size w w' := by
  obtain ⟨i0, hi0, hz0, hz1, hz2⟩ := info_parts info9
  have HU : Hid (IsStrs w sa n U) := hu
  have HBS : Hid (IsBools w sb m B) := hbs
  clear hu hbs
  have h11 := bytes11_any x sa sb n c m d U w HU.out (by unfold maxLen; omega)
  go_enter Try.func5, Try.ntmps5
  go_wp2_with fail
  refine h11.mono ?_
  rintro e w' ⟨z, rfl, hw, hz⟩
  rw [hw]
  clear hw h11
  cases z with
  | false =>
    go_wp2
    go_ret
    exact ⟨rfl, Below.refl _ _⟩
  | true =>
    have HL : Hid (∀ j, j < n → (U j).size ≤ 1048576) := hz rfl
    clear hz
    go_wp2
    go_loopw [7, 8] (fun v7 v8 wr => ∃ i t : Nat, i ≤ n ∧ t ≤ 524288 ∧ v8 = .int .i64 i ∧ v7 = .int .i64 t ∧ wr = w) (fun _ v _ => n - (intOf v).toNat)
    case atStart => exact ⟨0, 0, by omega, by omega, rfl, rfl, rfl⟩
    case round =>
      obtain ⟨i, t, hi, ht, rfl, rfl, hwr⟩ := hrel
      replace hwr := hwr.symm
      subst hwr
      by_cases hlt : i < n
      · obtain ⟨ub, uo, rfl, hub, hcu⟩ := HU.out.2.2 (by omega)
        have cu := hcu i hlt
        have lu := HL.out i hlt
        generalize U i = u at *
        clear hcu
        by_cases h3 : 524288 < t + (16 + u.size)
        · go_wp2
          go_ret
          exact ⟨rfl, Below.refl _ _⟩
        · go_wp2
          go_roundw
          case rel => exact ⟨i + 1, t + (16 + u.size), by omega, by omega, by go_num, by go_num, trivial⟩
          case measure => simp [intOf]; omega
      · have hin : n = i := by omega
        subst hin
        clear ht hi hlt
        go_wp2
        go_loopw [9] (fun v wr => ∃ i : Nat, i ≤ n ∧ v = .int .i64 i ∧ Below w.heap.size w wr) (fun v _ => n - (intOf v).toNat)
        case atStart => exact ⟨0, by omega, rfl, Below.refl _ _⟩
        case round =>
          obtain ⟨i, hi, rfl, hb2⟩ := hrel
          have HB2 : Hid (Below w.heap.size w wr) := hb2
          clear hb2
          have HUr : Hid (IsStrs wr sa n U) := HU.out.below HB2.out (Nat.le_refl _)
          by_cases hlt : i < n
          · obtain ⟨ub, uo, rfl, hub, hcu⟩ := HUr.out.2.2 (by omega)
            have cu := hcu i hlt
            have lu : (U i).size ≤ 1048576 := HL.out i hlt
            have HCU : Hid (∀ j, j < n → wr.cell? ⟨ub, uo + j, none⟩ = some (.string (U j))) := hcu
            clear hcu
            go_wp2_with fail
            refine (utf12_any (U i) _ lu).mono ?_
            rintro e w2 ⟨⟨z, rfl⟩, hw⟩
            rw [hw]
            clear hw
            cases z with
            | false =>
              go_wp2
              go_ret
              exact ⟨rfl, HB2.out⟩
            | true =>
              by_cases hz : i = 0
              · subst hz
                go_wp2
                go_quiet (fail)
                go_wp2
                go_roundw
                case rel => exact ⟨1, by omega, by go_num, HB2.out.trans (drewN_below _)⟩
                case measure => simp [intOf]; omega
              · obtain ⟨k, hk⟩ : ∃ k, k + 1 = i := ⟨i - 1, by omega⟩
                have hk0 : (i : Int) - 1 = (k : Int) := by omega
                have hk1 : k < n := by omega
                have hk2 : 0 < i := by omega
                have hk8 : (0 : Int) ≤ (k : Int) := by omega
                have hk9 : (k : Int) < n := by omega
                have hk6 : IntKind.i64.wrap (k : Int) = k := wrap_k hn hk1
                have hk7 : wrap64 (k : Int) = k := wrap64_k hn hk1
                clear hk hz
                have cv := HCU.out k hk1
                have LV : Hid ((U k).size ≤ 1048576) := HL.out k hk1
                have LU : Hid ((U i).size ≤ 1048576) := HL.out i hlt
                clear lu
                generalize U k = uk at *
                generalize U i = ui at *
                go_wp2
                go_quiet ((go_at_call 13; exact Calls.quiet_of (less13_any uk ui _ LV.out LU.out)))
                clear hk6 hk7 hk8 hk9 hk0
                cases hz : lessB uk ui with
                | false =>
                  go_wp2
                  go_ret
                  exact ⟨rfl, HB2.out.trans (drewN_below _)⟩
                | true =>
                  go_wp2
                  go_roundw
                  case rel => exact ⟨i + 1, by omega, by go_num, HB2.out.trans (drewN_below _)⟩
                  case measure => simp [intOf]; omega
          · have hin : n = i := by omega
            subst hin
            clear hi hlt HUr
            go_wp2_with (at_make; refine wpList_make_full _ rfl _ _ 49 rfl 0 9 i0 (.string ByteArray.empty) 1 Try.underlying49 hi0 hz0 hz1 .i64 .i64 _ _ n rfl rfl (by omega) (by omega) (by rw [hz2]; omega) (by unfold maxLen; omega) (Nat.zero_le _) ?_)
            intro w1 hown1 hgr1
            have hb1 := grown_below hgr1
            obtain ⟨cs, hr1, hc1⟩ := row_of hown1
            have HC : Hid (C5 w w1 wr.heap.size n 0 U) := ⟨⟨cs, hr1, hc1, fun j hj => by omega⟩, HB2.out.size, HB2.out.trans (hb1.mono HB2.out.size)⟩
            clear hb1 hr1 hown1 hgr1 hc1 cs HB2
            generalize wr.heap.size = cb at *
            go_wp2
            go_loopw [11] (fun v wr => ∃ k : Nat, k ≤ n ∧ v = .int .i64 k ∧ C5 w wr cb n k U) (fun v _ => n - (intOf v).toNat)
            case atStart => exact ⟨0, by omega, rfl, HC.out⟩
            case round =>
              clear HC
              obtain ⟨k, hk, rfl, hc⟩ := hrel
              have HC : Hid (C5 w wr cb n k U) := hc
              clear hc
              have HUr : Hid (IsStrs wr sa n U) := HU.out.below HC.out.below (Nat.le_refl _)
              by_cases hlt : k < n
              · obtain ⟨ub, uo, rfl, hub, hcu⟩ := HUr.out.2.2 (by omega)
                have cu := hcu k hlt
                obtain ⟨cs, r1, r2, r3⟩ := HC.out.row
                obtain ⟨v0, c0⟩ : ∃ v, wr.cell? ⟨cb, k, none⟩ = some v := ⟨cs[k]'(by omega), by rw [cell_of_row _ _ _ _ _ _ r1, Array.getElem?_eq_getElem (by omega)]⟩
                have f0 : wr.frozen? ⟨cb, k, none⟩ = false := by simp [World.frozen?, r1]
                have hcb : cb < wr.heap.size := (Array.getElem?_eq_some_iff.1 r1).1
                have HN : Hid (C5 w (wr.setCell ⟨cb, k, none⟩ (.string (U k))) cb n (k + 1) U) := HC.out.next hlt
                clear hcu r1 r2 r3 HUr HC cs
                go_wp2
                go_roundw
                case rel => exact ⟨k + 1, by omega, by go_num, HN.out⟩
                case measure => simp [intOf]; omega
              · have hkn : n = k := by omega
                subst hkn
                clear hk hlt
                have hb := HC.out.below
                have HCP : Hid (IsStrs wr (some ⟨cb, 0, none⟩) n U) := HC.out.strs HUr.out.1 HUr.out.2.1
                have HSB : Hid (IsBools wr sb m B) := HBS.out.below hb (Nat.le_refl _)
                have HW : Hid (Below w.heap.size w wr) := hb
                clear hb HC
                go_wp2_with fail
                refine (number8_zero x wr hx).mono ?_
                rintro e w1 ⟨a, rfl, hi, hb, hz1⟩
                have HI : Hid (IsVal w1 0 a x) := hi
                replace HUr : Hid (IsStrs w1 sa n U) := HUr.out.below hb (Nat.le_refl _)
                replace HCP : Hid (IsStrs w1 (some ⟨cb, 0, none⟩) n U) := HCP.out.below hb (Nat.le_refl _)
                replace HSB : Hid (IsBools w1 sb m B) := HSB.out.below hb (Nat.le_refl _)
                have hwz : w.heap.size ≤ w1.heap.size := Nat.le_trans HW.out.size hb.size
                replace HW : Hid (Below w.heap.size w w1) := HW.out.trans (hb.mono HW.out.size)
                clear hi hb hz1
                by_cases hn0 : n = 0
                · have hn0i : (n : Int) = 0 := by omega
                  go_wp2
                  have hb : Below w1.heap.size w1 ((w1.alloc (.cells #[.pointer a] 43)).alloc (.cells #[.pointer a] 43)) := ((Below.refl _ _).alloc (Nat.le_refl _) _).alloc (by simp) _
                  have HG : Hid (((w1.alloc (.cells #[.pointer a] 43)).alloc (.cells #[.pointer a] 43)).heap[w1.heap.size + 1]? = some (.cells #[.pointer a] 43 (0, 0))) := heap_alloc_at _ _ _ (by simp)
                  have hs2 : w1.heap.size + 1 < ((w1.alloc (.cells #[.pointer a] 43)).alloc (.cells #[.pointer a] 43)).heap.size := by simp
                  replace HI : Hid (IsVal ((w1.alloc (.cells #[.pointer a] 43)).alloc (.cells #[.pointer a] 43)) 0 a x) := isVal_below HI.out hb (Nat.le_refl _)
                  replace HUr : Hid (IsStrs ((w1.alloc (.cells #[.pointer a] 43)).alloc (.cells #[.pointer a] 43)) sa n U) := HUr.out.below hb (Nat.le_refl _)
                  replace HCP : Hid (IsStrs ((w1.alloc (.cells #[.pointer a] 43)).alloc (.cells #[.pointer a] 43)) (some ⟨cb, 0, none⟩) n U) := HCP.out.below hb (Nat.le_refl _)
                  replace HSB : Hid (IsBools ((w1.alloc (.cells #[.pointer a] 43)).alloc (.cells #[.pointer a] 43)) sb m B) := HSB.out.below hb (Nat.le_refl _)
                  replace HW : Hid (Below w.heap.size w ((w1.alloc (.cells #[.pointer a] 43)).alloc (.cells #[.pointer a] 43))) := HW.out.trans (hb.mono hwz)
                  clear hb
                  generalize ((w1.alloc (.cells #[.pointer a] 43)).alloc (.cells #[.pointer a] 43)) = w2 at *
                  generalize w1.heap.size = g13 at *

                  have HS : Hid (S5 w w2 x n m sa sb none U B (g13 + 1) a a false) := ⟨HUr.out, HSB.out, HI.out, Or.inl ⟨isVal_plain HI.out, rfl, rfl, rfl⟩, HG.out, Or.inl ⟨hn0, rfl⟩, by omega, HW.out⟩
                  clear HUr HSB HI HCP HW HG hs2
                  go_loopw [16] (fun v wr => ∃ k : Nat, k ≤ m ∧ v = .int .i64 k ∧ ∃ b' s, S5 w wr x n m sa sb none U B (g13 + 1) a b' s) (fun v _ => m - (intOf v).toNat)
                  case atStart => exact ⟨0, by omega, rfl, _, _, HS.out⟩
                  case round =>
                    clear HS
                    obtain ⟨k, hk, rfl, b', s, hs⟩ := hrel
                    have HS : Hid (S5 w wr x n m sa sb none U B (g13 + 1) a b' s) := hs
                    clear hs
                    by_cases hlt : k < m
                    · obtain ⟨bb, bo, rfl, hbb, hcb⟩ := HS.out.sb.2 (by omega)
                      have cbk := hcb k hlt
                      clear hcb
                      have cg := HS.out.cell
                      have lg := HS.out.lt
                      go_wp2
                      go_region_with (go_at_call 15; refine (withSecret15_any b' a none s (B k) _ ?h1 ?h2).mono ?_; (case h1 => exact HS.out.v); (case h2 => exact isVal_plain HS.out.i); rintro e y ⟨b2, rfl, hv, hq, hb⟩; clear hq; have HS2 : Hid (S5 w y x n m sa (some ⟨bb, bo, none⟩) none U B (g13 + 1) a b' s) := HS.out.nextD hb ⟨rfl, rfl, rfl, Nat.le_refl _, fun _ _ => rfl⟩; have HP : Hid (S5 w (y.setCell ⟨g13 + 1, 0, none⟩ (.pointer b2)) x n m sa (some ⟨bb, bo, none⟩) none U B (g13 + 1) a b2 (B k)) := HS2.out.put hv; have cy := HS2.out.cell; have fy := HS2.out.froz; have ly := HS2.out.lt; clear hv hb HS2)
                      all_goals
                        clear HS cg lg cbk cy fy ly
                        generalize y.setCell ⟨g13 + 1, 0, none⟩ (.pointer b2) = w5 at *
                        clear y
                        have cg := HP.out.cell
                        have cbk := HP.out.sb.at hlt
                        have lg := HP.out.lt
                        have hbb5 : bb < w5.heap.size := lt_of_cell cbk
                        have hxx : (B k != B k) = false := by cases B k <;> rfl
                        go_wp2
                        go_region_held3 (fun w' => w'.cell? ⟨g13 + 1, 0, none⟩ = some (.pointer b2) ∧ w'.cell? ⟨bb, bo + k, none⟩ = some (.bool (B k))) (exact ⟨HP.out.cell, HP.out.sb.at hlt⟩)
                          ((go_at_call 16; refine (secret16_any b2 a none (B k) _ ?hh).mono ?_; (case hh => exact HP.out.v); rintro e y2 ⟨rfl, hb⟩; replace HP : Hid (S5 w y2 x n m sa (some ⟨bb, bo, none⟩) none U B (g13 + 1) a b2 (B k)) := HP.out.nextD hb ⟨rfl, rfl, rfl, Nat.le_refl _, fun _ _ => rfl⟩; clear hb))
                        all_goals
                          have HP0 := HP
                          clear cg cbk lg hbb5
                          have cg := HP.out.cell
                          have lg := HP.out.lt
                          go_wp2_with fail
                          refine (zzplain18_any b2 a none (B k) _ ?h3).mono ?_
                          (case h3 => exact HP.out.v)
                          rintro e y3 ⟨rfl, hb⟩
                          clear cg lg
                          replace HP : Hid (S5 w y3 x n m sa (some ⟨bb, bo, none⟩) none U B (g13 + 1) a b2 (B k)) := HP.out.nextD hb ⟨rfl, rfl, rfl, Nat.le_refl _, fun _ _ => rfl⟩
                          clear hb HP0
                          go_wp2_with fail
                          refine (plainIs17_any a 0 x _ ?h4).mono ?_
                          (case h4 => exact HP.out.i)
                          rintro e y4 ⟨rfl, hb⟩
                          replace HP : Hid (S5 w y4 x n m sa (some ⟨bb, bo, none⟩) none U B (g13 + 1) a b2 (B k)) := HP.out.nextD hb ⟨rfl, rfl, rfl, Nat.le_refl _, fun _ _ => rfl⟩
                          clear hb
                          go_wp2
                          go_roundw
                          case rel => exact ⟨k + 1, by omega, by go_num, b2, B k, HP.out⟩
                          case measure => simp [intOf]; omega
                    · have hkm : m = k := by omega
                      subst hkm
                      clear hk hlt
                      have cg := HS.out.cell
                      have lg := HS.out.lt
                      go_wp2_with fail
                      clear cg lg
                      refine (deps19_none b' a s wr HS.out.v).mono ?_
                      rintro e w6 ⟨rfl, hb⟩
                      have HW : Hid (Below w.heap.size w w6) := HS.out.below.trans (hb.mono HS.out.below.size)
                      clear hb HS
                      go_wp2
                      go_loopw [18] (fun v wr => v = .int .i64 (0 : Nat) ∧ wr = w6) (fun _ _ => 0)
                      case atStart => exact ⟨rfl, rfl⟩
                      case round =>
                        obtain ⟨rfl, hwr⟩ := hrel
                        replace hwr := hwr.symm
                        subst hwr
                        go_wp2
                        go_ret
                        exact ⟨rfl, HW.out⟩
                · have hnp : 0 < n := by omega
                  go_wp2_with fail
                  have hb : Below w1.heap.size w1 ((w1.alloc (.cells #[.pointer a] 43)).alloc (.cells #[.pointer a] 43)) := ((Below.refl _ _).alloc (Nat.le_refl _) _).alloc (by simp) _
                  have HG : Hid (((w1.alloc (.cells #[.pointer a] 43)).alloc (.cells #[.pointer a] 43)).heap[w1.heap.size + 1]? = some (.cells #[.pointer a] 43 (0, 0))) := heap_alloc_at _ _ _ (by simp)
                  have hs2 : w1.heap.size + 1 < ((w1.alloc (.cells #[.pointer a] 43)).alloc (.cells #[.pointer a] 43)).heap.size := by simp
                  replace HI : Hid (IsVal ((w1.alloc (.cells #[.pointer a] 43)).alloc (.cells #[.pointer a] 43)) 0 a x) := isVal_below HI.out hb (Nat.le_refl _)
                  replace HUr : Hid (IsStrs ((w1.alloc (.cells #[.pointer a] 43)).alloc (.cells #[.pointer a] 43)) sa n U) := HUr.out.below hb (Nat.le_refl _)
                  replace HCP : Hid (IsStrs ((w1.alloc (.cells #[.pointer a] 43)).alloc (.cells #[.pointer a] 43)) (some ⟨cb, 0, none⟩) n U) := HCP.out.below hb (Nat.le_refl _)
                  replace HSB : Hid (IsBools ((w1.alloc (.cells #[.pointer a] 43)).alloc (.cells #[.pointer a] 43)) sb m B) := HSB.out.below hb (Nat.le_refl _)
                  replace HW : Hid (Below w.heap.size w ((w1.alloc (.cells #[.pointer a] 43)).alloc (.cells #[.pointer a] 43))) := HW.out.trans (hb.mono hwz)
                  clear hb
                  generalize ((w1.alloc (.cells #[.pointer a] 43)).alloc (.cells #[.pointer a] 43)) = w2 at *
                  generalize w1.heap.size = g13 at *

                  refine (withDeps14_any a (some ⟨cb, 0, none⟩) n n w2 (isVal_plain HI.out)).mono ?_
                  rintro e w3 ⟨a', gd, rfl, hv, hcd, hb⟩
                  have c3 : w3.heap[g13 + 1]? = some (.cells #[.pointer a] 43 (0, 0)) := (hb.block _ hs2).trans HG.out
                  have HS : Hid (S5 w (w3.setCell ⟨g13 + 1, 0, none⟩ (.pointer a')) x n m sa sb (some ⟨gd, 0, none⟩) U B (g13 + 1) a a' false) := S5.start (HUr.out.below hb (Nat.le_refl _)) (HSB.out.below hb (Nat.le_refl _)) (isVal_below HI.out hb (Nat.le_refl _)) hv c3 (Or.inr ⟨hnp, gd, n, some ⟨cb, 0, none⟩, rfl, hcd, HCP.out.below hb (Nat.le_refl _)⟩) (by omega) (HW.out.trans (hb.mono HW.out.size))
                  have c0 : w3.cell? ⟨g13 + 1, 0, none⟩ = some (.pointer a) := cell_of_row _ _ _ _ _ _ c3
                  have f0 : w3.frozen? ⟨g13 + 1, 0, none⟩ = false := by simp [World.frozen?, c3]
                  clear hv hcd hb c3 HUr HSB HI HCP HW HG hs2
                  go_wp2
                  go_loopw [16] (fun v wr => ∃ k : Nat, k ≤ m ∧ v = .int .i64 k ∧ ∃ b' s, S5 w wr x n m sa sb (some ⟨gd, 0, none⟩) U B (g13 + 1) a b' s) (fun v _ => m - (intOf v).toNat)
                  case atStart => exact ⟨0, by omega, rfl, _, _, HS.out⟩
                  case round =>
                    clear HS
                    obtain ⟨k, hk, rfl, b', s, hs⟩ := hrel
                    have HS : Hid (S5 w wr x n m sa sb (some ⟨gd, 0, none⟩) U B (g13 + 1) a b' s) := hs
                    clear hs
                    by_cases hlt : k < m
                    · obtain ⟨bb, bo, rfl, hbb, hcb⟩ := HS.out.sb.2 (by omega)
                      have cbk := hcb k hlt
                      clear hcb
                      have cg := HS.out.cell
                      have lg := HS.out.lt
                      go_wp2
                      go_region_with (go_at_call 15; refine (withSecret15_any b' a (some ⟨gd, 0, none⟩) s (B k) _ ?h1 ?h2).mono ?_; (case h1 => exact HS.out.v); (case h2 => exact isVal_plain HS.out.i); rintro e y ⟨b2, rfl, hv, hq, hb⟩; clear hq; have HS2 : Hid (S5 w y x n m sa (some ⟨bb, bo, none⟩) (some ⟨gd, 0, none⟩) U B (g13 + 1) a b' s) := HS.out.nextD hb ⟨rfl, rfl, rfl, Nat.le_refl _, fun _ _ => rfl⟩; have HP : Hid (S5 w (y.setCell ⟨g13 + 1, 0, none⟩ (.pointer b2)) x n m sa (some ⟨bb, bo, none⟩) (some ⟨gd, 0, none⟩) U B (g13 + 1) a b2 (B k)) := HS2.out.put hv; have cy := HS2.out.cell; have fy := HS2.out.froz; have ly := HS2.out.lt; clear hv hb HS2)
                      all_goals
                        clear HS cg lg cbk cy fy ly
                        generalize y.setCell ⟨g13 + 1, 0, none⟩ (.pointer b2) = w5 at *
                        clear y
                        have cg := HP.out.cell
                        have cbk := HP.out.sb.at hlt
                        have lg := HP.out.lt
                        have hbb5 : bb < w5.heap.size := lt_of_cell cbk
                        have hxx : (B k != B k) = false := by cases B k <;> rfl
                        go_wp2
                        go_region_held3 (fun w' => w'.cell? ⟨g13 + 1, 0, none⟩ = some (.pointer b2) ∧ w'.cell? ⟨bb, bo + k, none⟩ = some (.bool (B k))) (exact ⟨HP.out.cell, HP.out.sb.at hlt⟩)
                          ((go_at_call 16; refine (secret16_any b2 a (some ⟨gd, 0, none⟩) (B k) _ ?hh).mono ?_; (case hh => exact HP.out.v); rintro e y2 ⟨rfl, hb⟩; replace HP : Hid (S5 w y2 x n m sa (some ⟨bb, bo, none⟩) (some ⟨gd, 0, none⟩) U B (g13 + 1) a b2 (B k)) := HP.out.nextD hb ⟨rfl, rfl, rfl, Nat.le_refl _, fun _ _ => rfl⟩; clear hb))
                        all_goals
                          have HP0 := HP
                          clear cg cbk lg hbb5
                          have cg := HP.out.cell
                          have lg := HP.out.lt
                          go_wp2_with fail
                          refine (zzplain18_any b2 a (some ⟨gd, 0, none⟩) (B k) _ ?h3).mono ?_
                          (case h3 => exact HP.out.v)
                          rintro e y3 ⟨rfl, hb⟩
                          clear cg lg
                          replace HP : Hid (S5 w y3 x n m sa (some ⟨bb, bo, none⟩) (some ⟨gd, 0, none⟩) U B (g13 + 1) a b2 (B k)) := HP.out.nextD hb ⟨rfl, rfl, rfl, Nat.le_refl _, fun _ _ => rfl⟩
                          clear hb HP0
                          go_wp2_with fail
                          refine (plainIs17_any a 0 x _ ?h4).mono ?_
                          (case h4 => exact HP.out.i)
                          rintro e y4 ⟨rfl, hb⟩
                          replace HP : Hid (S5 w y4 x n m sa (some ⟨bb, bo, none⟩) (some ⟨gd, 0, none⟩) U B (g13 + 1) a b2 (B k)) := HP.out.nextD hb ⟨rfl, rfl, rfl, Nat.le_refl _, fun _ _ => rfl⟩
                          clear hb
                          go_wp2
                          go_roundw
                          case rel => exact ⟨k + 1, by omega, by go_num, b2, B k, HP.out⟩
                          case measure => simp [intOf]; omega
                    · have hkm : m = k := by omega
                      subst hkm
                      clear hk hlt
                      obtain ⟨gd2, c2, cp, e1, e2, e3⟩ : ∃ g c cp, (some ⟨gd, 0, none⟩ : Option Addr) = some ⟨g, 0, none⟩ ∧ wr.cell? ⟨g, 0, none⟩ = some (.slice cp n c) ∧ IsStrs wr cp n U := by
                        rcases HS.out.d with ⟨h, _⟩ | ⟨_, h⟩
                        · omega
                        · exact h
                      simp only [Option.some.injEq, Addr.mk.injEq, and_true] at e1
                      subst e1
                      have HE3 : Hid (IsStrs wr cp n U) := e3
                      have HE2 : Hid (wr.cell? ⟨gd, 0, none⟩ = some (.slice cp n c2)) := e2
                      clear e2 e3
                      have cg := HS.out.cell
                      have lg := HS.out.lt
                      go_wp2_with fail
                      clear cg lg
                      refine (deps19_some b' a cp s gd n c2 wr HS.out.v HE2.out).mono ?_
                      rintro e w6 ⟨rfl, hb⟩
                      have HA : Hid (IsStrs w6 sa n U) := HS.out.su.below hb (Nat.le_refl _)
                      have HB6 : Hid (IsStrs w6 cp n U) := HE3.out.below hb (Nat.le_refl _)
                      have HW : Hid (Below w.heap.size w w6) := HS.out.below.trans (hb.mono HS.out.below.size)
                      clear hb HS HE2 HE3
                      go_wp2
                      go_loopw [18] (fun v wr => ∃ j : Nat, j ≤ n ∧ v = .int .i64 j ∧ ∃ q, wr = w6.drewN q) (fun v _ => n - (intOf v).toNat)
                      case atStart => exact ⟨0, by omega, rfl, 0, rfl⟩
                      case round =>
                        obtain ⟨j, hj, rfl, q, rfl⟩ := hrel
                        by_cases hlt : j < n
                        · obtain ⟨ub, uo, rfl, hub, hcu⟩ := HA.out.2.2 (by omega)
                          obtain ⟨pb, po, rfl, hpb, hcp⟩ := HB6.out.2.2 (by omega)
                          have cu := hcu j hlt
                          have cp := hcp j hlt
                          clear hcu hcp
                          generalize U j = u at *
                          go_wp2
                          go_quiet (fail)
                          go_wp2
                          go_roundw
                          case rel => exact ⟨j + 1, by omega, by go_num, _, rfl⟩
                          case measure => simp [intOf]; omega
                        · have hjn : n = j := by omega
                          subst hjn
                          go_wp2
                          go_ret
                          exact ⟨rfl, HW.out.trans (drewN_below _)⟩

end Go.Proofs.Qxb6614646a
