/-
  FnMakerNumberScript: the walk, its loop.
-/
import Derived.Test.Qxb6614646aH
namespace Go.Proofs.Qxb6614646a
open Go.RowKit

theorem info43 : (Try.prog.info? 43).map (fun i => (i.zero, i.size, i.bytes)) = some (some (.agg #[.pointer none]), 1, 8) := by kernel_rfl
theorem info4 : (Try.prog.info? 4).map (fun i => (i.zero, i.size, i.bytes)) = some (some (.bool false), 1, 1) := by kernel_rfl

/-- A row just made. -/
theorem row_of {w1 : World} {e : TypeId} {n : Nat} {b : Nat} {xs : List Value} (h : w1.ownsRow 0 e 1 (.slice (some ⟨b, 0, none⟩) n n) n xs) : ∃ cur : Array Value, w1.heap[b]? = some (.cells cur e (0, 0)) ∧ cur.size = n := by
  rcases h.2 with ⟨h, _⟩ | ⟨g, cap, cur, hv, _, hrow, _, _, hs, _⟩
  · simp at h
  · simp at hv
    obtain ⟨rfl, rfl⟩ := hv
    exact ⟨cur, hrow, by simpa using hs⟩

theorem grown_below {w w1 : World} (h : w.grownBy w1 none) : Below w.heap.size w w1 := ⟨h.os, h.tape, h.output, h.size, fun k hk => h.block k hk (by simp)⟩

/-- The script's start: a zero Maker, two rows. -/
theorem Sc.start {w w1 w2 : World} {n : Nat} {X : Nat → Nat} {cs ds : Array Value} (h1 : Below (w.heap.size + 1) (w.alloc (.cells ZM 37)) w1) (hr1 : w1.heap[w.heap.size + 1]? = some (.cells cs 43 (0, 0))) (hc1 : cs.size = n)
    (h2 : Below w1.heap.size w1 w2) (hr2 : w2.heap[w1.heap.size]? = some (.cells ds 4 (0, 0))) (hc2 : ds.size = n) : w.heap.size + 1 < w1.heap.size ∧ w1.heap.size < w2.heap.size ∧ Sc w w2 w.heap.size (w.heap.size + 1) w1.heap.size w2.heap.size n 0 X := by
  have hlt := (Array.getElem?_eq_some_iff.1 hr2).1
  have hlt1 := (Array.getElem?_eq_some_iff.1 hr1).1
  have hb : Below w.heap.size w w2 := ((Below.refl _ _).alloc (Nat.le_refl _) _).trans ((h1.mono (by omega)).trans (h2.mono (by omega)))
  refine ⟨hlt1, hlt, ⟨ZM, 37, none, 0, 0, 0, ?_, rfl, rfl, rfl, by omega, by omega, by omega, fun h => by omega⟩, Nat.le_refl _, hb, ⟨cs, fun _ => none, ?_, hc1, fun j hj => by omega⟩, ⟨ds, hr2, hc2, fun j hj => by omega⟩⟩
  · rw [h2.block _ (by omega), h1.block _ (by omega)]; exact heap_alloc_new w _
  · rw [h2.block _ hlt1]; exact hr1

set_option maxRecDepth 100000 in
set_option maxHeartbeats 3200000 in
theorem script_main (n c : Nat) (sa : Option Addr) (X : Nat → Nat) (w : World) (hn : n ≤ 65536) (hX : ∀ j, j < n → X j < 18446744073709551616)
    (hx : 0 < n → ∃ xb xo, sa = some ⟨xb, xo, none⟩ ∧ xb < w.heap.size ∧ ∀ j, j < n → w.cell? ⟨xb, xo + j, none⟩ = some (.float .f64 (X j))) :
    Calls Try.prog 3 #[.slice sa n c] w fun e w' => e = .returned (.bool true) ∧ Below w.heap.size w w' := by
  obtain ⟨i0, hi0, hz0, hz1, hz2⟩ := info_parts info43
  obtain ⟨i1, hi1, hy0, hy1, hy2⟩ := info_parts info4
  have HX := show Hid _ from hx
  have HL := show Hid _ from hX
  clear hx hX
  have h7 := fun wx => bytes7_any sa n c wx (by unfold maxLen; omega)
  go_enter Try.func3, Try.ntmps3
  go_wp2_with fail
  refine (h7 _).mono ?_
  rintro e w' ⟨z, rfl, hw⟩
  rw [hw]
  clear hw h7
  cases z with
  | false =>
    go_wp2
    go_ret
    exact ⟨rfl, Below.refl _ _⟩
  | true =>
    go_wp2_with (at_make; refine wpList_make_full _ rfl _ _ 38 rfl 0 43 i0 (.agg #[.pointer none]) 1 Try.underlying38 hi0 hz0 hz1 .i64 .i64 _ _ n rfl rfl (by omega) (by omega) (by rw [hz2]; omega) (by unfold maxLen; omega) (Nat.zero_le _) ?_)
    intro w1 hown1 hgr1
    have hb1 := grown_below hgr1
    rw [allocSize] at hb1
    obtain ⟨cs, hr1, hc1⟩ := row_of hown1
    have HR1 := show Hid _ from hr1
    have HB1 := show Hid _ from hb1
    clear hb1 hr1 hown1 hgr1
    go_wp2_with (at_make; refine wpList_make_full _ rfl _ _ 39 rfl 0 4 i1 (.bool false) 1 Try.underlying39 hi1 hy0 hy1 .i64 .i64 _ _ n rfl rfl (by omega) (by omega) (by rw [hy2]; omega) (by unfold maxLen; omega) (Nat.zero_le _) ?_)
    intro w2 hown2 hgr2
    obtain ⟨ds, hr2, hc2⟩ := row_of hown2
    obtain ⟨l1, l2, hst⟩ := Sc.start (X := X) HB1.out HR1.out hc1 (grown_below hgr2) hr2 hc2
    have HST := show Hid _ from hst
    clear hst hr2 hown2 hgr2 HB1 HR1 hc1 hc2
    generalize w1.heap.size = ob at *
    generalize w2.heap.size = F at *
    go_wp2
    go_loopw [6] (fun v wr => ∃ k : Nat, k ≤ n ∧ v = .int .i64 k ∧ Sc w wr w.heap.size (w.heap.size + 1) ob F n k X) (fun v _ => n - (intOf v).toNat)
    case atStart => exact ⟨0, by omega, rfl, HST.out⟩
    case round =>
      clear HST
      obtain ⟨k, hk, rfl, hst⟩ := hrel
      have HST : Hid (Sc w wr w.heap.size (w.heap.size + 1) ob F n k X) := hst
      by_cases hlt : k < n
      · obtain ⟨xb, xo, rfl, hxb, hxc⟩ := HX.out (by omega)
        have cx : wr.cell? ⟨xb, xo + k, none⟩ = some (.float .f64 (X k)) := (hst.below.cell (p := ⟨xb, xo + k, none⟩) hxb).trans (hxc k hlt)
        have hxk := HL.out k hlt
        obtain ⟨cs, A, hvr, hvs, hva⟩ := hst.vals
        obtain ⟨ds, hor, hds, hoa⟩ := hst.oks
        have hszF := hst.size
        have HMK := show Hid _ from hst.maker
        have HVR := show Hid _ from hvr
        have HOR := show Hid _ from hor
        clear hst hxc hva hoa hvr hor
        go_wp2_with fail
        cases hf : Fl.fin (X k) with
        | true =>
          refine (number8_fin w.heap.size F (X k) wr hxk hf (by omega) hszF HMK.out).mono ?_
          rintro e w3 ⟨b, o, rfl, hgot⟩
          have HN : Hid (∀ x, Sc w (((w3.setCell ⟨w.heap.size + 1, k, none⟩ (.pointer (some ⟨b, o, none⟩))).setCell ⟨ob, k, none⟩ (.bool true)).alloc x) w.heap.size (w.heap.size + 1) ob F n (k + 1) X) := fun x => by
            have := HST.out.next hlt (Nat.le_refl _) (by omega) (by omega) (by omega) (by omega) (by omega) (by omega) (by omega) (by omega) x hgot.size hgot.os hgot.tape hgot.output hgot.block hgot.held hgot.maker (Or.inr ⟨hf, b, o, rfl, hgot.at', hgot.it⟩)
            rw [hf] at this
            exact this
          have hv3 := (hgot.block (w.heap.size + 1) (by omega) (by omega)).trans HVR.out
          have ho3 := (hgot.block ob (by omega) (by omega)).trans HOR.out
          have hs3 := hgot.size
          clear hgot
          have v0 : ∃ v, w3.cell? ⟨w.heap.size + 1, k, none⟩ = some v := ⟨cs[k]'(by omega), by rw [cell_of_row _ _ _ _ _ _ hv3, Array.getElem?_eq_getElem (by omega)]⟩
          obtain ⟨v0, hv0⟩ := v0
          have o0 : ∃ v, w3.cell? ⟨ob, k, none⟩ = some v := ⟨ds[k]'(by omega), by rw [cell_of_row _ _ _ _ _ _ ho3, Array.getElem?_eq_getElem (by omega)]⟩
          obtain ⟨o0, ho0⟩ := o0
          have vf : w3.frozen? ⟨w.heap.size + 1, k, none⟩ = false := by simp [World.frozen?, hv3]
          have of' : w3.frozen? ⟨ob, k, none⟩ = false := by simp [World.frozen?, ho3]
          have n1 : w.heap.size + 1 ≠ w3.heap.size := by omega
          have n2 : ob ≠ w3.heap.size := by omega
          have n3 : w.heap.size + 1 ≠ ob := by omega
          have n4 : ob ≠ w.heap.size + 1 := by omega
          have n5 : w.heap.size + 1 < w3.heap.size := by omega
          have n6 : ob < w3.heap.size := by omega
          clear hv3 ho3
          go_wp2
          go_roundw
          case rel => exact ⟨k + 1, by omega, by go_num, HN.out _⟩
          case measure => simp [intOf]; omega
        | false =>
          refine (number8_inf _ (X k) wr hxk hf).mono ?_
          rintro e w3 ⟨rfl, hbel⟩
          have HN : Hid (∀ x, Sc w (((w3.setCell ⟨w.heap.size + 1, k, none⟩ (.pointer none)).setCell ⟨ob, k, none⟩ (.bool false)).alloc x) w.heap.size (w.heap.size + 1) ob F n (k + 1) X) := fun x => by
            have := HST.out.next hlt (Nat.le_refl _) (by omega) (by omega) (by omega) (by omega) (by omega) (by omega) (by omega) (by omega) x hbel.size hbel.os hbel.tape hbel.output (fun j hj _ => hbel.block j (by omega)) (fun b o y _ hl => held_block (hbel.block b (held_lt hl)) hl) (mk_block (hbel.block _ (by omega)) HMK.out (fun b o _ hl => shape_block (hbel.block b (shape_lt hl)) hl)) (Or.inl ⟨hf, rfl⟩)
            rw [hf] at this
            exact this
          have hv3 := (hbel.block (w.heap.size + 1) (by omega)).trans HVR.out
          have ho3 := (hbel.block ob (by omega)).trans HOR.out
          have hs3 := hbel.size
          clear hbel
          have v0 : ∃ v, w3.cell? ⟨w.heap.size + 1, k, none⟩ = some v := ⟨cs[k]'(by omega), by rw [cell_of_row _ _ _ _ _ _ hv3, Array.getElem?_eq_getElem (by omega)]⟩
          obtain ⟨v0, hv0⟩ := v0
          have o0 : ∃ v, w3.cell? ⟨ob, k, none⟩ = some v := ⟨ds[k]'(by omega), by rw [cell_of_row _ _ _ _ _ _ ho3, Array.getElem?_eq_getElem (by omega)]⟩
          obtain ⟨o0, ho0⟩ := o0
          have vf : w3.frozen? ⟨w.heap.size + 1, k, none⟩ = false := by simp [World.frozen?, hv3]
          have of' : w3.frozen? ⟨ob, k, none⟩ = false := by simp [World.frozen?, ho3]
          have n1 : w.heap.size + 1 ≠ w3.heap.size := by omega
          have n2 : ob ≠ w3.heap.size := by omega
          have n3 : w.heap.size + 1 ≠ ob := by omega
          have n4 : ob ≠ w.heap.size + 1 := by omega
          have n5 : w.heap.size + 1 < w3.heap.size := by omega
          have n6 : ob < w3.heap.size := by omega
          clear hv3 ho3
          go_wp2
          go_roundw
          case rel => exact ⟨k + 1, by omega, by go_num, HN.out _⟩
          case measure => simp [intOf]; omega
      · have hkn : k = n := by omega
        subst hkn
        obtain ⟨cs, A, hvr, hvs, hva⟩ := hst.vals
        obtain ⟨ds, hor, hds, hoa⟩ := hst.oks
        have HA : Hid _ := allRead9_any (w.heap.size + 1) ob k k k c F sa X A wr hn (by have := hst.size; omega) (by have := hst.size; omega) (fun j hj => (cell_of_row _ _ _ _ _ _ hvr).trans (hva j hj).1) (fun j hj => (cell_of_row _ _ _ _ _ _ hor).trans (hoa j hj))
          (fun h => by obtain ⟨xb, xo, e1, e2, e3⟩ := HX.out h; exact ⟨xb, xo, e1, Nat.lt_of_lt_of_le e2 hst.below.size, fun j hj => (hst.below.cell (p := ⟨xb, xo + j, none⟩) e2).trans (e3 j hj)⟩) (fun j hj => (hva j hj).2)
        have HB := show Hid _ from hst.below
        clear hst hvr hor hva hoa HX HL
        go_wp2_with fail
        refine Calls.mono (show Calls Try.prog 9 #[.slice (some ⟨w.heap.size + 1, 0, none⟩) k k, .slice (some ⟨ob, 0, none⟩) k k, .slice sa k c] wr (fun e w' => e = .returned (.bool true) ∧ Below wr.heap.size wr w') from HA.out) ?_
        rintro e w3 ⟨rfl, hb⟩
        go_wp2
        go_ret
        exact ⟨rfl, HB.out.trans (hb.mono HB.out.size)⟩

end Go.Proofs.Qxb6614646a
