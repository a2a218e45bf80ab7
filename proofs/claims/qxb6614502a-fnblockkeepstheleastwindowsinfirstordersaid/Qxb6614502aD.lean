/-
  (*lazyPlan).block: what it does to a plan's list of windows.
-/
import Derived.Test.Qxb6614502aC
import Derived.Deep.QuietTactic
import Derived.BigQuiet
import Derived.Deep.RegionLaw
import Derived.BigRegion
namespace Go.Proofs.Qxb6614502a
open Go.RowKit

/-- Some window of the list lies under (a, b). -/
def underL (B : List (Int × Int)) (a b : Int) : Bool := under (fx B) (fy B) a b B.length

/-- The list of windows behind one call of block. -/
def blockL (most : Int) (B : List (Int × Int)) (a b : Int) : List (Int × Int) :=
  if most < a then B else if underL B a b = true then B else B.filter (keep a b) ++ [(a, b)]

/-- A plan at block pb, with n+1 rows of free processors at block fb, its list of windows B. -/
structure Plan (w : World) (pb fb n : Nat) (f : Nat → Int) (B : List (Int × Int)) : Prop where
  lt : fb < pb
  free : w.cell? ⟨pb, 1, none⟩ = some (.slice (some ⟨fb, 0, none⟩) (n + 1) (n + 1))
  cells : ∀ j, j < n + 1 → w.cell? ⟨fb, j, none⟩ = some (.int .i64 (f j))
  blk : ∃ v, w.cell? ⟨pb, 53, none⟩ = some v ∧ w.ownsRow (pb + 1) 76 2 v B.length (wcells B)
  froz : w.frozen? ⟨pb, 53, none⟩ = false

theorem Plan.size {w : World} {pb fb n : Nat} {f : Nat → Int} {B : List (Int × Int)} (h : Plan w pb fb n f B) : pb < w.heap.size := World.block_lt_of_cell? w _ h.free

theorem Plan.below {w w' : World} {pb fb n : Nat} {f : Nat → Int} {B : List (Int × Int)} (h : Plan w pb fb n f B) (hb : Below w.heap.size w w') : Plan w' pb fb n f B := by
  have hs := h.size
  obtain ⟨h1, h2, h3, ⟨v, h4, h5⟩, h6⟩ := h
  refine ⟨h1, ((bcell hb).1 pb 1 hs).trans h2, fun j hj => ((bcell hb).1 fb j (by omega)).trans (h3 j hj), ⟨v, ((bcell hb).1 pb 53 hs).trans h4, ?_⟩, ((bcell hb).2 pb 53 hs).trans h6⟩
  exact h5.kept (row := none) ⟨hb.os, hb.tape, hb.output, hb.size, fun k hk _ => hb.block k hk⟩ (by cases v.ownBlock <;> simp)

theorem mostFree_plan {w : World} {pb fb n : Nat} {f : Nat → Int} {B : List (Int × Int)} (h : Plan w pb fb n f B) (hn : n + 1 ≤ 4096) :
    Calls Try.prog 38 #[.pointer (some ⟨pb, 0, none⟩)] w fun e w' => e = .returned (.int .i64 (mostTo f n)) ∧ w' = w :=
  mostFree_any pb fb n f w hn h.free h.cells

theorem blocks_plan {w : World} {pb fb n : Nat} {f : Nat → Int} {B : List (Int × Int)} (h : Plan w pb fb n f B) (hB : B.length ≤ 1024) (a b : Int) :
    Calls Try.prog 35 #[.pointer (some ⟨pb, 0, none⟩), .int .i64 a, .int .i64 b] w fun e w' => e = .returned (.bool (underL B a b)) ∧ Below w.heap.size w w' := by
  obtain ⟨v, hv, hl, ho⟩ := h.blk
  rcases ho with ⟨rfl, h0⟩ | ⟨g, cap, cur, rfl, hg, hrow, hnc, hcm, hcs, htake⟩
  · have hB0 : B = [] := List.eq_nil_of_length_eq_zero h0
    subst hB0
    refine (blocks_none pb a b w hv).mono fun e w' he => ?_
    obtain ⟨rfl, rfl⟩ := he
    exact ⟨rfl, Below.refl _ _⟩
  · refine blocks_some pb g B.length cap (fx B) (fy B) a b w hB hv (lt_of_block hrow) (fun j hj => ?_) (fun j hj => ?_)
    · rw [cell_of_row w g _ cur 76 _ hrow]; exact (cells_of_take htake j hj).1
    · rw [cell_of_row w g _ cur 76 _ hrow]; exact (cells_of_take htake j hj).2

set_option maxHeartbeats 400000 in
theorem delete_nil (fv : Value) (w : World) :
    Calls Try.prog 39 #[.slice none 0 0, fv] w fun e w' => e = .returned (.slice none 0 0) ∧ w' = w := by
  go_enter Try.func39, Try.ntmps39
  go_wp2_with (go_at_call 45; refine (index_empty _ _).mono ?_; rintro e w' ⟨rfl, rfl⟩)
  go_ret
  exact ⟨rfl, rfl⟩

theorem delete_owns (base c1 c2 : Nat) (v : Value) (B : List (Int × Int)) (a b : Int) (w : World) (hn : B.length ≤ 1024) (hown : w.ownsRow base 76 2 v B.length (wcells B))
    (h1 : w.cell? ⟨c1, 0, none⟩ = some (.int .i64 a)) (h2 : w.cell? ⟨c2, 0, none⟩ = some (.int .i64 b)) (n1 : v.ownBlock ≠ some c1) (n2 : v.ownBlock ≠ some c2) :
    Calls Try.prog 39 #[v, .func (.func 40) #[] #[.pointer (some ⟨c1, 0, none⟩), .pointer (some ⟨c2, 0, none⟩)]] w fun e w' =>
      ∃ v', e = .returned v' ∧ w'.ownsRow base 76 2 v' (B.filter (keep a b)).length (wcells (B.filter (keep a b))) ∧ w.grownBy w' v.ownBlock ∧ v'.ownBlock = v.ownBlock := by
  obtain ⟨hl, ho⟩ := hown
  rcases ho with ⟨rfl, h0⟩ | ⟨g, cap, cur, rfl, hg, hrow, hnc, hcm, hcs, htake⟩
  · have hB0 : B = [] := List.eq_nil_of_length_eq_zero h0
    subst hB0
    refine (delete_nil _ w).mono fun e w' he => ?_
    obtain ⟨rfl, rfl⟩ := he
    exact ⟨_, rfl, World.ownsRow_nil _ _ _ _, ⟨rfl, rfl, rfl, Nat.le_refl _, fun _ _ _ => rfl⟩, rfl⟩
  · refine (delete_any g cap c1 c2 cur B a b w hn hrow hcs hnc htake h1 h2 (fun e => n1 (by rw [e]; rfl)) (fun e => n2 (by rw [e]; rfl))).mono ?_
    rintro e w' ⟨rfl, cur', hr', hs', ht', hgr⟩
    refine ⟨_, rfl, ⟨wcells_length _, .inr ⟨g, cap, cur', rfl, hg, hr', ?_, hcm, hs', ht'⟩⟩, hgr, rfl⟩
    exact Nat.le_trans (List.length_filter_le _ _) hnc

theorem below_drewN (w : World) (n : Nat) : Below w.heap.size w (w.drewN n) := ⟨rfl, rfl, rfl, Nat.le_refl _, fun _ _ => rfl⟩

set_option maxHeartbeats 400000 in
theorem block_wide {w : World} {pb fb n : Nat} {f : Nat → Int} {B : List (Int × Int)} (h : Plan w pb fb n f B) (hn : n + 1 ≤ 4096) (a b : Int) (ha : mostTo f n < a) :
    Calls Try.prog 34 #[.pointer (some ⟨pb, 0, none⟩), .int .i64 a, .int .i64 b] w fun e w' => e = .returned (.tuple #[]) ∧ Below w.heap.size w w' := by
  have hb2 : Hid (Below w.heap.size w ((w.alloc (.cells #[.int .i64 a] 2)).alloc (.cells #[.int .i64 b] 2))) := (((Below.refl _ _).alloc (Nat.le_refl _) _).alloc (by simp) _)
  have HP : Hid (Plan ((w.alloc (.cells #[.int .i64 a] 2)).alloc (.cells #[.int .i64 b] 2)) pb fb n f B) := h.below hb2.out
  clear h
  go_enter Try.func34, Try.ntmps34
  go_wp2
  go_quiet ((go_at_call 38; exact Calls.quiet_of_same (mostFree_plan (HP.out.below (below_drewN _ _)) hn)))
  go_wp2
  exact bodyPost_ret (v := .tuple #[]) (by simp [results, Try.results34, go_sem]) rfl ⟨rfl, hb2.out.trans ((below_drewN _ nq).mono (by simp; omega))⟩

set_option maxHeartbeats 400000 in
theorem block_under {w : World} {pb fb n : Nat} {f : Nat → Int} {B : List (Int × Int)} (h : Plan w pb fb n f B) (hn : n + 1 ≤ 4096) (hB : B.length ≤ 1024) (a b : Int) (ha : ¬ mostTo f n < a) (hu : underL B a b = true) :
    Calls Try.prog 34 #[.pointer (some ⟨pb, 0, none⟩), .int .i64 a, .int .i64 b] w fun e w' => e = .returned (.tuple #[]) ∧ Below w.heap.size w w' := by
  have hb2 : Below w.heap.size w ((w.alloc (.cells #[.int .i64 a] 2)).alloc (.cells #[.int .i64 b] 2)).drew := (((Below.refl _ _).alloc (Nat.le_refl _) _).alloc (by simp) _).drew
  have HP : Hid (Plan ((w.alloc (.cells #[.int .i64 a] 2)).alloc (.cells #[.int .i64 b] 2)).drew pb fb n f B) := h.below hb2
  have HB2 : Hid (Below w.heap.size w ((w.alloc (.cells #[.int .i64 a] 2)).alloc (.cells #[.int .i64 b] 2)).drew) := hb2
  clear h hb2
  have hd : decide (mostTo f n < a) = false := decide_eq_false ha
  go_enter Try.func34, Try.ntmps34
  go_wp2
  go_region_held3 (fun w' => w'.cell? ⟨w.heap.size, 0, none⟩ = some (.int .i64 a) ∧ w'.cell? ⟨w.heap.size + 1, 0, none⟩ = some (.int .i64 b))
    (first | go_keep | (rw [hb3.cell (by simp; omega), hb3.cell (by simp)]; assumption))
    (first
      | (go_at_call 38; refine (mostFree_plan HP.out hn).mono ?_; rintro e w' ⟨rfl, rfl⟩)
      | (go_at_call 35; refine (blocks_plan HP.out hB a b).mono ?_; rintro e w' ⟨rfl, hb3⟩))
  go_wp2
  exact bodyPost_ret (v := .tuple #[]) (by simp [results, Try.results34, go_sem]) rfl ⟨rfl, HB2.out.trans (hb3.mono (by simp; omega))⟩


theorem ownsRow_shape {w : World} {base : Nat} {e : TypeId} {size : Nat} {v : Value} {n : Nat} {xs : List Value} (h : w.ownsRow base e size v n xs) : ∃ ad c, v = .slice ad n c := by
  rcases h.2 with ⟨rfl, rfl⟩ | ⟨g, cap, cur, rfl, _⟩
  · exact ⟨none, 0, rfl⟩
  · exact ⟨_, _, rfl⟩

theorem grownBy_alloc_drew (w : World) (o : Obj) (row : Option Nat) : w.grownBy (w.alloc o).drew row :=
  have h := World.grownBy_alloc w o row
  ⟨h.os, h.tape, h.output, h.size, h.block⟩

theorem Plan.turn {w w1 : World} {pb fb n : Nat} {f : Nat → Int} {B F : List (Int × Int)} {v : Value} {row : Option Nat} (h : Plan w pb fb n f B) (hgr : w.grownBy w1 row) (hrow : ∀ k, row = some k → pb + 1 ≤ k)
    (hown : w1.ownsRow (pb + 1) 76 2 v F.length (wcells F)) : Plan (w1.setCell ⟨pb, 53, none⟩ v) pb fb n f F ∧ Below pb w (w1.setCell ⟨pb, 53, none⟩ v) := by
  have hs := h.size
  obtain ⟨h1, h2, h3, ⟨u, h4, h5⟩, h6⟩ := h
  have hne : some pb ≠ row := fun e => by have := hrow _ e.symm; omega
  have hnf : some fb ≠ row := fun e => by have := hrow _ e.symm; omega
  refine ⟨⟨h1, ?_, fun j hj => ?_, ⟨v, ?_, ownsRow_setCell_below hown (by simp) _⟩, ?_⟩, ⟨hgr.os, hgr.tape, hgr.output, by simpa [World.setCell] using hgr.size, fun k hk => ?_⟩⟩
  · have e : (⟨pb, 53, none⟩ : Addr) ≠ ⟨pb, 1, none⟩ := by simp
    rw [World.cell?_setCell_other (h := e), hgr.cell_far _ hs hne]; exact h2
  · have e : (⟨pb, 53, none⟩ : Addr) ≠ ⟨fb, j, none⟩ := by intro e; injection e; omega
    rw [World.cell?_setCell_other (h := e), hgr.cell_far _ (by simp; omega) hnf]; exact h3 j hj
  · exact World.cell?_setCell_same _ _ _ ((hgr.cell_far ⟨pb, 53, none⟩ hs hne).trans h4)
  · exact (World.frozen?_setCell _ _ _ _).trans ((hgr.frozen_far ⟨pb, 53, none⟩ hs hne).trans h6)
  · rw [Below.heap_setCell _ _ _ _ (by simp; omega)]
    exact hgr.block k (by omega) (fun e => by have := hrow _ e.symm; omega)

set_option maxRecDepth 100000 in
set_option maxHeartbeats 1600000 in
theorem block_add {w : World} {pb fb n : Nat} {f : Nat → Int} {B : List (Int × Int)} (h : Plan w pb fb n f B) (hn : n + 1 ≤ 4096) (hB : B.length ≤ 1023) (a b : Int) (ha : ¬ mostTo f n < a) (hu : underL B a b = false) :
    Calls Try.prog 34 #[.pointer (some ⟨pb, 0, none⟩), .int .i64 a, .int .i64 b] w fun e w' => e = .returned (.tuple #[]) ∧ Below pb w w' ∧ Plan w' pb fb n f (B.filter (keep a b) ++ [(a, b)]) := by
  have hb2 : Below w.heap.size w ((w.alloc (.cells #[.int .i64 a] 2)).alloc (.cells #[.int .i64 b] 2)).drew := (((Below.refl _ _).alloc (Nat.le_refl _) _).alloc (by simp) _).drew
  have HP : Hid (Plan ((w.alloc (.cells #[.int .i64 a] 2)).alloc (.cells #[.int .i64 b] 2)).drew pb fb n f B) := h.below hb2
  have HB2 : Hid (Below w.heap.size w ((w.alloc (.cells #[.int .i64 a] 2)).alloc (.cells #[.int .i64 b] 2)).drew) := hb2
  have hpb := h.size
  obtain ⟨v, hv, hown⟩ := h.blk
  have hvlt := hown.lt
  have HV : Hid (w.cell? ⟨pb, 53, none⟩ = some v) := hv
  have HO : Hid (w.ownsRow (pb + 1) 76 2 v B.length (wcells B)) := hown
  have HL : Hid (∀ k, v.ownBlock = some k → pb + 1 ≤ k ∧ k < w.heap.size) := hvlt
  have H0 : Hid (Plan w pb fb n f B) := h
  clear h hb2 hv hown hvlt
  have hd : decide (mostTo f n < a) = false := decide_eq_false ha
  go_enter Try.func34, Try.ntmps34
  go_wp2
  go_region_held3 (fun w' => w'.cell? ⟨w.heap.size, 0, none⟩ = some (.int .i64 a) ∧ w'.cell? ⟨w.heap.size + 1, 0, none⟩ = some (.int .i64 b))
    (first | go_keep | (rw [hb3.cell (by simp; omega), hb3.cell (by simp)]; assumption))
    (first
      | (go_at_call 38; refine (mostFree_plan HP.out hn).mono ?_; rintro e w' ⟨rfl, rfl⟩)
      | (go_at_call 35; refine (blocks_plan HP.out (by omega) a b).mono ?_; rintro e w' ⟨rfl, hb3⟩))
  rename_i hcells
  obtain ⟨hca, hcb⟩ := hcells
  have HB3 : Hid (Below w.heap.size w w') := HB2.out.trans (hb3.mono (by simp; omega))
  have hcv : w'.cell? ⟨pb, 53, none⟩ = some v := ((bcell HB3.out).1 pb 53 hpb).trans HV.out
  have hcf : w'.frozen? ⟨pb, 53, none⟩ = false := ((bcell HB3.out).2 pb 53 hpb).trans H0.out.froz
  have hszw : w.heap.size + 2 ≤ w'.heap.size := by have := hb3.size; simpa using this
  clear hb3
  obtain ⟨ad, c, hvs⟩ := ownsRow_shape HO.out
  have HO3 : Hid (w'.ownsRow (pb + 1) 76 2 v B.length (wcells B)) := HO.out.kept (row := none) ⟨HB3.out.os, HB3.out.tape, HB3.out.output, HB3.out.size, fun k hk _ => HB3.out.block k hk⟩ (by cases v.ownBlock <;> simp)
  subst hvs
  go_wp2_with fail
  refine (delete_owns (pb + 1) w.heap.size (w.heap.size + 1) _ B a b w' (by omega) HO3.out hca hcb (fun e => by have := HL.out _ e; omega) (fun e => by have := HL.out _ e; omega)).mono ?_
  rintro e w4 ⟨v4, rfl, hown4, hgr4, hob4⟩
  have hnp : some pb ≠ (Value.slice ad B.length c).ownBlock := fun e => by have := HL.out _ e.symm; omega
  have hn1 : some w.heap.size ≠ (Value.slice ad B.length c).ownBlock := fun e => by have := HL.out _ e.symm; omega
  have hn2 : some (w.heap.size + 1) ≠ (Value.slice ad B.length c).ownBlock := fun e => by have := HL.out _ e.symm; omega
  have hcv4 : w4.cell? ⟨pb, 53, none⟩ = some (.slice ad B.length c) := (hgr4.cell_far _ (by simp; omega) hnp).trans hcv
  have hcf4 : w4.frozen? ⟨pb, 53, none⟩ = false := (hgr4.frozen_far _ (by simp; omega) hnp).trans hcf
  have hca4 : w4.cell? ⟨w.heap.size, 0, none⟩ = some (.int .i64 a) := (hgr4.cell_far _ (by simp; omega) hn1).trans hca
  have hcb4 : w4.cell? ⟨w.heap.size + 1, 0, none⟩ = some (.int .i64 b) := (hgr4.cell_far _ (by simp; omega) hn2).trans hcb
  have hsz4 : w.heap.size + 2 ≤ w4.heap.size := by have := hgr4.size; omega
  have HG4 : Hid (w'.grownBy w4 (Value.slice ad B.length c).ownBlock) := hgr4
  obtain ⟨ad4, c4, hvs⟩ := ownsRow_shape hown4
  subst hvs
  generalize hF : B.filter (keep a b) = F at *
  have hFl : F.length ≤ 1023 := by rw [← hF]; exact Nat.le_trans (List.length_filter_le _ _) hB
  have HF : Hid (B.filter (keep a b) = F) := hF
  clear hF
  have HO4 : Hid (w4.ownsRow (pb + 1) 76 2 (.slice ad4 F.length c4) F.length (wcells F)) := hown4
  have HOB : Hid ((Value.slice ad4 F.length c4).ownBlock = (Value.slice ad B.length c).ownBlock) := hob4
  clear hca hcb hcf hgr4 hown4 hob4 hcv
  go_wp2_with fail
  have hcv5 : (w4.setCell ⟨pb, 53, none⟩ (.slice ad4 F.length c4)).cell? ⟨pb, 53, none⟩ = some (.slice ad4 F.length c4) := World.cell?_setCell_same _ _ _ hcv4
  have hcf5 : (w4.setCell ⟨pb, 53, none⟩ (.slice ad4 F.length c4)).frozen? ⟨pb, 53, none⟩ = false := (World.frozen?_setCell _ _ _ _).trans hcf4
  have hca5 : (w4.setCell ⟨pb, 53, none⟩ (.slice ad4 F.length c4)).cell? ⟨w.heap.size, 0, none⟩ = some (.int .i64 a) := by rw [← hca4]; exact World.cell?_of_block (Below.heap_setCell _ _ _ _ (by simp; omega))
  have hcb5 : (w4.setCell ⟨pb, 53, none⟩ (.slice ad4 F.length c4)).cell? ⟨w.heap.size + 1, 0, none⟩ = some (.int .i64 b) := by rw [← hcb4]; exact World.cell?_of_block (Below.heap_setCell _ _ _ _ (by simp; omega))
  have HO5 : Hid ((w4.setCell ⟨pb, 53, none⟩ (.slice ad4 F.length c4)).ownsRow (pb + 1) 76 2 (.slice ad4 F.length c4) F.length (wcells F)) := ownsRow_setCell_below HO4.out (by simp) _
  have hsz5 : w.heap.size + 2 ≤ (w4.setCell ⟨pb, 53, none⟩ (.slice ad4 F.length c4)).heap.size := by simpa [World.setCell] using hsz4
  have HPB : Hid (Plan (w4.setCell ⟨pb, 53, none⟩ (.slice ad4 F.length c4)) pb fb n f F ∧ Below pb w (w4.setCell ⟨pb, 53, none⟩ (.slice ad4 F.length c4))) :=
    H0.out.turn (row := (Value.slice ad B.length c).ownBlock) (grownBy_trans ⟨HB3.out.os, HB3.out.tape, HB3.out.output, HB3.out.size, fun k hk _ => HB3.out.block k hk⟩ HG4.out) (fun k hk => (HL.out k hk).1) HO4.out
  have HR5 : Hid (∀ k, (Value.slice ad4 F.length c4).ownBlock = some k → pb + 1 ≤ k) := fun k hk => (HL.out k (by rw [← HOB.out]; exact hk)).1
  have hnp5 : some pb ≠ (Value.slice ad4 F.length c4).ownBlock := by rw [HOB.out]; exact hnp
  have hn15 : some w.heap.size ≠ (Value.slice ad4 F.length c4).ownBlock := by rw [HOB.out]; exact hn1
  have hn25 : some (w.heap.size + 1) ≠ (Value.slice ad4 F.length c4).ownBlock := by rw [HOB.out]; exact hn2
  clear HOB HO4 HG4 hsz4 hca4 hcb4 hcv4 hcf4 hnp hn1 hn2 HO3 HL HO HV hszw HB3 HB2 HP
  generalize w4.setCell ⟨pb, 53, none⟩ (.slice ad4 F.length c4) = w5 at *
  obtain ⟨i0, hi0, hz0, hz1, hz2⟩ := info_parts Try.info76
  have hbase : pb + 1 ≤ w5.heap.size := by omega
  have hfz : ∀ cs t, (w5.alloc (.cells cs t)).drew.frozen? ⟨pb, 53, none⟩ = false := fun cs t => (bcell (((Below.refl w5.heap.size w5).alloc (Nat.le_refl _) (.cells cs t)).drew)).2 pb 53 (by omega) |>.trans hcf5
  have HC : Hid (∀ cs t, (w5.alloc (.cells cs t)).drew.cell? ⟨pb, 53, none⟩ = some (.slice ad4 F.length c4)) := fun cs t => ((bcell (((Below.refl w5.heap.size w5).alloc (Nat.le_refl _) (.cells cs t)).drew)).1 pb 53 (by omega)).trans hcv5
  have HZ : Hid (∀ cs t, (w5.alloc (.cells cs t)).drew.frozen? ⟨pb, 53, none⟩ = false) := hfz
  clear hfz
  have hc6 : ∀ cs t, (w5.alloc (.cells cs t)).cell? ⟨pb, 53, none⟩ = some (.slice ad4 F.length c4) := HC.out
  go_region_law
    ((refine step_append_lies _ (by rfl) _ _ _ (by rfl) (pb + 1) 76 i0 _ 2 16 Try.underlying82 hi0 hz0 hz1 hz2 rfl (by omega) (.slice ad4 F.length c4) F.length (wcells F) (by rfl) ((HO5.out.alloc _).drew)
        ⟨w5.heap.size, 0, none⟩ 1 1 [.int .i64 a, .int .i64 b] (by rfl) (by rfl) (World.news_of_block (cs := #[.int .i64 a, .int .i64 b]) (t := 76) (fr := (0, 0)) (heap_alloc_new w5 _)) (by simp [Value.oneCell'])
        (by omega) (by unfold maxLen; omega) (by omega) (by simp; omega) (w5.heap.size + 1) (by simp) ?_; intro gg cap w1 hown1 hgrow hat hlt; have hc1 := (hgrow.cell_far ⟨pb, 53, none⟩ (by simp; omega) hnp5).trans (HC.out _ _); have hc2 := (hgrow.frozen_far ⟨pb, 53, none⟩ (by simp; omega) hnp5).trans (HZ.out _ _)))
  all_goals
    have HT := HPB.out.1.turn (F := F ++ [(a, b)]) (grownBy_trans (grownBy_alloc_drew w5 (.cells #[.int .i64 a, .int .i64 b] 76) _) hgrow) HR5.out (by rw [wcells_append, List.length_append]; exact hown1)
    exact bodyPost_end (v := .tuple #[]) (by simp [results, Try.results34, go_sem]) rfl ⟨rfl, HPB.out.2.trans HT.2, by rw [HF.out]; exact HT.1⟩

end Go.Proofs.Qxb6614502a
