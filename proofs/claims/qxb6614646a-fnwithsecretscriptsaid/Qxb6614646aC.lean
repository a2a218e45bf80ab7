/-
  The Maker's memory: valueIn, makeIn.
-/
import Derived.Test.Qxb6614646aB
import Derived.OwnWalk
namespace Go.Proofs.Qxb6614646a
open Go.RowKit

/-- The handle that a cell at b, o holds. -/
abbrev hnd (b o : Nat) : Value := .iface 66 (.pointer (some ⟨b, o + 1, none⟩))

theorem setSize (w : World) (p : Addr) (u : Value) : (w.setCell p u).heap.size = w.heap.size := by simp [World.setCell]

set_option maxRecDepth 100000 in
set_option maxHeartbeats 400000 in
theorem valueIn30_any (b o : Nat) (w : World) (v0 : Value) (hb : b < w.heap.size) (hc : w.cell? ⟨b, o, none⟩ = some v0) (hf : w.frozen? ⟨b, o, none⟩ = false) :
    Calls Try.prog 30 #[.pointer (some ⟨b, o, none⟩)] w fun e w' => e = .returned (.agg #[.pointer (some ⟨b, o, none⟩)]) ∧ Below w.heap.size (w.setCell ⟨b, o, none⟩ (hnd b o)) w' := by
  have hne : b ≠ w.heap.size := by omega
  go_enter Try.func30, Try.ntmps30
  go_wp2
  exact bodyPost_ret (v := .agg #[.pointer (some ⟨b, o, none⟩)]) (by simp [results, Try.results30, go_sem]) rfl ⟨rfl, (Below.refl _ _).alloc (by rw [setSize]; exact Nat.le_refl _) _⟩

theorem allocSize (w : World) (o : Obj) : (w.alloc o).heap.size = w.heap.size + 1 := by simp
theorem cell_off {v : World} {g i j : Nat} (u : Value) (h : i ≠ j) : (v.setCell ⟨g, i, none⟩ u).cell? ⟨g, j, none⟩ = v.cell? ⟨g, j, none⟩ :=
  World.cell?_setCell_other v _ _ u (by intro e; injection e with _ e2; exact h e2)
theorem heap_alloc_at (w : World) (o : Obj) (n : Nat) (h : w.heap.size = n) : (w.alloc o).heap[n]? = some o := by rw [← h]; exact heap_alloc_new w o
theorem setCell_alloc {w : World} (p : Addr) (v : Value) (x : Obj) (k : Nat) (hk : k < w.heap.size) : ((w.alloc x).setCell p v).heap[k]? = (w.setCell p v).heap[k]? := by
  show ((w.heap.push x).modify p.block _)[k]? = (w.heap.modify p.block _)[k]?
  rw [Array.getElem?_modify, Array.getElem?_modify, Array.getElem?_push_lt hk, Array.getElem?_eq_getElem hk]

/-- Behind valueIn, where the caller's result lies in the last block. -/
theorem fin30 {X w4 : World} {b o : Nat} {v : Value} (hb : b < X.heap.size) (h : Below (X.alloc (.cells #[.pointer none] 43)).heap.size ((X.alloc (.cells #[.pointer none] 43)).setCell ⟨b, o, none⟩ v) w4) :
    w4.cell? ⟨X.heap.size, 0, none⟩ = some (.pointer none) ∧ (∀ j, w4.frozen? ⟨X.heap.size, j, none⟩ = false) ∧ ∀ u, Below X.heap.size (X.setCell ⟨b, o, none⟩ v) (w4.setCell ⟨X.heap.size, 0, none⟩ u) := by
  have e : w4.heap[X.heap.size]? = some (.cells #[.pointer none] 43 (0, 0)) := by
    rw [h.block _ (by simp), Below.heap_setCell _ _ _ _ (by dsimp only; omega)]
    exact heap_alloc_new X _
  refine ⟨cell_of_row _ _ _ _ _ _ e, fun j => by simp [World.frozen?, e], fun u => ⟨h.os, h.tape, h.output, ?_, fun k hk => ?_⟩⟩
  · have := h.size
    rw [setSize, allocSize] at this
    rw [setSize, setSize]; omega
  · rw [Below.heap_setCell _ _ _ _ (by dsimp only; omega), h.block k (by rw [allocSize]; omega)]
    exact setCell_alloc _ _ _ _ hk

theorem frozen_alloc (w : World) (x : Obj) (a : Addr) (h : a.block < w.heap.size) : (w.alloc x).frozen? a = w.frozen? a := by
  simp only [World.frozen?, Below.heap_alloc w x a.block h]
theorem frozen_block {w w' : World} {a : Addr} (h : w'.heap[a.block]? = w.heap[a.block]?) : w'.frozen? a = w.frozen? a := by simp only [World.frozen?, h]

theorem run_store_flt (a : Addr) (k : FloatKind) (b : Nat) (m : Mode) (w : World) : (store a (.float k b) m).run Try.prog w = stored Try.prog w a (.float k b) m := run_store _ _ _ _ _ rfl

set_option maxRecDepth 100000 in
set_option maxHeartbeats 1600000 in
/-- makeIn where the next free cell is free. -/
theorem makeIn22_take (g b o len cap c : Nat) (y : Nat) (w : World) (hg : g < w.heap.size) (hb : b < w.heap.size) (hgb : g ≠ b)
    (c2 : w.cell? ⟨g, 2, none⟩ = some (.slice (some ⟨b, o, none⟩) (len + 1) (cap + 1))) (f2 : w.frozen? ⟨g, 2, none⟩ = false) (hlc : len ≤ cap) (hcap : cap ≤ 128)
    (h0 : w.cell? ⟨b, o, none⟩ = some .nilIface) (h1 : w.cell? ⟨b, o + 1, none⟩ = some (.float .f64 y)) (f0 : w.frozen? ⟨b, o, none⟩ = false) (f1 : w.frozen? ⟨b, o + 1, none⟩ = false) :
    Calls Try.prog 22 #[.pointer (some ⟨g, 2, none⟩), .float .f64 c] w fun e w' => e = .returned (.agg #[.pointer (some ⟨b, o, none⟩)]) ∧ ∃ a, (0 < len → a = some ⟨b, o + 2, none⟩) ∧
      Below w.heap.size (((w.setCell ⟨g, 2, none⟩ (.slice a len cap)).setCell ⟨b, o + 1, none⟩ (.float .f64 c)).setCell ⟨b, o, none⟩ (hnd b o)) w' := by
  have hne : b ≠ w.heap.size := by omega
  have hne2 : g ≠ w.heap.size := by omega
  have hbg : b ≠ g := Ne.symm hgb
  have k0 : ∀ S, (w.setCell ⟨g, 2, none⟩ S).cell? ⟨b, o + 1, none⟩ = some (.float .f64 y) := fun S => by
    rw [World.cell?_of_block (w := w) (a := ⟨b, o + 1, none⟩) (Below.heap_setCell w ⟨g, 2, none⟩ S b hbg)]; exact h1
  have k1 : ∀ S, (w.setCell ⟨g, 2, none⟩ S).frozen? ⟨b, o + 1, none⟩ = false := fun S => by
    have : (w.setCell ⟨g, 2, none⟩ S).frozen? ⟨b, o + 1, none⟩ = w.frozen? ⟨b, o + 1, none⟩ := by
      simp only [World.frozen?, Below.heap_setCell w ⟨g, 2, none⟩ S b hbg]
    rw [this]; exact f1
  have k2 : ∀ S, (w.setCell ⟨g, 2, none⟩ S).heap.size = w.heap.size := fun S => setSize _ _ _
  have hsf := run_store_flt
  have h30 : ∀ S V x, (((w.setCell ⟨g, 2, none⟩ S).setCell ⟨b, o + 1, none⟩ V).alloc x).cell? ⟨b, o, none⟩ = some .nilIface := fun S V x => by
    rw [World.cell?_alloc_past _ _ _ (by simp only [setSize]; exact hb), cell_off _ (by omega), World.cell?_of_block (w := w) (a := ⟨b, o, none⟩) (Below.heap_setCell w ⟨g, 2, none⟩ S b hbg)]
    exact h0
  have f30 : ∀ S V x, (((w.setCell ⟨g, 2, none⟩ S).setCell ⟨b, o + 1, none⟩ V).alloc x).frozen? ⟨b, o, none⟩ = false := fun S V x => by
    rw [frozen_alloc _ _ _ (by simp only [setSize]; exact hb), World.frozen?_setCell, World.frozen?_setCell]; exact f0
  by_cases hcz : cap = 0
  · subst hcz
    have hlz : len = 0 := by omega
    subst hlz
    go_enter Try.func22, Try.ntmps22
    go_wp2_with fail
    refine (valueIn30_any b o _ .nilIface (by simp only [allocSize, setSize]; omega) (h30 _ _ _) (f30 _ _ _)).mono ?_
    rintro e w4 ⟨rfl, hb4⟩
    obtain ⟨q1, q2, q3⟩ := fin30 (by simp only [setSize]; exact hb) hb4
    simp only [setSize] at q1 q2 q3
    clear hb4
    have HQ := show Hid _ from q3
    clear q3
    go_wp2
    exact bodyPost_ret (v := .agg #[.pointer (some ⟨b, o, none⟩)]) (by simp [results, Try.results22, go_sem, q1]) rfl ⟨rfl, _, fun h => absurd h (by omega), HQ.out _⟩
  · go_enter Try.func22, Try.ntmps22
    go_wp2_with fail
    refine (valueIn30_any b o _ .nilIface (by simp only [allocSize, setSize]; omega) (h30 _ _ _) (f30 _ _ _)).mono ?_
    rintro e w4 ⟨rfl, hb4⟩
    obtain ⟨q1, q2, q3⟩ := fin30 (by simp only [setSize]; exact hb) hb4
    simp only [setSize] at q1 q2 q3
    clear hb4
    have HQ := show Hid _ from q3
    clear q3
    go_wp2
    exact bodyPost_ret (v := .agg #[.pointer (some ⟨b, o, none⟩)]) (by simp [results, Try.results22, go_sem, q1]) rfl ⟨rfl, _, fun _ => rfl, HQ.out _⟩

theorem info_parts {P : Program} {t : TypeId} {z : Value} {n b : Nat} (h : (P.info? t).map (fun i => (i.zero, i.size, i.bytes)) = some (some z, n, b)) : ∃ i, P.info? t = some i ∧ i.zero = some z ∧ i.size = n ∧ i.bytes = b := by
  cases hi : P.info? t with
  | none => rw [hi] at h; cases h
  | some i =>
    rw [hi] at h
    simp only [Option.map_some, Option.some.injEq, Prod.mk.injEq] at h
    exact ⟨i, rfl, h.1, h.2.1, h.2.2⟩

theorem info81 : (Try.prog.info? 81).map (fun i => (i.zero, i.size, i.bytes)) = some (some (.agg #[.nilIface, .float .f64 0]), 2, 24) := by kernel_rfl

theorem made_even (z0 z1 : Value) (n j : Nat) (h : 2 * j + 1 < n) : (madeCells #[z0, z1] n)[2 * j]? = some z0 ∧ (madeCells #[z0, z1] n)[2 * j + 1]? = some z1 := by
  have e0 : 2 * j % 2 = 0 := by omega
  have e1 : (2 * j + 1) % 2 = 1 := by omega
  constructor
  · rw [Array.getElem?_eq_getElem (by rw [size_madeCells]; omega)]
    simp [madeCells, e0]
  · rw [Array.getElem?_eq_getElem (by rw [size_madeCells]; omega)]
    simp [madeCells, e1]

/-- Behind the making of a new block. -/
structure New22 (w w1 : World) (g m : Nat) (sz : Value) : Prop where
  os : w1.os = w.os
  tape : w1.tape = w.tape
  output : w1.output = w.output
  size : w.heap.size + 2 ≤ w1.heap.size
  old : ∀ k, k < w.heap.size → w1.heap[k]? = (w.setCell ⟨g, 3, none⟩ sz).heap[k]?
  res : w1.heap[w.heap.size]? = some (.cells #[.pointer none] 43 (0, 0))
  row : w1.heap[w.heap.size + 1]? = some (.cells (madeCells #[.nilIface, .float .f64 0] ((m + 1) * 2)) 81 (0, 0))

theorem new22 {w w1 : World} {g m : Nat} {sz : Value} {base : Nat} (h : w1.ownsRow base 81 2 (.slice (some ⟨w.heap.size + 1, 0, none⟩) (m + 1) (m + 1)) (m + 1) (madeCells #[.nilIface, .float .f64 0] ((m + 1) * 2)).toList)
    (hg : ((w.setCell ⟨g, 3, none⟩ sz).alloc (.cells #[.pointer none] 43)).grownBy w1 none) : New22 w w1 g m sz := by
  have hsz : ((w.setCell ⟨g, 3, none⟩ sz).alloc (.cells #[.pointer none] 43)).heap.size = w.heap.size + 1 := by rw [allocSize, setSize]
  have hrow : w1.heap[w.heap.size + 1]? = some (.cells (madeCells #[.nilIface, .float .f64 0] ((m + 1) * 2)) 81 (0, 0)) := by
    rcases h.2 with ⟨h, _⟩ | ⟨g', cap, cur, hv, _, hrow, _, _, hs, htk⟩
    · simp at h
    · simp at hv
      obtain ⟨rfl, rfl⟩ := hv
      have e : cur.toList = (madeCells #[.nilIface, .float .f64 0] ((m + 1) * 2)).toList := by
        rw [← htk, List.take_of_length_le]
        have : cur.toList.length = (m + 1) * 2 := hs
        omega
      rw [hrow, Array.toList_inj.1 e]
  refine ⟨hg.os, hg.tape, hg.output, ?_, fun k hk => ?_, ?_, hrow⟩
  · have := (Array.getElem?_eq_some_iff.1 hrow).1
    omega
  · rw [hg.block k (by omega) (by simp), Below.heap_alloc _ _ _ (by rw [setSize]; exact hk)]
  · rw [hg.block _ (by omega) (by simp)]
    exact heap_alloc_at _ _ _ (setSize _ _ _)

/-- What makeIn leaves where it takes a new block. -/
def Raw22 (w w' : World) (g m c : Nat) : Prop := ∃ (z : Int) (w1 w4 : World) (u : Value), z = ((m + 1 : Nat) : Int) ∧ New22 w w1 g m (.int .i64 z) ∧
  Below w1.heap.size ((((w1.setCell ⟨g, 2, none⟩ (.slice (some ⟨w.heap.size + 1, 0, none⟩) (m + 1) (m + 1))).setCell ⟨g, 2, none⟩ (.slice (some ⟨w.heap.size + 1, 2, none⟩) m m)).setCell ⟨w.heap.size + 1, 1, none⟩ (.float .f64 c)).setCell ⟨w.heap.size + 1, 0, none⟩ (hnd (w.heap.size + 1) 0)) w4 ∧
  w' = w4.setCell ⟨w.heap.size, 0, none⟩ u

set_option maxRecDepth 100000 in
set_option maxHeartbeats 1600000 in
theorem makeIn22_empty_a (g cap c : Nat) (a : Option Addr) (sz : Nat) (w : World) (hg : g < w.heap.size)
    (c2 : w.cell? ⟨g, 2, none⟩ = some (.slice a 0 cap)) (f2 : w.frozen? ⟨g, 2, none⟩ = false) (c3 : w.cell? ⟨g, 3, none⟩ = some (.int .i64 (sz : Nat))) (f3 : w.frozen? ⟨g, 3, none⟩ = false) (hsz : sz ≤ 128) (hm : 2 * sz < 8) :
    Calls Try.prog 22 #[.pointer (some ⟨g, 2, none⟩), .float .f64 c] w fun e w' => e = .returned (.agg #[.pointer (some ⟨w.heap.size + 1, 0, none⟩)]) ∧ Raw22 w w' g 7 c := by
  obtain ⟨i0, hi0, hz0, hz1, hz2⟩ := info_parts info81
  have hsf := run_store_flt
  have hne2 : g ≠ w.heap.size := by omega
  have hne3 : g ≠ w.heap.size + 1 := by omega
  have hne4 : w.heap.size + 1 ≠ g := by omega
  have e1 : IntKind.i64.wrap (2 * ((sz : Nat) : Int)) = ((2 * sz : Nat) : Int) := by rw [IntKind.wrap_i64]; omega
  have hm4 : 2 * (sz : Int) < 8 := by omega
  go_enter Try.func22, Try.ntmps22
  go_wp2_with (at_make; refine wpList_make_full _ rfl _ _ 27 rfl 0 81 i0 (.agg #[.nilIface, .float .f64 0]) 2 Try.underlying27 hi0 hz0 hz1 .i64 .i64 _ _ (7 + 1) rfl rfl (by omega) (by omega) (by rw [hz2]; omega) (by unfold maxLen; omega) (Nat.zero_le _) ?_)
  intro w1 hown1 hgr1
  have hn := new22 hown1 hgr1
  have HN := show Hid _ from hn
  have hsz1 := hn.size
  have q2 : w1.cell? ⟨g, 2, none⟩ = some (.slice a 0 cap) := by
    rw [World.cell?_of_block (a := ⟨g, 2, none⟩) (hn.old g hg), cell_off _ (by omega)]; exact c2
  have q3 : w1.frozen? ⟨g, 2, none⟩ = false := (frozen_block (a := ⟨g, 2, none⟩) (hn.old g hg)).trans ((World.frozen?_setCell _ _ _ _).trans f2)
  have r0 : w1.cell? ⟨w.heap.size + 1, 0, none⟩ = some .nilIface := by rw [cell_of_row _ _ _ _ _ _ hn.row]; exact (made_even _ _ _ 0 (by omega)).1
  have r1 : w1.cell? ⟨w.heap.size + 1, 1, none⟩ = some (.float .f64 0) := by rw [cell_of_row _ _ _ _ _ _ hn.row]; exact (made_even _ _ _ 0 (by omega)).2
  have rf : ∀ j, w1.frozen? ⟨w.heap.size + 1, j, none⟩ = false := fun j => by simp [World.frozen?, hn.row]
  have p0 : w1.cell? ⟨w.heap.size, 0, none⟩ = some (.pointer none) := cell_of_row _ _ _ _ _ _ hn.res
  have pf : ∀ j, w1.frozen? ⟨w.heap.size, j, none⟩ = false := fun j => by simp [World.frozen?, hn.res]
  clear hown1 hgr1 hn
  go_wp2_with fail
  refine (valueIn30_any (w.heap.size + 1) 0 _ .nilIface (by simp only [setSize]; omega) (by rw [cell_off _ (by omega), World.cell?_of_block (w := w1) (a := ⟨w.heap.size + 1, 0, none⟩) ((Below.heap_setCell _ ⟨g, 2, none⟩ _ _ hne4).trans (Below.heap_setCell _ ⟨g, 2, none⟩ _ _ hne4))]; exact r0) (by rw [World.frozen?_setCell, World.frozen?_setCell, World.frozen?_setCell]; exact rf 0)).mono ?_
  rintro e w4 ⟨rfl, hb4⟩
  simp only [setSize] at hb4
  have s0 : w4.cell? ⟨w.heap.size, 0, none⟩ = some (.pointer none) := by
    rw [hb4.cell (p := ⟨w.heap.size, 0, none⟩) (by dsimp only; omega), World.cell?_of_block (w := w1) (a := ⟨w.heap.size, 0, none⟩) ((Below.heap_setCell _ _ _ _ (by dsimp only; omega)).trans ((Below.heap_setCell _ _ _ _ (by dsimp only; omega)).trans ((Below.heap_setCell _ _ _ _ (Ne.symm hne2)).trans (Below.heap_setCell _ _ _ _ (Ne.symm hne2)))))]
    exact p0
  have sf : w4.frozen? ⟨w.heap.size, 0, none⟩ = false := by
    rw [hb4.frozen (p := ⟨w.heap.size, 0, none⟩) (by dsimp only; omega), World.frozen?_setCell, World.frozen?_setCell, World.frozen?_setCell, World.frozen?_setCell]; exact pf 0
  have HB := show Hid _ from hb4
  clear hb4
  go_wp2
  exact bodyPost_ret (v := .agg #[.pointer (some ⟨w.heap.size + 1, 0, none⟩)]) (by simp [results, Try.results22, go_sem, s0]) rfl ⟨rfl, _, w1, w4, _, by omega, HN.out, HB.out, rfl⟩

set_option maxRecDepth 100000 in
set_option maxHeartbeats 1600000 in
theorem makeIn22_empty_b (g cap c m : Nat) (a : Option Addr) (sz : Nat) (w : World) (hg : g < w.heap.size)
    (c2 : w.cell? ⟨g, 2, none⟩ = some (.slice a 0 cap)) (f2 : w.frozen? ⟨g, 2, none⟩ = false) (c3 : w.cell? ⟨g, 3, none⟩ = some (.int .i64 (sz : Nat))) (f3 : w.frozen? ⟨g, 3, none⟩ = false) (hsz : sz ≤ 128) (hm : 8 ≤ 2 * sz) (hm2 : 2 * sz ≤ 128) (hm3 : 2 * sz = m + 1) :
    Calls Try.prog 22 #[.pointer (some ⟨g, 2, none⟩), .float .f64 c] w fun e w' => e = .returned (.agg #[.pointer (some ⟨w.heap.size + 1, 0, none⟩)]) ∧ Raw22 w w' g m c := by
  obtain ⟨i0, hi0, hz0, hz1, hz2⟩ := info_parts info81
  have hsf := run_store_flt
  have hne2 : g ≠ w.heap.size := by omega
  have hne3 : g ≠ w.heap.size + 1 := by omega
  have hne4 : w.heap.size + 1 ≠ g := by omega
  have e1 : IntKind.i64.wrap (2 * ((sz : Nat) : Int)) = ((2 * sz : Nat) : Int) := by rw [IntKind.wrap_i64]; omega
  have hm4 : 8 ≤ 2 * (sz : Int) := by omega
  have hm5 : 2 * (sz : Int) ≤ 128 := by omega
  go_enter Try.func22, Try.ntmps22
  go_wp2_with (at_make; refine wpList_make_full _ rfl _ _ 27 rfl 0 81 i0 (.agg #[.nilIface, .float .f64 0]) 2 Try.underlying27 hi0 hz0 hz1 .i64 .i64 _ _ (m + 1) rfl rfl (by omega) (by omega) (by rw [hz2]; omega) (by unfold maxLen; omega) (Nat.zero_le _) ?_)
  intro w1 hown1 hgr1
  have hn := new22 hown1 hgr1
  have HN := show Hid _ from hn
  have hsz1 := hn.size
  have q2 : w1.cell? ⟨g, 2, none⟩ = some (.slice a 0 cap) := by
    rw [World.cell?_of_block (a := ⟨g, 2, none⟩) (hn.old g hg), cell_off _ (by omega)]; exact c2
  have q3 : w1.frozen? ⟨g, 2, none⟩ = false := (frozen_block (a := ⟨g, 2, none⟩) (hn.old g hg)).trans ((World.frozen?_setCell _ _ _ _).trans f2)
  have r0 : w1.cell? ⟨w.heap.size + 1, 0, none⟩ = some .nilIface := by rw [cell_of_row _ _ _ _ _ _ hn.row]; exact (made_even _ _ _ 0 (by omega)).1
  have r1 : w1.cell? ⟨w.heap.size + 1, 1, none⟩ = some (.float .f64 0) := by rw [cell_of_row _ _ _ _ _ _ hn.row]; exact (made_even _ _ _ 0 (by omega)).2
  have rf : ∀ j, w1.frozen? ⟨w.heap.size + 1, j, none⟩ = false := fun j => by simp [World.frozen?, hn.row]
  have p0 : w1.cell? ⟨w.heap.size, 0, none⟩ = some (.pointer none) := cell_of_row _ _ _ _ _ _ hn.res
  have pf : ∀ j, w1.frozen? ⟨w.heap.size, j, none⟩ = false := fun j => by simp [World.frozen?, hn.res]
  have hmz : m ≠ 0 := by omega
  clear hown1 hgr1 hn
  go_wp2_with fail
  refine (valueIn30_any (w.heap.size + 1) 0 _ .nilIface (by simp only [setSize]; omega) (by rw [cell_off _ (by omega), World.cell?_of_block (w := w1) (a := ⟨w.heap.size + 1, 0, none⟩) ((Below.heap_setCell _ ⟨g, 2, none⟩ _ _ hne4).trans (Below.heap_setCell _ ⟨g, 2, none⟩ _ _ hne4))]; exact r0) (by rw [World.frozen?_setCell, World.frozen?_setCell, World.frozen?_setCell]; exact rf 0)).mono ?_
  rintro e w4 ⟨rfl, hb4⟩
  simp only [setSize] at hb4
  have s0 : w4.cell? ⟨w.heap.size, 0, none⟩ = some (.pointer none) := by
    rw [hb4.cell (p := ⟨w.heap.size, 0, none⟩) (by dsimp only; omega), World.cell?_of_block (w := w1) (a := ⟨w.heap.size, 0, none⟩) ((Below.heap_setCell _ _ _ _ (by dsimp only; omega)).trans ((Below.heap_setCell _ _ _ _ (by dsimp only; omega)).trans ((Below.heap_setCell _ _ _ _ (Ne.symm hne2)).trans (Below.heap_setCell _ _ _ _ (Ne.symm hne2)))))]
    exact p0
  have sf : w4.frozen? ⟨w.heap.size, 0, none⟩ = false := by
    rw [hb4.frozen (p := ⟨w.heap.size, 0, none⟩) (by dsimp only; omega), World.frozen?_setCell, World.frozen?_setCell, World.frozen?_setCell, World.frozen?_setCell]; exact pf 0
  have HB := show Hid _ from hb4
  clear hb4
  go_wp2
  exact bodyPost_ret (v := .agg #[.pointer (some ⟨w.heap.size + 1, 0, none⟩)]) (by simp [results, Try.results22, go_sem, s0]) rfl ⟨rfl, _, w1, w4, _, by omega, HN.out, HB.out, rfl⟩

set_option maxRecDepth 100000 in
set_option maxHeartbeats 1600000 in
theorem makeIn22_empty_c (g cap c : Nat) (a : Option Addr) (sz : Nat) (w : World) (hg : g < w.heap.size)
    (c2 : w.cell? ⟨g, 2, none⟩ = some (.slice a 0 cap)) (f2 : w.frozen? ⟨g, 2, none⟩ = false) (c3 : w.cell? ⟨g, 3, none⟩ = some (.int .i64 (sz : Nat))) (f3 : w.frozen? ⟨g, 3, none⟩ = false) (hsz : sz ≤ 128) (hm : 128 < 2 * sz) :
    Calls Try.prog 22 #[.pointer (some ⟨g, 2, none⟩), .float .f64 c] w fun e w' => e = .returned (.agg #[.pointer (some ⟨w.heap.size + 1, 0, none⟩)]) ∧ Raw22 w w' g 127 c := by
  obtain ⟨i0, hi0, hz0, hz1, hz2⟩ := info_parts info81
  have hsf := run_store_flt
  have hne2 : g ≠ w.heap.size := by omega
  have hne3 : g ≠ w.heap.size + 1 := by omega
  have hne4 : w.heap.size + 1 ≠ g := by omega
  have e1 : IntKind.i64.wrap (2 * ((sz : Nat) : Int)) = ((2 * sz : Nat) : Int) := by rw [IntKind.wrap_i64]; omega
  have hm4 : 128 < 2 * (sz : Int) := by omega
  have hm5 : 8 ≤ 2 * (sz : Int) := by omega
  go_enter Try.func22, Try.ntmps22
  go_wp2_with (at_make; refine wpList_make_full _ rfl _ _ 27 rfl 0 81 i0 (.agg #[.nilIface, .float .f64 0]) 2 Try.underlying27 hi0 hz0 hz1 .i64 .i64 _ _ (127 + 1) rfl rfl (by omega) (by omega) (by rw [hz2]; omega) (by unfold maxLen; omega) (Nat.zero_le _) ?_)
  intro w1 hown1 hgr1
  have hn := new22 hown1 hgr1
  have HN := show Hid _ from hn
  have hsz1 := hn.size
  have q2 : w1.cell? ⟨g, 2, none⟩ = some (.slice a 0 cap) := by
    rw [World.cell?_of_block (a := ⟨g, 2, none⟩) (hn.old g hg), cell_off _ (by omega)]; exact c2
  have q3 : w1.frozen? ⟨g, 2, none⟩ = false := (frozen_block (a := ⟨g, 2, none⟩) (hn.old g hg)).trans ((World.frozen?_setCell _ _ _ _).trans f2)
  have r0 : w1.cell? ⟨w.heap.size + 1, 0, none⟩ = some .nilIface := by rw [cell_of_row _ _ _ _ _ _ hn.row]; exact (made_even _ _ _ 0 (by omega)).1
  have r1 : w1.cell? ⟨w.heap.size + 1, 1, none⟩ = some (.float .f64 0) := by rw [cell_of_row _ _ _ _ _ _ hn.row]; exact (made_even _ _ _ 0 (by omega)).2
  have rf : ∀ j, w1.frozen? ⟨w.heap.size + 1, j, none⟩ = false := fun j => by simp [World.frozen?, hn.row]
  have p0 : w1.cell? ⟨w.heap.size, 0, none⟩ = some (.pointer none) := cell_of_row _ _ _ _ _ _ hn.res
  have pf : ∀ j, w1.frozen? ⟨w.heap.size, j, none⟩ = false := fun j => by simp [World.frozen?, hn.res]
  clear hown1 hgr1 hn
  go_wp2_with fail
  refine (valueIn30_any (w.heap.size + 1) 0 _ .nilIface (by simp only [setSize]; omega) (by rw [cell_off _ (by omega), World.cell?_of_block (w := w1) (a := ⟨w.heap.size + 1, 0, none⟩) ((Below.heap_setCell _ ⟨g, 2, none⟩ _ _ hne4).trans (Below.heap_setCell _ ⟨g, 2, none⟩ _ _ hne4))]; exact r0) (by rw [World.frozen?_setCell, World.frozen?_setCell, World.frozen?_setCell]; exact rf 0)).mono ?_
  rintro e w4 ⟨rfl, hb4⟩
  simp only [setSize] at hb4
  have s0 : w4.cell? ⟨w.heap.size, 0, none⟩ = some (.pointer none) := by
    rw [hb4.cell (p := ⟨w.heap.size, 0, none⟩) (by dsimp only; omega), World.cell?_of_block (w := w1) (a := ⟨w.heap.size, 0, none⟩) ((Below.heap_setCell _ _ _ _ (by dsimp only; omega)).trans ((Below.heap_setCell _ _ _ _ (by dsimp only; omega)).trans ((Below.heap_setCell _ _ _ _ (Ne.symm hne2)).trans (Below.heap_setCell _ _ _ _ (Ne.symm hne2)))))]
    exact p0
  have sf : w4.frozen? ⟨w.heap.size, 0, none⟩ = false := by
    rw [hb4.frozen (p := ⟨w.heap.size, 0, none⟩) (by dsimp only; omega), World.frozen?_setCell, World.frozen?_setCell, World.frozen?_setCell, World.frozen?_setCell]; exact pf 0
  have HB := show Hid _ from hb4
  clear hb4
  go_wp2
  exact bodyPost_ret (v := .agg #[.pointer (some ⟨w.heap.size + 1, 0, none⟩)]) (by simp [results, Try.results22, go_sem, s0]) rfl ⟨rfl, _, w1, w4, _, by omega, HN.out, HB.out, rfl⟩

set_option maxRecDepth 100000 in
set_option maxHeartbeats 1600000 in
theorem makeIn22_taken_a (g b o len cap c : Nat) (hh : Value) (sz : Nat) (w : World) (hg : g < w.heap.size) (hb : b < w.heap.size)
    (h0 : w.cell? ⟨b, o, none⟩ = some (.iface 66 hh)) (c2 : w.cell? ⟨g, 2, none⟩ = some (.slice (some ⟨b, o, none⟩) (len + 1) cap)) (f2 : w.frozen? ⟨g, 2, none⟩ = false) (c3 : w.cell? ⟨g, 3, none⟩ = some (.int .i64 (sz : Nat))) (f3 : w.frozen? ⟨g, 3, none⟩ = false) (hsz : sz ≤ 128) (hm : 2 * sz < 8) :
    Calls Try.prog 22 #[.pointer (some ⟨g, 2, none⟩), .float .f64 c] w fun e w' => e = .returned (.agg #[.pointer (some ⟨w.heap.size + 1, 0, none⟩)]) ∧ Raw22 w w' g 7 c := by
  obtain ⟨i0, hi0, hz0, hz1, hz2⟩ := info_parts info81
  have hsf := run_store_flt
  have hne : b ≠ w.heap.size := by omega
  have hne2 : g ≠ w.heap.size := by omega
  have hne3 : g ≠ w.heap.size + 1 := by omega
  have hne4 : w.heap.size + 1 ≠ g := by omega
  have e1 : IntKind.i64.wrap (2 * ((sz : Nat) : Int)) = ((2 * sz : Nat) : Int) := by rw [IntKind.wrap_i64]; omega
  have hm4 : 2 * (sz : Int) < 8 := by omega
  go_enter Try.func22, Try.ntmps22
  go_wp2_with (at_make; refine wpList_make_full _ rfl _ _ 27 rfl 0 81 i0 (.agg #[.nilIface, .float .f64 0]) 2 Try.underlying27 hi0 hz0 hz1 .i64 .i64 _ _ (7 + 1) rfl rfl (by omega) (by omega) (by rw [hz2]; omega) (by unfold maxLen; omega) (Nat.zero_le _) ?_)
  intro w1 hown1 hgr1
  have hn := new22 hown1 hgr1
  have HN := show Hid _ from hn
  have hsz1 := hn.size
  have q2 : w1.cell? ⟨g, 2, none⟩ = some (.slice (some ⟨b, o, none⟩) (len + 1) cap) := by
    rw [World.cell?_of_block (a := ⟨g, 2, none⟩) (hn.old g hg), cell_off _ (by omega)]; exact c2
  have q3 : w1.frozen? ⟨g, 2, none⟩ = false := (frozen_block (a := ⟨g, 2, none⟩) (hn.old g hg)).trans ((World.frozen?_setCell _ _ _ _).trans f2)
  have r0 : w1.cell? ⟨w.heap.size + 1, 0, none⟩ = some .nilIface := by rw [cell_of_row _ _ _ _ _ _ hn.row]; exact (made_even _ _ _ 0 (by omega)).1
  have r1 : w1.cell? ⟨w.heap.size + 1, 1, none⟩ = some (.float .f64 0) := by rw [cell_of_row _ _ _ _ _ _ hn.row]; exact (made_even _ _ _ 0 (by omega)).2
  have rf : ∀ j, w1.frozen? ⟨w.heap.size + 1, j, none⟩ = false := fun j => by simp [World.frozen?, hn.row]
  have p0 : w1.cell? ⟨w.heap.size, 0, none⟩ = some (.pointer none) := cell_of_row _ _ _ _ _ _ hn.res
  have pf : ∀ j, w1.frozen? ⟨w.heap.size, j, none⟩ = false := fun j => by simp [World.frozen?, hn.res]
  clear hown1 hgr1 hn
  go_wp2_with fail
  refine (valueIn30_any (w.heap.size + 1) 0 _ .nilIface (by simp only [setSize]; omega) (by rw [cell_off _ (by omega), World.cell?_of_block (w := w1) (a := ⟨w.heap.size + 1, 0, none⟩) ((Below.heap_setCell _ ⟨g, 2, none⟩ _ _ hne4).trans (Below.heap_setCell _ ⟨g, 2, none⟩ _ _ hne4))]; exact r0) (by rw [World.frozen?_setCell, World.frozen?_setCell, World.frozen?_setCell]; exact rf 0)).mono ?_
  rintro e w4 ⟨rfl, hb4⟩
  simp only [setSize] at hb4
  have s0 : w4.cell? ⟨w.heap.size, 0, none⟩ = some (.pointer none) := by
    rw [hb4.cell (p := ⟨w.heap.size, 0, none⟩) (by dsimp only; omega), World.cell?_of_block (w := w1) (a := ⟨w.heap.size, 0, none⟩) ((Below.heap_setCell _ _ _ _ (by dsimp only; omega)).trans ((Below.heap_setCell _ _ _ _ (by dsimp only; omega)).trans ((Below.heap_setCell _ _ _ _ (Ne.symm hne2)).trans (Below.heap_setCell _ _ _ _ (Ne.symm hne2)))))]
    exact p0
  have sf : w4.frozen? ⟨w.heap.size, 0, none⟩ = false := by
    rw [hb4.frozen (p := ⟨w.heap.size, 0, none⟩) (by dsimp only; omega), World.frozen?_setCell, World.frozen?_setCell, World.frozen?_setCell, World.frozen?_setCell]; exact pf 0
  have HB := show Hid _ from hb4
  clear hb4
  go_wp2
  exact bodyPost_ret (v := .agg #[.pointer (some ⟨w.heap.size + 1, 0, none⟩)]) (by simp [results, Try.results22, go_sem, s0]) rfl ⟨rfl, _, w1, w4, _, by omega, HN.out, HB.out, rfl⟩

set_option maxRecDepth 100000 in
set_option maxHeartbeats 1600000 in
theorem makeIn22_taken_b (g b o len cap c m : Nat) (hh : Value) (sz : Nat) (w : World) (hg : g < w.heap.size) (hb : b < w.heap.size)
    (h0 : w.cell? ⟨b, o, none⟩ = some (.iface 66 hh)) (c2 : w.cell? ⟨g, 2, none⟩ = some (.slice (some ⟨b, o, none⟩) (len + 1) cap)) (f2 : w.frozen? ⟨g, 2, none⟩ = false) (c3 : w.cell? ⟨g, 3, none⟩ = some (.int .i64 (sz : Nat))) (f3 : w.frozen? ⟨g, 3, none⟩ = false) (hsz : sz ≤ 128) (hm : 8 ≤ 2 * sz) (hm2 : 2 * sz ≤ 128) (hm3 : 2 * sz = m + 1) :
    Calls Try.prog 22 #[.pointer (some ⟨g, 2, none⟩), .float .f64 c] w fun e w' => e = .returned (.agg #[.pointer (some ⟨w.heap.size + 1, 0, none⟩)]) ∧ Raw22 w w' g m c := by
  obtain ⟨i0, hi0, hz0, hz1, hz2⟩ := info_parts info81
  have hsf := run_store_flt
  have hne : b ≠ w.heap.size := by omega
  have hne2 : g ≠ w.heap.size := by omega
  have hne3 : g ≠ w.heap.size + 1 := by omega
  have hne4 : w.heap.size + 1 ≠ g := by omega
  have e1 : IntKind.i64.wrap (2 * ((sz : Nat) : Int)) = ((2 * sz : Nat) : Int) := by rw [IntKind.wrap_i64]; omega
  have hm4 : 8 ≤ 2 * (sz : Int) := by omega
  have hm5 : 2 * (sz : Int) ≤ 128 := by omega
  go_enter Try.func22, Try.ntmps22
  go_wp2_with (at_make; refine wpList_make_full _ rfl _ _ 27 rfl 0 81 i0 (.agg #[.nilIface, .float .f64 0]) 2 Try.underlying27 hi0 hz0 hz1 .i64 .i64 _ _ (m + 1) rfl rfl (by omega) (by omega) (by rw [hz2]; omega) (by unfold maxLen; omega) (Nat.zero_le _) ?_)
  intro w1 hown1 hgr1
  have hn := new22 hown1 hgr1
  have HN := show Hid _ from hn
  have hsz1 := hn.size
  have q2 : w1.cell? ⟨g, 2, none⟩ = some (.slice (some ⟨b, o, none⟩) (len + 1) cap) := by
    rw [World.cell?_of_block (a := ⟨g, 2, none⟩) (hn.old g hg), cell_off _ (by omega)]; exact c2
  have q3 : w1.frozen? ⟨g, 2, none⟩ = false := (frozen_block (a := ⟨g, 2, none⟩) (hn.old g hg)).trans ((World.frozen?_setCell _ _ _ _).trans f2)
  have r0 : w1.cell? ⟨w.heap.size + 1, 0, none⟩ = some .nilIface := by rw [cell_of_row _ _ _ _ _ _ hn.row]; exact (made_even _ _ _ 0 (by omega)).1
  have r1 : w1.cell? ⟨w.heap.size + 1, 1, none⟩ = some (.float .f64 0) := by rw [cell_of_row _ _ _ _ _ _ hn.row]; exact (made_even _ _ _ 0 (by omega)).2
  have rf : ∀ j, w1.frozen? ⟨w.heap.size + 1, j, none⟩ = false := fun j => by simp [World.frozen?, hn.row]
  have p0 : w1.cell? ⟨w.heap.size, 0, none⟩ = some (.pointer none) := cell_of_row _ _ _ _ _ _ hn.res
  have pf : ∀ j, w1.frozen? ⟨w.heap.size, j, none⟩ = false := fun j => by simp [World.frozen?, hn.res]
  have hmz : m ≠ 0 := by omega
  clear hown1 hgr1 hn
  go_wp2_with fail
  refine (valueIn30_any (w.heap.size + 1) 0 _ .nilIface (by simp only [setSize]; omega) (by rw [cell_off _ (by omega), World.cell?_of_block (w := w1) (a := ⟨w.heap.size + 1, 0, none⟩) ((Below.heap_setCell _ ⟨g, 2, none⟩ _ _ hne4).trans (Below.heap_setCell _ ⟨g, 2, none⟩ _ _ hne4))]; exact r0) (by rw [World.frozen?_setCell, World.frozen?_setCell, World.frozen?_setCell]; exact rf 0)).mono ?_
  rintro e w4 ⟨rfl, hb4⟩
  simp only [setSize] at hb4
  have s0 : w4.cell? ⟨w.heap.size, 0, none⟩ = some (.pointer none) := by
    rw [hb4.cell (p := ⟨w.heap.size, 0, none⟩) (by dsimp only; omega), World.cell?_of_block (w := w1) (a := ⟨w.heap.size, 0, none⟩) ((Below.heap_setCell _ _ _ _ (by dsimp only; omega)).trans ((Below.heap_setCell _ _ _ _ (by dsimp only; omega)).trans ((Below.heap_setCell _ _ _ _ (Ne.symm hne2)).trans (Below.heap_setCell _ _ _ _ (Ne.symm hne2)))))]
    exact p0
  have sf : w4.frozen? ⟨w.heap.size, 0, none⟩ = false := by
    rw [hb4.frozen (p := ⟨w.heap.size, 0, none⟩) (by dsimp only; omega), World.frozen?_setCell, World.frozen?_setCell, World.frozen?_setCell, World.frozen?_setCell]; exact pf 0
  have HB := show Hid _ from hb4
  clear hb4
  go_wp2
  exact bodyPost_ret (v := .agg #[.pointer (some ⟨w.heap.size + 1, 0, none⟩)]) (by simp [results, Try.results22, go_sem, s0]) rfl ⟨rfl, _, w1, w4, _, by omega, HN.out, HB.out, rfl⟩

set_option maxRecDepth 100000 in
set_option maxHeartbeats 1600000 in
theorem makeIn22_taken_c (g b o len cap c : Nat) (hh : Value) (sz : Nat) (w : World) (hg : g < w.heap.size) (hb : b < w.heap.size)
    (h0 : w.cell? ⟨b, o, none⟩ = some (.iface 66 hh)) (c2 : w.cell? ⟨g, 2, none⟩ = some (.slice (some ⟨b, o, none⟩) (len + 1) cap)) (f2 : w.frozen? ⟨g, 2, none⟩ = false) (c3 : w.cell? ⟨g, 3, none⟩ = some (.int .i64 (sz : Nat))) (f3 : w.frozen? ⟨g, 3, none⟩ = false) (hsz : sz ≤ 128) (hm : 128 < 2 * sz) :
    Calls Try.prog 22 #[.pointer (some ⟨g, 2, none⟩), .float .f64 c] w fun e w' => e = .returned (.agg #[.pointer (some ⟨w.heap.size + 1, 0, none⟩)]) ∧ Raw22 w w' g 127 c := by
  obtain ⟨i0, hi0, hz0, hz1, hz2⟩ := info_parts info81
  have hsf := run_store_flt
  have hne : b ≠ w.heap.size := by omega
  have hne2 : g ≠ w.heap.size := by omega
  have hne3 : g ≠ w.heap.size + 1 := by omega
  have hne4 : w.heap.size + 1 ≠ g := by omega
  have e1 : IntKind.i64.wrap (2 * ((sz : Nat) : Int)) = ((2 * sz : Nat) : Int) := by rw [IntKind.wrap_i64]; omega
  have hm4 : 128 < 2 * (sz : Int) := by omega
  have hm5 : 8 ≤ 2 * (sz : Int) := by omega
  go_enter Try.func22, Try.ntmps22
  go_wp2_with (at_make; refine wpList_make_full _ rfl _ _ 27 rfl 0 81 i0 (.agg #[.nilIface, .float .f64 0]) 2 Try.underlying27 hi0 hz0 hz1 .i64 .i64 _ _ (127 + 1) rfl rfl (by omega) (by omega) (by rw [hz2]; omega) (by unfold maxLen; omega) (Nat.zero_le _) ?_)
  intro w1 hown1 hgr1
  have hn := new22 hown1 hgr1
  have HN := show Hid _ from hn
  have hsz1 := hn.size
  have q2 : w1.cell? ⟨g, 2, none⟩ = some (.slice (some ⟨b, o, none⟩) (len + 1) cap) := by
    rw [World.cell?_of_block (a := ⟨g, 2, none⟩) (hn.old g hg), cell_off _ (by omega)]; exact c2
  have q3 : w1.frozen? ⟨g, 2, none⟩ = false := (frozen_block (a := ⟨g, 2, none⟩) (hn.old g hg)).trans ((World.frozen?_setCell _ _ _ _).trans f2)
  have r0 : w1.cell? ⟨w.heap.size + 1, 0, none⟩ = some .nilIface := by rw [cell_of_row _ _ _ _ _ _ hn.row]; exact (made_even _ _ _ 0 (by omega)).1
  have r1 : w1.cell? ⟨w.heap.size + 1, 1, none⟩ = some (.float .f64 0) := by rw [cell_of_row _ _ _ _ _ _ hn.row]; exact (made_even _ _ _ 0 (by omega)).2
  have rf : ∀ j, w1.frozen? ⟨w.heap.size + 1, j, none⟩ = false := fun j => by simp [World.frozen?, hn.row]
  have p0 : w1.cell? ⟨w.heap.size, 0, none⟩ = some (.pointer none) := cell_of_row _ _ _ _ _ _ hn.res
  have pf : ∀ j, w1.frozen? ⟨w.heap.size, j, none⟩ = false := fun j => by simp [World.frozen?, hn.res]
  clear hown1 hgr1 hn
  go_wp2_with fail
  refine (valueIn30_any (w.heap.size + 1) 0 _ .nilIface (by simp only [setSize]; omega) (by rw [cell_off _ (by omega), World.cell?_of_block (w := w1) (a := ⟨w.heap.size + 1, 0, none⟩) ((Below.heap_setCell _ ⟨g, 2, none⟩ _ _ hne4).trans (Below.heap_setCell _ ⟨g, 2, none⟩ _ _ hne4))]; exact r0) (by rw [World.frozen?_setCell, World.frozen?_setCell, World.frozen?_setCell]; exact rf 0)).mono ?_
  rintro e w4 ⟨rfl, hb4⟩
  simp only [setSize] at hb4
  have s0 : w4.cell? ⟨w.heap.size, 0, none⟩ = some (.pointer none) := by
    rw [hb4.cell (p := ⟨w.heap.size, 0, none⟩) (by dsimp only; omega), World.cell?_of_block (w := w1) (a := ⟨w.heap.size, 0, none⟩) ((Below.heap_setCell _ _ _ _ (by dsimp only; omega)).trans ((Below.heap_setCell _ _ _ _ (by dsimp only; omega)).trans ((Below.heap_setCell _ _ _ _ (Ne.symm hne2)).trans (Below.heap_setCell _ _ _ _ (Ne.symm hne2)))))]
    exact p0
  have sf : w4.frozen? ⟨w.heap.size, 0, none⟩ = false := by
    rw [hb4.frozen (p := ⟨w.heap.size, 0, none⟩) (by dsimp only; omega), World.frozen?_setCell, World.frozen?_setCell, World.frozen?_setCell, World.frozen?_setCell]; exact pf 0
  have HB := show Hid _ from hb4
  clear hb4
  go_wp2
  exact bodyPost_ret (v := .agg #[.pointer (some ⟨w.heap.size + 1, 0, none⟩)]) (by simp [results, Try.results22, go_sem, s0]) rfl ⟨rfl, _, w1, w4, _, by omega, HN.out, HB.out, rfl⟩

end Go.Proofs.Qxb6614646a
