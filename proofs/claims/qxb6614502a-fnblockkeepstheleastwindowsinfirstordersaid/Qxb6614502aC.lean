/-
  slices.DeleteFunc at windows, with the closure of 'block'.
-/
import Derived.Test.Qxb6614502aB
import Derived.OneCell
namespace Go.Proofs.Qxb6614502a
open Go.RowKit

/-- The cells of a row of windows. -/
def wcells : List (Int × Int) → List Value
  | [] => []
  | p :: r => .int .i64 p.1 :: .int .i64 p.2 :: wcells r

theorem wcells_length (B : List (Int × Int)) : (wcells B).length = B.length * 2 := by
  induction B with
  | nil => rfl
  | cons p r ih => simp only [wcells, List.length_cons, ih]; omega

theorem wcells_append (A B : List (Int × Int)) : wcells (A ++ B) = wcells A ++ wcells B := by
  induction A with
  | nil => rfl
  | cons p r ih => simp [wcells, ih]

def fx (B : List (Int × Int)) (j : Nat) : Int := (B.getD j (0, 0)).1
def fy (B : List (Int × Int)) (j : Nat) : Int := (B.getD j (0, 0)).2

theorem wcells_get (B : List (Int × Int)) : ∀ j, j < B.length → (wcells B)[j * 2]? = some (.int .i64 (fx B j)) ∧ (wcells B)[j * 2 + 1]? = some (.int .i64 (fy B j)) := by
  induction B with
  | nil => intro j hj; simp at hj
  | cons p r ih =>
    intro j hj
    match j with
    | 0 => exact ⟨rfl, rfl⟩
    | j + 1 =>
      have := ih j (by simpa using hj)
      have e1 : (j + 1) * 2 = j * 2 + 1 + 1 := by omega
      rw [e1]
      exact this

/-- Is the window kept when (a, b) is recorded? -/
def keep (a b : Int) (p : Int × Int) : Bool := !lew a b p.1 p.2

theorem keep_eq (B : List (Int × Int)) (k : Nat) (a b : Int) : keep a b (B.getD k (0, 0)) = !lew a b (fx B k) (fy B k) := rfl

theorem take_snocW (B : List (Int × Int)) (k : Nat) (h : k < B.length) : B.take (k + 1) = B.take k ++ [B.getD k (0, 0)] := by
  rw [List.take_succ_eq_append_getElem h, List.getD_eq_getElem?_getD, List.getElem?_eq_getElem h]; rfl

theorem cells_of_take {cur : Array Value} {B : List (Int × Int)} (htake : cur.toList.take (B.length * 2) = wcells B) (j : Nat) (hj : j < B.length) :
    cur[j * 2]? = some (.int .i64 (fx B j)) ∧ cur[j * 2 + 1]? = some (.int .i64 (fy B j)) := by
  have h := wcells_get B j hj
  rw [← htake, List.getElem?_take, if_pos (by omega), List.getElem?_take, if_pos (by omega)] at h
  simpa using h

/-- The state of slices.DeleteFunc: k elements looked at, i of them kept. -/
structure DS (g cap : Nat) (cur : Array Value) (B : List (Int × Int)) (a b : Int) (w wr : World) (k i : Nat) : Prop where
  cr : ∃ cr : Array Value, wr.heap[g]? = some (.cells cr 76 (0, 0)) ∧ cr.size = cap * 2 ∧ cr.toList.take (i * 2) = wcells ((B.take k).filter (keep a b)) ∧ (∀ o, k * 2 ≤ o → cr[o]? = cur[o]?)
  cnt : ((B.take k).filter (keep a b)).length = i
  lt : i < k
  le : k ≤ B.length
  cap : B.length ≤ cap
  gr : w.grownBy wr (some g)

theorem grownBy_trans {a b c : World} {r : Option Nat} (h : a.grownBy b r) (k : b.grownBy c r) : a.grownBy c r :=
  ⟨k.os.trans h.os, k.tape.trans h.tape, k.output.trans h.output, Nat.le_trans h.size k.size, fun i hi hn => (k.block i (Nat.lt_of_lt_of_le hi h.size) hn).trans (h.block i hi hn)⟩

theorem grownBy_setCell (w : World) (g o : Nat) (u : Value) : w.grownBy (w.setCell ⟨g, o, none⟩ u) (some g) :=
  ⟨rfl, rfl, rfl, by simp [World.setCell], fun k _ hn => Below.heap_setCell w ⟨g, o, none⟩ u k (fun e => hn (by rw [e]))⟩

theorem block_setCell {w : World} {g o : Nat} {cs : Array Value} {t : TypeId} (u : Value) (h : w.heap[g]? = some (.cells cs t (0, 0))) : (w.setCell ⟨g, o, none⟩ u).heap[g]? = some (.cells (cs.setIfInBounds o u) t (0, 0)) := by
  have hlt := lt_of_block h
  have h' : w.heap[g] = .cells cs t (0, 0) := by simpa [Array.getElem?_eq_getElem hlt] using h
  show (w.heap.modify g _)[g]? = _
  rw [Array.getElem?_eq_getElem (by simpa using hlt), Array.getElem_modify_self, h']
  rfl

theorem frozen_of_row {w : World} {g o : Nat} {cs : Array Value} {t : TypeId} (h : w.heap[g]? = some (.cells cs t (0, 0))) : w.frozen? ⟨g, o, none⟩ = false := by simp [World.frozen?, h]

theorem DS.elem {g cap : Nat} {cur : Array Value} {B : List (Int × Int)} {a b : Int} {w wr : World} {k i : Nat} (h : DS g cap cur B a b w wr k i) (htake : cur.toList.take (B.length * 2) = wcells B) (hk : k < B.length) :
    wr.cell? ⟨g, k * 2, none⟩ = some (.int .i64 (fx B k)) ∧ wr.cell? ⟨g, k * 2 + 1, none⟩ = some (.int .i64 (fy B k)) := by
  obtain ⟨cr, hg, hs, ht, ho⟩ := h.cr
  have hc := cells_of_take htake k hk
  rw [cell_of_row wr g _ cr 76 _ hg, cell_of_row wr g _ cr 76 _ hg, ho _ (by omega), ho _ (by omega)]
  exact hc

theorem DS.spot {g cap : Nat} {cur : Array Value} {B : List (Int × Int)} {a b : Int} {w wr : World} {k i : Nat} (h : DS g cap cur B a b w wr k i) (j : Nat) (hj : j < cap * 2) :
    (∃ v, wr.cell? ⟨g, j, none⟩ = some v) ∧ wr.frozen? ⟨g, j, none⟩ = false := by
  obtain ⟨cr, hg, hs, ht, ho⟩ := h.cr
  refine ⟨⟨cr[j]'(by omega), ?_⟩, frozen_of_row hg⟩
  rw [cell_of_row wr g _ cr 76 _ hg, Array.getElem?_eq_getElem (by omega)]

theorem DS.alloc {g cap : Nat} {cur : Array Value} {B : List (Int × Int)} {a b : Int} {w wr : World} {k i : Nat} (h : DS g cap cur B a b w wr k i) (o : Obj) : DS g cap cur B a b w (wr.alloc o) k i := by
  obtain ⟨⟨cr, hg, hs, ht, ho⟩, h2, h3, h4, h5, h6⟩ := h
  exact ⟨⟨cr, by rw [Below.heap_alloc _ _ _ (lt_of_block hg)]; exact hg, hs, ht, ho⟩, h2, h3, h4, h5, grownBy_trans h6 (World.grownBy_alloc _ _ _)⟩

theorem DS.drop {g cap : Nat} {cur : Array Value} {B : List (Int × Int)} {a b : Int} {w wr : World} {k i : Nat} (h : DS g cap cur B a b w wr k i) (hk : k < B.length) (hl : lew a b (fx B k) (fy B k) = true) :
    DS g cap cur B a b w wr (k + 1) i := by
  obtain ⟨⟨cr, hg, hs, ht, ho⟩, h2, h3, h4, h5, h6⟩ := h
  have e : (B.take (k + 1)).filter (keep a b) = (B.take k).filter (keep a b) := by
    rw [take_snocW B k hk, List.filter_append]
    simp only [List.filter_cons, List.filter_nil]
    rw [keep_eq, hl]; simp
  exact ⟨⟨cr, hg, hs, by rw [e]; exact ht, fun o hko => ho o (by omega)⟩, by rw [e]; exact h2, by omega, by omega, h5, h6⟩

theorem DS.put {g cap : Nat} {cur : Array Value} {B : List (Int × Int)} {a b : Int} {w wr : World} {k i : Nat} (h : DS g cap cur B a b w wr k i) (hk : k < B.length) (hl : lew a b (fx B k) (fy B k) = false) :
    DS g cap cur B a b w ((wr.setCell ⟨g, i * 2, none⟩ (.int .i64 (fx B k))).setCell ⟨g, i * 2 + 1, none⟩ (.int .i64 (fy B k))) (k + 1) (i + 1) := by
  obtain ⟨⟨cr, hg, hs, ht, ho⟩, h2, h3, h4, h5, h6⟩ := h
  have e : (B.take (k + 1)).filter (keep a b) = (B.take k).filter (keep a b) ++ [B.getD k (0, 0)] := by
    rw [take_snocW B k hk, List.filter_append]
    simp only [List.filter_cons, List.filter_nil]
    rw [keep_eq, hl]; rfl
  have hb := block_setCell (o := i * 2 + 1) (.int .i64 (fy B k)) (block_setCell (o := i * 2) (.int .i64 (fx B k)) hg)
  refine ⟨⟨_, hb, by simpa using hs, ?_, ?_⟩, by rw [e, List.length_append, h2]; rfl, by omega, by omega, h5, grownBy_trans h6 (grownBy_trans (grownBy_setCell _ _ _ _) (grownBy_setCell _ _ _ _))⟩
  · rw [e, wcells_append, ← ht]
    have hlen : i * 2 + 1 < cr.toList.length := by simp; omega
    have hone : wcells [B.getD k (0, 0)] = [.int .i64 (fx B k), .int .i64 (fy B k)] := rfl
    apply List.ext_getElem?
    intro j
    simp only [Array.toList_setIfInBounds, List.getElem?_take, List.getElem?_append, List.length_take, List.getElem?_set]
    have hl2 : min (i * 2) cr.toList.length = i * 2 := by omega
    rw [hl2]
    by_cases c1 : j < i * 2
    · rw [if_pos (by omega), if_neg (by omega), if_neg (by omega), if_pos c1, if_pos c1]
    · rw [if_neg c1]
      by_cases c2 : j = i * 2
      · subst c2
        rw [hone]
        simp
        omega
      · by_cases c3 : j = i * 2 + 1
        · subst c3
          rw [hone]
          simp
          omega
        · rw [if_neg (by omega)]
          symm
          rw [hone, List.getElem?_eq_none]
          simp; omega
  · intro o hko
    simp only [Array.getElem?_setIfInBounds]
    rw [if_neg (by omega), if_neg (by omega)]
    exact ho o (by omega)


theorem filter_all (B : List (Int × Int)) (a b : Int) (h : ∀ j, j < B.length → lew a b (fx B j) (fy B j) = false) : B.filter (keep a b) = B := by
  rw [List.filter_eq_self]
  intro p hp
  obtain ⟨j, hj, rfl⟩ := List.mem_iff_getElem.1 hp
  have := h j hj
  have e : B.getD j (0, 0) = B[j] := by rw [List.getD_eq_getElem?_getD, List.getElem?_eq_getElem hj]; rfl
  rw [← e, keep_eq, this]; rfl

theorem fx_take (B : List (Int × Int)) (j k : Nat) (h : j < k) : fx (B.take k) j = (fx B j) := by
  simp only [fx, List.getD_eq_getElem?_getD, List.getElem?_take, if_pos h]
theorem fy_take (B : List (Int × Int)) (j k : Nat) (h : j < k) : fy (B.take k) j = (fy B j) := by
  simp only [fy, List.getD_eq_getElem?_getD, List.getElem?_take, if_pos h]

theorem DS.begin {g cap : Nat} {cur : Array Value} {B : List (Int × Int)} {a b : Int} {w w1 : World} {i : Nat} (htake : cur.toList.take (B.length * 2) = wcells B) (hcs : cur.size = cap * 2) (hnc : B.length ≤ cap) (hi : i < B.length)
    (hyes : lew a b (fx B i) (fy B i) = true) (hno : ∀ j, j < i → lew a b (fx B j) (fy B j) = false) (hrow : w1.heap[g]? = some (.cells cur 76 (0, 0))) (hgr : w.grownBy w1 (some g)) : DS g cap cur B a b w w1 (i + 1) i := by
  have e1 : (B.take i).filter (keep a b) = B.take i := by
    refine filter_all _ a b fun j hj => ?_
    have hj' : j < i := by simp at hj; omega
    rw [fx_take B j i hj', fy_take B j i hj']
    exact hno j hj'
  have e : (B.take (i + 1)).filter (keep a b) = B.take i := by
    rw [take_snocW B i hi, List.filter_append, e1]
    simp only [List.filter_cons, List.filter_nil]
    rw [keep_eq, hyes]; simp
  have e2 : wcells B = wcells (B.take i) ++ wcells (B.drop i) := by rw [← wcells_append, List.take_append_drop]
  refine ⟨⟨cur, hrow, hcs, ?_, fun _ _ => rfl⟩, by rw [e]; simp; omega, by omega, by omega, hnc, hgr⟩
  rw [e]
  have h3 : cur.toList.take (i * 2) = (cur.toList.take (B.length * 2)).take (i * 2) := by rw [List.take_take]; congr 1; omega
  rw [h3, htake, e2, List.take_append_of_le_length (by rw [wcells_length]; simp; omega), List.take_of_length_le]
  rw [wcells_length]; simp; omega

theorem Try.info76 : (Try.prog.info? 76).map (fun i => (i.zero, i.size, i.bytes)) = some (some (.agg #[.int .i64 0, .int .i64 0]), 2, 16) := by kernel_rfl
theorem Try.zero76 : ∀ w, (zeroValue 76).run Try.prog w = .ok (.agg #[.int .i64 0, .int .i64 0]) w := fun _ => by kernel_rfl

theorem zero_one (n : Nat) : ∀ v ∈ (Builtin.zeroCells #[.int .i64 0, .int .i64 0] n).toList, v.oneCell' = true := by
  intro v hv
  simp only [Builtin.zeroCells, Array.toList_map, List.mem_map] at hv
  obtain ⟨i, _, rfl⟩ := hv
  have h2 : i % 2 = 0 ∨ i % 2 = 1 := by omega
  rcases h2 with h | h <;> simp [h, Value.oneCell']

/-- A row whose windows from i on, n of them, are set to zero. -/
def cleared (cur : Array Value) (i n : Nat) : Array Value := (cur.toList.take (i * 2) ++ (Builtin.zeroCells #[.int .i64 0, .int .i64 0] n).toList ++ cur.toList.drop (i * 2 + (Builtin.zeroCells #[.int .i64 0, .int .i64 0] n).toList.length)).toArray

theorem cleared_size (cur : Array Value) (i n : Nat) (h : i * 2 + n * 2 ≤ cur.size) : (cleared cur i n).size = cur.size := by
  simp only [cleared, List.size_toArray, List.length_append, List.length_take, List.length_drop, Array.length_toList, size_zeroCells]
  simp
  omega
theorem cleared_take (cur : Array Value) (i n : Nat) (h : i * 2 ≤ cur.size) : (cleared cur i n).toList.take (i * 2) = cur.toList.take (i * 2) := by
  simp only [cleared, List.append_assoc]
  rw [List.take_append_of_le_length (by simp; omega), List.take_of_length_le (by simp; omega)]

theorem grownBy_setRow (w : World) (g : Nat) (cs : Array Value) : w.grownBy (w.setRow g cs) (some g) :=
  ⟨rfl, rfl, rfl, by simp, fun k _ hn => setRow_other w g k cs (fun e => hn (by rw [e]))⟩

theorem run_clear_row (w : World) (ty : TypeId) (g o n c : Nat) (cur : Array Value) (hn : 0 < n) (hg : w.heap[g]? = some (.cells cur 76 (0, 0))) (hs : o + n * 2 ≤ cur.size) :
    (Builtin.clear_ #[82] ty #[.slice (some ⟨g, o, none⟩) n c]).run Try.prog w = .ok (.tuple #[]) (w.setRow g (cur.toList.take o ++ (Builtin.zeroCells #[.int .i64 0, .int .i64 0] n).toList ++ cur.toList.drop (o + (Builtin.zeroCells #[.int .i64 0, .int .i64 0] n).toList.length)).toArray) := by
  have hst := run_storeCells_at (P := Try.prog) g o 76 (Builtin.zeroCells #[.int .i64 0, .int .i64 0] n).toList 0 cur w hg (by simp [size_zeroCells]; omega) (zero_one n)
  simp only [Nat.add_zero] at hst
  obtain ⟨m, rfl⟩ : ∃ m, n = m + 1 := ⟨n - 1, by omega⟩
  generalize (cur.toList.take o ++ (Builtin.zeroCells #[.int .i64 0, .int .i64 0] (m + 1)).toList ++ cur.toList.drop (o + (Builtin.zeroCells #[.int .i64 0, .int .i64 0] (m + 1)).toList.length)).toArray = nr at *
  simp [Builtin.clear_, run_underlying Try.underlying82, Value.cells, hst]

set_option maxHeartbeats 400000 in
theorem delete_any (g cap c1 c2 : Nat) (cur : Array Value) (B : List (Int × Int)) (a b : Int) (w : World) (hn : B.length ≤ 1024) (hrow : w.heap[g]? = some (.cells cur 76 (0, 0))) (hcs : cur.size = cap * 2)
    (hnc : B.length ≤ cap) (htake : cur.toList.take (B.length * 2) = wcells B)
    (h1 : w.cell? ⟨c1, 0, none⟩ = some (.int .i64 a)) (h2 : w.cell? ⟨c2, 0, none⟩ = some (.int .i64 b)) (n1 : c1 ≠ g) (n2 : c2 ≠ g) :
    Calls Try.prog 39 #[.slice (some ⟨g, 0, none⟩) B.length cap, .func (.func 40) #[] #[.pointer (some ⟨c1, 0, none⟩), .pointer (some ⟨c2, 0, none⟩)]] w fun e w' =>
      e = .returned (.slice (some ⟨g, 0, none⟩) (B.filter (keep a b)).length cap) ∧ ∃ cur', w'.heap[g]? = some (.cells cur' 76 (0, 0)) ∧ cur'.size = cap * 2 ∧
        cur'.toList.take ((B.filter (keep a b)).length * 2) = wcells (B.filter (keep a b)) ∧ w.grownBy w' (some g) := by
  have hg := lt_of_block hrow
  have l1 := World.block_lt_of_cell? w _ h1
  have l2 := World.block_lt_of_cell? w _ h2
  have hf : ∀ j, j < B.length → w.cell? ⟨g, j * 2, none⟩ = some (.int .i64 (fx B j)) := fun j hj => by rw [cell_of_row w g _ cur 76 _ hrow]; exact (cells_of_take htake j hj).1
  have hh : ∀ j, j < B.length → w.cell? ⟨g, j * 2 + 1, none⟩ = some (.int .i64 (fy B j)) := fun j hj => by rw [cell_of_row w g _ cur 76 _ hrow]; exact (cells_of_take htake j hj).2
  go_enter Try.func39, Try.ntmps39
  go_wp2_with fail
  refine (index_any g B.length cap c1 c2 (fx B) (fy B) a b w hn hg h1 h2 hf hh).mono ?_
  rintro e w1 ⟨hb1, hcase⟩
  have hgr : Hid (w.grownBy w1 (some g)) := ⟨hb1.os, hb1.tape, hb1.output, hb1.size, fun k hk _ => hb1.block k hk⟩
  have hrow1 : Hid (w1.heap[g]? = some (.cells cur 76 (0, 0))) := (hb1.block g hg).trans hrow
  rcases hcase with ⟨rfl, hno⟩ | ⟨i0, hi0, rfl, hyes, hno⟩
  · have HE : Hid (B.filter (keep a b) = B) := filter_all B a b hno
    clear hno hf hh
    go_wp2
    go_ret
    exact ⟨by rw [HE.out]; rfl, cur, hrow1.out, hcs, by rw [HE.out]; exact htake, hgr.out⟩
  · have HD : Hid (DS g cap cur B a b w w1 (i0 + 1) i0) := DS.begin htake hcs hnc hi0 hyes hno hrow1.out hgr.out
    clear hno hyes hf hh
    have hm1 : ((i0 : Int) == -1) = false := beq_eq_false_iff_ne.2 (by omega)
    go_wp2
    go_loopw [5, 6] (fun vi vj wr => ∃ i k : Nat, vi = .int .i64 i ∧ vj = .int .i64 k ∧ DS g cap cur B a b w wr k i) (fun _ vj _ => B.length - (intOf vj).toNat)
    case atStart => exact ⟨i0, i0 + 1, rfl, rfl, HD.out⟩
    case round =>
      clear HD hgr hrow1
      obtain ⟨i, k, rfl, rfl, hds⟩ := hrel
      have hik := hds.lt
      have hkn := hds.le
      have hgr := hds.gr
      have hc1 : wr.cell? ⟨c1, 0, none⟩ = some (.int .i64 a) := hgr.cell h1 (by simpa using n1)
      have hc2 : wr.cell? ⟨c2, 0, none⟩ = some (.int .i64 b) := hgr.cell h2 (by simpa using n2)
      have lg : g < wr.heap.size := by have := hgr.size; omega
      have lr1 : c1 < wr.heap.size := by have := hgr.size; omega
      have lr2 : c2 < wr.heap.size := by have := hgr.size; omega
      by_cases hlt : k < B.length
      · obtain ⟨e1, e2⟩ := hds.elem htake hlt
        obtain ⟨⟨v1, s1⟩, z1⟩ := hds.spot (i * 2) (by omega)
        obtain ⟨⟨v2, s2⟩, z2⟩ := hds.spot (i * 2 + 1) (by omega)
        have h1a : (wr.alloc (.cells #[.int .i64 (fx B k), .int .i64 (fy B k)] 76)).cell? ⟨c1, 0, none⟩ = some (.int .i64 a) := by rw [World.cell?_alloc_past]; exact hc1; simpa using lr1
        have h2a : (wr.alloc (.cells #[.int .i64 (fx B k), .int .i64 (fy B k)] 76)).cell? ⟨c2, 0, none⟩ = some (.int .i64 b) := by rw [World.cell?_alloc_past]; exact hc2; simpa using lr2
        have HDS : Hid (DS g cap cur B a b w wr k i) := hds
        clear hds hgr hc1 hc2
        cases hl : lew a b (fx B k) (fy B k) with
        | true =>
          go_wp2_with (go_at_call 40; refine (above_any _ _ a b c1 c2 _ h1a h2a).mono ?_; rintro e w' ⟨rfl, rfl⟩)
          go_roundw
          case rel => exact ⟨i, k + 1, rfl, by go_num, ((HDS.out.drop hlt hl).alloc _).alloc _⟩
          case measure => simp [intOf]; omega
        | false =>
          go_wp2_with (go_at_call 40; refine (above_any _ _ a b c1 c2 _ h1a h2a).mono ?_; rintro e w' ⟨rfl, rfl⟩)
          go_roundw
          case rel => exact ⟨i + 1, k + 1, by go_num, by go_num, ((HDS.out.put hlt hl).alloc _).alloc _⟩
          case measure => simp [intOf]; omega
      · have hkB : k = B.length := by omega
        subst hkB
        obtain ⟨cr, hrg, hrs, hrt, -⟩ := hds.cr
        have hcnt := hds.cnt
        rw [List.take_length] at hrt hcnt
        have HFin : Hid ((B.filter (keep a b)).length = i) := hcnt
        have HT : Hid (cr.toList.take (i * 2) = wcells (B.filter (keep a b))) := hrt
        have HG : Hid (w.grownBy wr (some g)) := hgr
        have hcl : ∀ ty, (Builtin.clear_ #[82] ty #[.slice (some ⟨g, i * 2, none⟩) (B.length - i) (cap - i)]).run Try.prog wr = .ok (.tuple #[]) (wr.setRow g (cleared cr i (B.length - i))) :=
          fun ty => run_clear_row wr ty g (i * 2) (B.length - i) (cap - i) cr (by omega) hrg (by omega)
        have HR : Hid (wr.heap[g]? = some (.cells cr 76 (0, 0))) := hrg
        have hic : ¬ i = cap := by omega
        clear hrg hrt hcnt hgr hds hc1 hc2
        go_wp2
        go_ret
        refine ⟨by rw [HFin.out]; rfl, _, setRow_heap wr g cr _ 76 _ HR.out, ?_, ?_, grownBy_trans HG.out (grownBy_setRow wr g _)⟩
        · rw [cleared_size cr i (B.length - i) (by omega)]; exact hrs
        · rw [HFin.out, cleared_take cr i (B.length - i) (by omega)]; exact HT.out

end Go.Proofs.Qxb6614502a
