/-
  Uint192.Add, Rating.add.
-/
import Derived.Test.Qxb6614502aP
import Derived.BigRegion
namespace Go.Proofs.Qxb6614502a
open Go.RowKit

/-- The world in which the three words at ⟨b, o⟩ have been set. -/
def set3 (w : World) (b o : Nat) (n : Nat → Nat) : World := ((w.setCell ⟨b, o, none⟩ (.int .u64 (n 0 : Nat))).setCell ⟨b, o + 1, none⟩ (.int .u64 (n 1 : Nat))).setCell ⟨b, o + 2, none⟩ (.int .u64 (n 2 : Nat))

theorem top_wrap (x y c : Nat) : IntKind.u64.wrap ((x : Int) + IntKind.u64.wrap ((y : Int) + (c : Int))) = (((x + (y + c)) % 18446744073709551616 : Nat) : Int) := by
  rw [IntKind.wrap_u64, IntKind.wrap_u64]; omega

set_option maxRecDepth 100000 in
set_option maxHeartbeats 1600000 in
theorem add41_any (b o : Nat) (n m : Nat → Nat) (hn : W.Words n 3) (hm : W.Words m 3) (w : World)
    (c0 : w.cell? ⟨b, o, none⟩ = some (.int .u64 (n 0 : Nat))) (c1 : w.cell? ⟨b, o + 1, none⟩ = some (.int .u64 (n 1 : Nat))) (c2 : w.cell? ⟨b, o + 2, none⟩ = some (.int .u64 (n 2 : Nat)))
    (f0 : w.frozen? ⟨b, o, none⟩ = false) (f1 : w.frozen? ⟨b, o + 1, none⟩ = false) (f2 : w.frozen? ⟨b, o + 2, none⟩ = false) :
    Calls Try.prog 41 #[.pointer (some ⟨b, o, none⟩), .agg #[.int .u64 (m 0 : Nat), .int .u64 (m 1 : Nat), .int .u64 (m 2 : Nat)]] w fun e w' => e = .returned (.tuple #[]) ∧
      w' = ((set3 w b o (W.add3 n m)).alloc (.cells #[.int .u64 (m 0 : Nat), .int .u64 (m 1 : Nat), .int .u64 (m 2 : Nat)] 29)).drew.drew.drew := by
  have hlt := World.block_lt_of_cell? w _ c0
  have h46 := bitsAdd64_0 (n 0) (m 0)
  have hc1 := W.cr_le (n 0) (m 0) 0 (hn 0 (by omega)) (hm 0 (by omega)) (by omega)
  have h47 := bitsAdd64 (n 1) (m 1) (W.cr (n 0) (m 0) 0) hc1
  clear hc1
  have HT := show Hid _ from top_wrap (n 2) (m 2) (W.cr (n 1) (m 1) (W.cr (n 0) (m 0) 0))
  go_enter Try.func41, Try.ntmps41
  go_wp2
  go_region
  go_wp2
  clear h46
  go_region
  go_wp2
  clear h47
  go_region
  go_end0
  refine ⟨rfl, ?_⟩
  rw [HT.out]
  rfl

/-- A rating lies in block b. -/
def Rat (w : World) (b : Nat) (v u : Nat → Nat) : Prop := w.heap[b]? = some (.cells #[.int .u64 (v 0 : Nat), .int .u64 (v 1 : Nat), .int .u64 (v 2 : Nat), .int .u64 (u 0 : Nat), .int .u64 (u 1 : Nat), .int .u64 (u 2 : Nat)] 31 (0, 0))

theorem blk_set {w : World} {g o : Nat} {cs : Array Value} {t : TypeId} (x : Value) (h : w.heap[g]? = some (.cells cs t (0, 0))) : (w.setCell ⟨g, o, none⟩ x).heap[g]? = some (.cells (cs.setIfInBounds o x) t (0, 0)) := by
  have hlt : g < w.heap.size := (Array.getElem?_eq_some_iff.1 h).1
  have h' : w.heap[g] = .cells cs t (0, 0) := by simpa [Array.getElem?_eq_getElem hlt] using h
  show (w.heap.modify g _)[g]? = _
  rw [Array.getElem?_eq_getElem (by simpa using hlt), Array.getElem_modify_self, h']
  rfl
theorem rat_set0 {w : World} {b : Nat} {v u : Nat → Nat} (n : Nat → Nat) (h : Rat w b v u) : Rat (set3 w b 0 n) b n u := blk_set _ (blk_set _ (blk_set _ h))
theorem rat_set3 {w : World} {b : Nat} {v u : Nat → Nat} (n : Nat → Nat) (h : Rat w b v u) : Rat (set3 w b 3 n) b v n := blk_set _ (blk_set _ (blk_set _ h))
theorem rat_below {w w' : World} {b B : Nat} {v u : Nat → Nat} (h : Rat w b v u) (hb : Below B w w') (hB : b < B) : Rat w' b v u := (hb.block b hB).trans h
theorem rat_lt {w : World} {b : Nat} {v u : Nat → Nat} (h : Rat w b v u) : b < w.heap.size := (Array.getElem?_eq_some_iff.1 h).1
theorem set3_size (w : World) (b o : Nat) (n : Nat → Nat) : (set3 w b o n).heap.size = w.heap.size := by simp [set3, World.setCell]

/-- What Rating.add leaves: the rating in block b has changed; every other old block is as it was. -/
structure Added (w w' : World) (b : Nat) (v u : Nat → Nat) : Prop where
  rat : Rat w' b v u
  os : w'.os = w.os
  tape : w'.tape = w.tape
  output : w'.output = w.output
  size : w.heap.size ≤ w'.heap.size
  block : ∀ k, k < w.heap.size → k ≠ b → w'.heap[k]? = w.heap[k]?

theorem added_set {w : World} {b : Nat} {v u n : Nat → Nat} (o : Nat) (h : Rat (set3 w b o n) b v u) (O : Obj) : Added w ((set3 w b o n).alloc O).drew.drew.drew b v u := by
  have hlt := rat_lt h
  have hsz := set3_size w b o n
  refine ⟨?_, rfl, rfl, rfl, ?_, fun k hk hkb => ?_⟩
  · show ((set3 w b o n).alloc O).heap[b]? = _
    rw [Below.heap_alloc _ _ _ hlt]; exact h
  · show w.heap.size ≤ ((set3 w b o n).alloc O).heap.size
    rw [allocSize]; omega
  · show ((set3 w b o n).alloc O).heap[k]? = _
    rw [Below.heap_alloc _ _ _ (by omega)]
    unfold set3
    rw [Below.heap_setCell _ _ _ _ hkb, Below.heap_setCell _ _ _ _ hkb, Below.heap_setCell _ _ _ _ hkb]

theorem added_trans {w w1 w2 : World} {b : Nat} {v u v' u' : Nat → Nat} (h1 : Added w w1 b v u) (h2 : Added w1 w2 b v' u') : Added w w2 b v' u' :=
  ⟨h2.rat, h2.os.trans h1.os, h2.tape.trans h1.tape, h2.output.trans h1.output, Nat.le_trans h1.size h2.size, fun k hk hkb => (h2.block k (Nat.lt_of_lt_of_le hk h1.size) hkb).trans (h1.block k hk hkb)⟩
theorem added_before {w w1 w2 : World} {b : Nat} {v u : Nat → Nat} (h1 : Below w.heap.size w w1) (h2 : Added w1 w2 b v u) : Added w w2 b v u :=
  ⟨h2.rat, h2.os.trans h1.os, h2.tape.trans h1.tape, h2.output.trans h1.output, Nat.le_trans h1.size h2.size, fun k hk hkb => (h2.block k (Nat.lt_of_lt_of_le hk h1.size) hkb).trans (h1.block k hk)⟩

theorem rat_cells {w : World} {b : Nat} {v u : Nat → Nat} (h : Rat w b v u) : w.cell? ⟨b, 0, none⟩ = some (.int .u64 (v 0 : Nat)) ∧ w.cell? ⟨b, 0 + 1, none⟩ = some (.int .u64 (v 1 : Nat)) ∧ w.cell? ⟨b, 0 + 2, none⟩ = some (.int .u64 (v 2 : Nat))
    ∧ w.cell? ⟨b, 3, none⟩ = some (.int .u64 (u 0 : Nat)) ∧ w.cell? ⟨b, 3 + 1, none⟩ = some (.int .u64 (u 1 : Nat)) ∧ w.cell? ⟨b, 3 + 2, none⟩ = some (.int .u64 (u 2 : Nat)) ∧ ∀ o, w.frozen? ⟨b, o, none⟩ = false :=
  ⟨cell_of_row _ _ _ _ _ _ h, cell_of_row _ _ _ _ _ _ h, cell_of_row _ _ _ _ _ _ h, cell_of_row _ _ _ _ _ _ h, cell_of_row _ _ _ _ _ _ h, cell_of_row _ _ _ _ _ _ h, fun o => by unfold Rat at h; simp [World.frozen?, h]⟩

theorem add41_lo (b : Nat) (v u m : Nat → Nat) (hv : W.Words v 3) (hm : W.Words m 3) (w : World) (h : Rat w b v u) :
    Calls Try.prog 41 #[.pointer (some ⟨b, 0, none⟩), .agg #[.int .u64 (m 0 : Nat), .int .u64 (m 1 : Nat), .int .u64 (m 2 : Nat)]] w fun e w' => e = .returned (.tuple #[]) ∧ Added w w' b (W.add3 v m) u := by
  obtain ⟨c0, c1, c2, _, _, _, hf⟩ := rat_cells h
  refine (add41_any b 0 v m hv hm w c0 c1 c2 (hf _) (hf _) (hf _)).mono ?_
  rintro e w' ⟨rfl, rfl⟩
  exact ⟨rfl, added_set 0 (rat_set0 _ h) _⟩
theorem add41_hi (b : Nat) (v u m : Nat → Nat) (hu : W.Words u 3) (hm : W.Words m 3) (w : World) (h : Rat w b v u) :
    Calls Try.prog 41 #[.pointer (some ⟨b, 3, none⟩), .agg #[.int .u64 (m 0 : Nat), .int .u64 (m 1 : Nat), .int .u64 (m 2 : Nat)]] w fun e w' => e = .returned (.tuple #[]) ∧ Added w w' b v (W.add3 u m) := by
  obtain ⟨_, _, _, c0, c1, c2, hf⟩ := rat_cells h
  refine (add41_any b 3 u m hu hm w c0 c1 c2 (hf _) (hf _) (hf _)).mono ?_
  rintro e w' ⟨rfl, rfl⟩
  exact ⟨rfl, added_set 3 (rat_set3 _ h) _⟩

theorem add41_prod (b : Nat) (v u : Nat → Nat) (c r : Nat) (hv : W.Words v 3) (hc : c < 18446744073709551616) (hr : r < 18446744073709551616) (w : World) (h : Rat w b v u) :
    Calls Try.prog 41 #[.pointer (some ⟨b, 0, none⟩), .agg #[.int .u64 (W.lo c r : Nat), .int .u64 (W.hi c r : Nat), .int .u64 0]] w fun e w' => e = .returned (.tuple #[]) ∧ Added w w' b (W.add3 v (W.prod3 c r)) u :=
  add41_lo b v u (W.prod3 c r) hv (W.prod3_words c r hc hr) w h
theorem add41_word (b : Nat) (v u : Nat → Nat) (c : Nat) (hu : W.Words u 3) (hc : c < 18446744073709551616) (w : World) (h : Rat w b v u) :
    Calls Try.prog 41 #[.pointer (some ⟨b, 3, none⟩), .agg #[.int .u64 (c : Nat), .int .u64 0, .int .u64 0]] w fun e w' => e = .returned (.tuple #[]) ∧ Added w w' b v (W.add3 u (W.word3 c)) :=
  add41_hi b v u (W.word3 c) hu (W.word3_words c hc) w h

set_option maxRecDepth 100000 in
set_option maxHeartbeats 1600000 in
theorem add36_any (b : Nat) (v u : Nat → Nat) (c r : Nat) (hv : W.Words v 3) (hu : W.Words u 3) (hc : c < 9223372036854775808) (hr : r < 9223372036854775808) (w : World) (h : Rat w b v u) :
    Calls Try.prog 36 #[.pointer (some ⟨b, 0, none⟩), .int .i64 (c : Nat), .int .i64 (r : Nat)] w fun e w' => e = .returned (.tuple #[]) ∧ Added w w' b (W.add3 v (W.prod3 c r)) (W.add3 u (W.word3 c)) := by
  have HR : Hid (Rat w b v u) := h
  have hlt := rat_lt h
  clear h
  have wc := wrapN c (by omega)
  have wr := wrapN r (by omega)
  go_enter Try.func36, Try.ntmps36
  go_wp2
  go_region_held3 (fun _ => True) (trivial)
    (first
      | (go_at_call 42; refine (product42_any c r (by omega) (by omega) _).mono ?_; rintro e w3 ⟨rfl, hb3⟩; have HB3 := show Hid _ from hb3; clear hb3)
      | (go_at_call 41; refine (add41_prod b v u c r hv (by omega) (by omega) _ (rat_below (show Rat w.drew b v u from HR.out) HB3.out hlt)).mono ?_; rintro e w4 ⟨rfl, ha4⟩; have HA4 := show Hid _ from ha4; clear ha4))
  go_wp2_with (go_at_call 41; refine (add41_word b _ u c hu (by omega) _ HA4.out.rat).mono ?_; rintro e w5 ⟨rfl, ha5⟩)
  go_end0
  exact ⟨rfl, added_before (show Below w.heap.size w w3 from (Below.refl _ _).drew.trans HB3.out) (added_trans HA4.out ha5)⟩

end Go.Proofs.Qxb6614502a
