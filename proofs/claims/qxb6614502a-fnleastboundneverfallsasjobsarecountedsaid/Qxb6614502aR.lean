/-
  Quality.least, ZZleast.
-/
import Derived.Test.Qxb6614502aQ
namespace Go.Proofs.Qxb6614502a
open Go.RowKit

/-- Does counting c jobs at r in lower the rating? -/
def lower (v u : Nat → Nat) (c r : Nat) : Bool := decide (cmpR (W.add3 v (W.prod3 c r)) (W.add3 u (W.word3 c)) v u < 0)
def lstV (v u : Nat → Nat) (c r : Nat) : Nat → Nat := fun j => if lower v u c r = true then W.add3 v (W.prod3 c r) j else v j
def lstU (v u : Nat → Nat) (c r : Nat) : Nat → Nat := fun j => if lower v u c r = true then W.add3 u (W.word3 c) j else u j

theorem lst_true {v u : Nat → Nat} {c r : Nat} (h : lower v u c r = true) (j : Nat) : lstV v u c r j = W.add3 v (W.prod3 c r) j ∧ lstU v u c r j = W.add3 u (W.word3 c) j := by
  rw [lstV, lstU, if_pos h, if_pos h]; exact ⟨rfl, rfl⟩
theorem lst_false {v u : Nat → Nat} {c r : Nat} (h : lower v u c r = false) (j : Nat) : lstV v u c r j = v j ∧ lstU v u c r j = u j := by
  rw [lstV, lstU, if_neg (by rw [h]; decide), if_neg (by rw [h]; decide)]; exact ⟨rfl, rfl⟩
theorem lstV_words {v u : Nat → Nat} {c r : Nat} (hv : W.Words v 3) : W.Words (lstV v u c r) 3 := by
  intro j hj
  cases h : lower v u c r with
  | true => rw [(lst_true h j).1]; exact W.add3_words _ _ j hj
  | false => rw [(lst_false h j).1]; exact hv j hj
theorem lstU_words {v u : Nat → Nat} {c r : Nat} (hu : W.Words u 3) : W.Words (lstU v u c r) 3 := by
  intro j hj
  cases h : lower v u c r with
  | true => rw [(lst_true h j).2]; exact W.add3_words _ _ j hj
  | false => rw [(lst_false h j).2]; exact hu j hj

/-- What the walk of least finds behind its four new variables. -/
structure Lay28 (w W3 : World) (v u : Nat → Nat) : Prop where
  low : Rat W3 (w.heap.size + 1 + 1 + 1) v u
  r : Rat W3 (w.heap.size + 1) v u
  res : W3.heap[w.heap.size + 1 + 1]? = some (.cells Z6 31 (0, 0))
  size : w.heap.size + 1 + 1 + 1 < W3.heap.size
  below : Below w.heap.size w W3

theorem lay28 (w : World) (v u : Nat → Nat) : Lay28 w ((((w.alloc (.cells #[.func (.func 27) #[] #[]] 27)).alloc (.cells #[.int .u64 (v 0 : Nat), .int .u64 (v 1 : Nat), .int .u64 (v 2 : Nat), .int .u64 (u 0 : Nat), .int .u64 (u 1 : Nat), .int .u64 (u 2 : Nat)] 31)).alloc (.cells #[.int .u64 0, .int .u64 0, .int .u64 0, .int .u64 0, .int .u64 0, .int .u64 0] 31)).alloc (.cells #[.int .u64 (v 0 : Nat), .int .u64 (v 1 : Nat), .int .u64 (v 2 : Nat), .int .u64 (u 0 : Nat), .int .u64 (u 1 : Nat), .int .u64 (u 2 : Nat)] 31)) v u := by
  refine ⟨heap_alloc_at _ _ _ (by simp), ?_, ?_, by simp, (((Below.refl _ _).alloc (Nat.le_refl _) _).alloc (by simp) _ |>.alloc (by simp; omega) _).alloc (by simp; omega) _⟩
  · unfold Rat
    rw [Below.heap_alloc _ _ _ (by simp), Below.heap_alloc _ _ _ (by simp)]
    exact heap_alloc_at _ _ _ (by simp)
  · rw [Below.heap_alloc _ _ _ (by simp)]
    exact heap_alloc_at _ _ _ (by simp)

/-- A rating's six cells. -/
theorem rat6 {w : World} {b : Nat} {v u : Nat → Nat} (h : Rat w b v u) : w.cell? ⟨b, 0, none⟩ = some (.int .u64 (v 0 : Nat)) ∧ w.cell? ⟨b, 1, none⟩ = some (.int .u64 (v 1 : Nat)) ∧ w.cell? ⟨b, 2, none⟩ = some (.int .u64 (v 2 : Nat))
    ∧ w.cell? ⟨b, 3, none⟩ = some (.int .u64 (u 0 : Nat)) ∧ w.cell? ⟨b, 4, none⟩ = some (.int .u64 (u 1 : Nat)) ∧ w.cell? ⟨b, 5, none⟩ = some (.int .u64 (u 2 : Nat)) :=
  ⟨cell_of_row _ _ _ _ _ _ h, cell_of_row _ _ _ _ _ _ h, cell_of_row _ _ _ _ _ _ h, cell_of_row _ _ _ _ _ _ h, cell_of_row _ _ _ _ _ _ h, cell_of_row _ _ _ _ _ _ h⟩
/-- Six zero cells that may be written. -/
theorem zero6 {w : World} {b : Nat} {t : TypeId} (h : w.heap[b]? = some (.cells Z6 t (0, 0))) : w.cell? ⟨b, 0, none⟩ = some (.int .u64 0) ∧ w.cell? ⟨b, 1, none⟩ = some (.int .u64 0) ∧ w.cell? ⟨b, 2, none⟩ = some (.int .u64 0)
    ∧ w.cell? ⟨b, 3, none⟩ = some (.int .u64 0) ∧ w.cell? ⟨b, 4, none⟩ = some (.int .u64 0) ∧ w.cell? ⟨b, 5, none⟩ = some (.int .u64 0) ∧ ∀ o, w.frozen? ⟨b, o, none⟩ = false :=
  ⟨cell_of_row _ _ _ _ _ _ h, cell_of_row _ _ _ _ _ _ h, cell_of_row _ _ _ _ _ _ h, cell_of_row _ _ _ _ _ _ h, cell_of_row _ _ _ _ _ _ h, cell_of_row _ _ _ _ _ _ h, fun o => by simp [World.frozen?, h]⟩

theorem eqf_nil : ∀ w, (binOp BinOp.eql 25 Value.nilFunc Value.nilFunc).run Try.prog w = .ok (.bool true) w := fun _ => by kernel_rfl
theorem eqf_fun : ∀ w, (binOp BinOp.eql 25 (Value.func (Fn.func 27) #[] #[]) Value.nilFunc).run Try.prog w = .ok (.bool false) w := fun _ => by kernel_rfl

set_option maxHeartbeats 400000 in
theorem count27_any (c x : Int) (w : World) : Calls Try.prog 27 #[.int .i64 c, .int .i64 x] w fun e w' => e = .returned (.int .i64 c) ∧ w' = w := by
  go_enter Try.func27, Try.ntmps27
  go_wp2
  go_ret
  exact ⟨rfl, rfl⟩

set_option maxRecDepth 100000 in
set_option maxHeartbeats 1600000 in
theorem least28_mk (v u : Nat → Nat) (c x r : Int) (w : World) :
    Calls Try.prog 28 #[.agg #[.nilFunc], .agg #[.int .u64 (v 0 : Nat), .int .u64 (v 1 : Nat), .int .u64 (v 2 : Nat), .int .u64 (u 0 : Nat), .int .u64 (u 1 : Nat), .int .u64 (u 2 : Nat)], .int .i64 c, .int .i64 x, .int .i64 r] w fun e w' => e = .returned (.agg #[.int .u64 (v 0 : Nat), .int .u64 (v 1 : Nat), .int .u64 (v 2 : Nat), .int .u64 (u 0 : Nat), .int .u64 (u 1 : Nat), .int .u64 (u 2 : Nat)]) ∧ Below w.heap.size w w' := by
  have hq := eqf_nil
  go_enter Try.func28, Try.ntmps28
  go_wp2
  exact bodyPost_ret (v := .agg #[.int .u64 (v 0 : Nat), .int .u64 (v 1 : Nat), .int .u64 (v 2 : Nat), .int .u64 (u 0 : Nat), .int .u64 (u 1 : Nat), .int .u64 (u 2 : Nat)]) (by simp [results, Try.results28, go_sem]) rfl ⟨rfl, (((Below.refl _ _).alloc (Nat.le_refl _) _).alloc (by simp) _).alloc (by simp; omega) _⟩

set_option maxRecDepth 100000 in
set_option maxHeartbeats 1600000 in
theorem least28_any (v u : Nat → Nat) (c r : Nat) (x : Int) (hv : W.Words v 3) (hu : W.Words u 3) (hc : c < 9223372036854775808) (hr : r < 9223372036854775808) (w : World) :
    Calls Try.prog 28 #[.agg #[.func (.func 27) #[] #[]], .agg #[.int .u64 (v 0 : Nat), .int .u64 (v 1 : Nat), .int .u64 (v 2 : Nat), .int .u64 (u 0 : Nat), .int .u64 (u 1 : Nat), .int .u64 (u 2 : Nat)], .int .i64 (c : Nat), .int .i64 x, .int .i64 (r : Nat)] w fun e w' => e = .returned (.agg #[.int .u64 (lstV v u c r 0 : Nat), .int .u64 (lstV v u c r 1 : Nat), .int .u64 (lstV v u c r 2 : Nat), .int .u64 (lstU v u c r 0 : Nat), .int .u64 (lstU v u c r 1 : Nat), .int .u64 (lstU v u c r 2 : Nat)]) ∧ Below w.heap.size w w' := by
  have hq := eqf_fun
  have HL := show Hid _ from lay28 w v u
  go_enter Try.func28, Try.ntmps28
  go_wp2_with (go_at_call 27; refine (count27_any _ _ _).mono ?_; rintro e w' ⟨rfl, hw⟩; rw [hw])
  clear hq
  generalize ((((w.alloc (.cells #[.func (.func 27) #[] #[]] 27)).alloc (.cells #[.int .u64 (v 0 : Nat), .int .u64 (v 1 : Nat), .int .u64 (v 2 : Nat), .int .u64 (u 0 : Nat), .int .u64 (u 1 : Nat), .int .u64 (u 2 : Nat)] 31)).alloc (.cells #[.int .u64 0, .int .u64 0, .int .u64 0, .int .u64 0, .int .u64 0, .int .u64 0] 31)).alloc (.cells #[.int .u64 (v 0 : Nat), .int .u64 (v 1 : Nat), .int .u64 (v 2 : Nat), .int .u64 (u 0 : Nat), .int .u64 (u 1 : Nat), .int .u64 (u 2 : Nat)] 31)) = W3 at *
  refine (add36_any (w.heap.size + 1 + 1 + 1) v u c r hv hu hc hr W3 HL.out.low).mono ?_
  rintro e w4 ⟨rfl, ha4⟩
  have hsz := HL.out.size
  have hsz4 := ha4.size
  have HR4 : Hid (Rat w4 (w.heap.size + 1) v u) := (ha4.block _ (by omega) (by omega)).trans HL.out.r
  have HL4 : Hid (Rat w4 (w.heap.size + 1 + 1 + 1) (W.add3 v (W.prod3 c r)) (W.add3 u (W.word3 c))) := ha4.rat
  have HZ4 : Hid (w4.heap[w.heap.size + 1 + 1]? = some (.cells Z6 31 (0, 0))) := (ha4.block _ (by omega) (by omega)).trans HL.out.res
  have HB4 : Hid (Below w.heap.size w w4) := ⟨ha4.os.trans HL.out.below.os, ha4.tape.trans HL.out.below.tape, ha4.output.trans HL.out.below.output, Nat.le_trans HL.out.below.size ha4.size, fun k hk => (ha4.block k (by omega) (by omega)).trans (HL.out.below.block k hk)⟩
  clear ha4
  have hV := W.add3_words v (W.prod3 c r)
  have hU := W.add3_words u (W.word3 c)
  have HE : Hid (lower v u c r = decide (cmpR (W.add3 v (W.prod3 c r)) (W.add3 u (W.word3 c)) v u < 0)) := rfl
  have HTT : Hid (lower v u c r = true → ∀ j, lstV v u c r j = W.add3 v (W.prod3 c r) j ∧ lstU v u c r j = W.add3 u (W.word3 c) j) := lst_true
  have HFF : Hid (lower v u c r = false → ∀ j, lstV v u c r j = v j ∧ lstU v u c r j = u j) := lst_false
  generalize W.add3 v (W.prod3 c r) = V at *
  generalize W.add3 u (W.word3 c) = U at *
  obtain ⟨l0, l1, l2, l3, l4, l5⟩ := rat6 HL4.out
  obtain ⟨r0, r1, r2, r3, r4, r5⟩ := rat6 HR4.out
  go_wp2_with fail
  refine (compare37_any V U v u hV hU hv hu w4).mono ?_
  rintro e w5 ⟨rfl, hb5⟩
  clear l0 l1 l2 l3 l4 l5 r0 r1 r2 r3 r4 r5
  obtain ⟨l0, l1, l2, l3, l4, l5⟩ := rat6 (rat_below HL4.out hb5 (by omega))
  obtain ⟨r0, r1, r2, r3, r4, r5⟩ := rat6 (rat_below HR4.out hb5 (by omega))
  obtain ⟨z0, z1, z2, z3, z4, z5, zf⟩ := zero6 ((hb5.block _ (by omega)).trans HZ4.out)
  have HB5 : Hid (Below w.heap.size w w5) := HB4.out.trans (hb5.mono (by omega))
  clear hb5
  generalize hk : cmpR V U v u = k at *
  clear hk
  by_cases hneg : k < 0
  · have hlow := HTT.out (HE.out.trans (decide_eq_true hneg))
    have HLO := show Hid _ from hlow
    clear hlow
    go_wp2
    exact bodyPost_ret (v := .agg #[.int .u64 (V 0 : Nat), .int .u64 (V 1 : Nat), .int .u64 (V 2 : Nat), .int .u64 (U 0 : Nat), .int .u64 (U 1 : Nat), .int .u64 (U 2 : Nat)]) (by simp [results, Try.results28, go_sem, z0, z1, z2, z3, z4, z5]) rfl ⟨by rw [(HLO.out 0).1, (HLO.out 1).1, (HLO.out 2).1, (HLO.out 0).2, (HLO.out 1).2, (HLO.out 2).2], ((((((HB5.out.setCell (by simp; omega) _).setCell (by simp; omega) _).setCell (by simp; omega) _).setCell (by simp; omega) _).setCell (by simp; omega) _).setCell (by simp; omega) _)⟩
  · have hlow := HFF.out (HE.out.trans (decide_eq_false hneg))
    have HLO := show Hid _ from hlow
    clear hlow
    go_wp2
    exact bodyPost_ret (v := .agg #[.int .u64 (v 0 : Nat), .int .u64 (v 1 : Nat), .int .u64 (v 2 : Nat), .int .u64 (u 0 : Nat), .int .u64 (u 1 : Nat), .int .u64 (u 2 : Nat)]) (by simp [results, Try.results28, go_sem, z0, z1, z2, z3, z4, z5]) rfl ⟨by rw [(HLO.out 0).1, (HLO.out 1).1, (HLO.out 2).1, (HLO.out 0).2, (HLO.out 1).2, (HLO.out 2).2], ((((((HB5.out.setCell (by simp; omega) _).setCell (by simp; omega) _).setCell (by simp; omega) _).setCell (by simp; omega) _).setCell (by simp; omega) _).setCell (by simp; omega) _)⟩

end Go.Proofs.Qxb6614502a
