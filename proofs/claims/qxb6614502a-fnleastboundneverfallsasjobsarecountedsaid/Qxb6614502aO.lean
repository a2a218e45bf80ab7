/-
  exact.CompareProducts.
-/
import Derived.Test.Qxb6614502aN
import Derived.Deep.RegionLaw
import Derived.Deep.DeepCutAuto
namespace Go.Proofs.Qxb6614502a
open Go.RowKit

/-- Four numbers of three words, boxed one behind the other from block q on. -/
def S12 (q : Nat) (a b c d : Nat → Nat) (w' : World) : Prop := w'.cell? ⟨q, 0, none⟩ = some (.int .u64 (a 0 : Nat)) ∧ w'.cell? ⟨q, 1, none⟩ = some (.int .u64 (a 1 : Nat)) ∧ w'.cell? ⟨q, 2, none⟩ = some (.int .u64 (a 2 : Nat)) ∧ w'.cell? ⟨q + 1, 0, none⟩ = some (.int .u64 (b 0 : Nat)) ∧ w'.cell? ⟨q + 1, 1, none⟩ = some (.int .u64 (b 1 : Nat)) ∧ w'.cell? ⟨q + 1, 2, none⟩ = some (.int .u64 (b 2 : Nat)) ∧ w'.cell? ⟨q + 1 + 1, 0, none⟩ = some (.int .u64 (c 0 : Nat)) ∧ w'.cell? ⟨q + 1 + 1, 1, none⟩ = some (.int .u64 (c 1 : Nat)) ∧ w'.cell? ⟨q + 1 + 1, 2, none⟩ = some (.int .u64 (c 2 : Nat)) ∧ w'.cell? ⟨q + 1 + 1 + 1, 0, none⟩ = some (.int .u64 (d 0 : Nat)) ∧ w'.cell? ⟨q + 1 + 1 + 1, 1, none⟩ = some (.int .u64 (d 1 : Nat)) ∧ w'.cell? ⟨q + 1 + 1 + 1, 2, none⟩ = some (.int .u64 (d 2 : Nat))

theorem s12_below {B q : Nat} {a b c d : Nat → Nat} {v v' : World} (hb : Below B v v') (h : S12 q a b c d v) (hq : q + 4 ≤ B) : S12 q a b c d v' := by
  unfold S12 at h ⊢
  rw [hb.cell (by simp; omega), hb.cell (by simp; omega), hb.cell (by simp; omega), hb.cell (by simp; omega), hb.cell (by simp; omega), hb.cell (by simp; omega), hb.cell (by simp; omega), hb.cell (by simp; omega), hb.cell (by simp; omega), hb.cell (by simp; omega), hb.cell (by simp; omega), hb.cell (by simp; omega)]
  exact h

theorem s12_alloc {q : Nat} {a b c d : Nat → Nat} {v : World} (o : Obj) (h : S12 q a b c d v) (hq : q + 4 ≤ v.heap.size) : S12 q a b c d (v.alloc o) :=
  s12_below ((Below.refl v.heap.size v).alloc (Nat.le_refl _) o) h hq
theorem s12_drew {q : Nat} {a b c d : Nat → Nat} {v : World} (h : S12 q a b c d v) : S12 q a b c d v.drew := h
theorem s12_setCell {q : Nat} {a b c d : Nat → Nat} {v : World} (p : Addr) (u : Value) (h : S12 q a b c d v) (hq : q + 4 ≤ p.block) : S12 q a b c d (v.setCell p u) :=
  s12_below ((Below.refl p.block v).setCell (Nat.le_refl _) u) h hq

theorem s12_start (w : World) (T : TypeId) (a b c d : Nat → Nat) : S12 w.heap.size a b c d ((((w.alloc (.cells #[.int .u64 (a 0 : Nat), .int .u64 (a 1 : Nat), .int .u64 (a 2 : Nat)] T)).alloc (.cells #[.int .u64 (b 0 : Nat), .int .u64 (b 1 : Nat), .int .u64 (b 2 : Nat)] T)).alloc (.cells #[.int .u64 (c 0 : Nat), .int .u64 (c 1 : Nat), .int .u64 (c 2 : Nat)] T)).alloc (.cells #[.int .u64 (d 0 : Nat), .int .u64 (d 1 : Nat), .int .u64 (d 2 : Nat)] T)) := by
  have e3 : ((((w.alloc (.cells #[.int .u64 (a 0 : Nat), .int .u64 (a 1 : Nat), .int .u64 (a 2 : Nat)] T)).alloc (.cells #[.int .u64 (b 0 : Nat), .int .u64 (b 1 : Nat), .int .u64 (b 2 : Nat)] T)).alloc (.cells #[.int .u64 (c 0 : Nat), .int .u64 (c 1 : Nat), .int .u64 (c 2 : Nat)] T)).alloc (.cells #[.int .u64 (d 0 : Nat), .int .u64 (d 1 : Nat), .int .u64 (d 2 : Nat)] T)).heap[w.heap.size + 1 + 1 + 1]? = some (.cells #[.int .u64 (d 0 : Nat), .int .u64 (d 1 : Nat), .int .u64 (d 2 : Nat)] T (0, 0)) := heap_alloc_at _ _ _ (by simp)
  have e2 : ((((w.alloc (.cells #[.int .u64 (a 0 : Nat), .int .u64 (a 1 : Nat), .int .u64 (a 2 : Nat)] T)).alloc (.cells #[.int .u64 (b 0 : Nat), .int .u64 (b 1 : Nat), .int .u64 (b 2 : Nat)] T)).alloc (.cells #[.int .u64 (c 0 : Nat), .int .u64 (c 1 : Nat), .int .u64 (c 2 : Nat)] T)).alloc (.cells #[.int .u64 (d 0 : Nat), .int .u64 (d 1 : Nat), .int .u64 (d 2 : Nat)] T)).heap[w.heap.size + 1 + 1]? = some (.cells #[.int .u64 (c 0 : Nat), .int .u64 (c 1 : Nat), .int .u64 (c 2 : Nat)] T (0, 0)) := by rw [Below.heap_alloc _ _ _ (by simp)]; exact heap_alloc_at _ _ _ (by simp)
  have e1 : ((((w.alloc (.cells #[.int .u64 (a 0 : Nat), .int .u64 (a 1 : Nat), .int .u64 (a 2 : Nat)] T)).alloc (.cells #[.int .u64 (b 0 : Nat), .int .u64 (b 1 : Nat), .int .u64 (b 2 : Nat)] T)).alloc (.cells #[.int .u64 (c 0 : Nat), .int .u64 (c 1 : Nat), .int .u64 (c 2 : Nat)] T)).alloc (.cells #[.int .u64 (d 0 : Nat), .int .u64 (d 1 : Nat), .int .u64 (d 2 : Nat)] T)).heap[w.heap.size + 1]? = some (.cells #[.int .u64 (b 0 : Nat), .int .u64 (b 1 : Nat), .int .u64 (b 2 : Nat)] T (0, 0)) := by rw [Below.heap_alloc _ _ _ (by simp), Below.heap_alloc _ _ _ (by simp)]; exact heap_alloc_at _ _ _ (by simp)
  have e0 : ((((w.alloc (.cells #[.int .u64 (a 0 : Nat), .int .u64 (a 1 : Nat), .int .u64 (a 2 : Nat)] T)).alloc (.cells #[.int .u64 (b 0 : Nat), .int .u64 (b 1 : Nat), .int .u64 (b 2 : Nat)] T)).alloc (.cells #[.int .u64 (c 0 : Nat), .int .u64 (c 1 : Nat), .int .u64 (c 2 : Nat)] T)).alloc (.cells #[.int .u64 (d 0 : Nat), .int .u64 (d 1 : Nat), .int .u64 (d 2 : Nat)] T)).heap[w.heap.size]? = some (.cells #[.int .u64 (a 0 : Nat), .int .u64 (a 1 : Nat), .int .u64 (a 2 : Nat)] T (0, 0)) := by rw [Below.heap_alloc _ _ _ (by simp; omega), Below.heap_alloc _ _ _ (by simp; omega), Below.heap_alloc _ _ _ (by simp)]; exact heap_alloc_at _ _ _ rfl
  exact ⟨cell_of_row _ _ _ _ _ _ e0, cell_of_row _ _ _ _ _ _ e0, cell_of_row _ _ _ _ _ _ e0, cell_of_row _ _ _ _ _ _ e1, cell_of_row _ _ _ _ _ _ e1, cell_of_row _ _ _ _ _ _ e1, cell_of_row _ _ _ _ _ _ e2, cell_of_row _ _ _ _ _ _ e2, cell_of_row _ _ _ _ _ _ e2, cell_of_row _ _ _ _ _ _ e3, cell_of_row _ _ _ _ _ _ e3, cell_of_row _ _ _ _ _ _ e3⟩

theorem drewSize (w : World) : w.drew.heap.size = w.heap.size := rfl
theorem allocSize (w : World) (o : Obj) : (w.alloc o).heap.size = w.heap.size + 1 := by simp
theorem setSize (w : World) (p : Addr) (u : Value) : (w.setCell p u).heap.size = w.heap.size := by simp [World.setCell]
theorem bl_alloc {N : Nat} {w v : World} (o : Obj) (h : Below N w v) (hN : N ≤ v.heap.size) : Below N w (v.alloc o) := h.alloc hN o
theorem bl_setCell {N : Nat} {w v : World} (p : Addr) (u : Value) (h : Below N w v) (hN : N ≤ p.block) : Below N w (v.setCell p u) := h.setCell hN u
theorem bl_drew {N : Nat} {w v : World} (h : Below N w v) : Below N w v.drew := h.drew
theorem bl_call {B N : Nat} {w v v' : World} (hb : Below B v v') (h : Below N w v) (hN : N ≤ B) : Below N w v' := h.trans (hb.mono hN)

/-- Six words lie at block g. -/
def At6 (w : World) (g : Nat) (P : Nat → Nat) : Prop := ∀ j, j < 6 → w.cell? ⟨g, j, none⟩ = some (.int .u64 (P j : Nat))

theorem at6_mk {w : World} {g : Nat} {P : Nat → Nat} (h0 : w.cell? ⟨g, 0, none⟩ = some (.int .u64 (P 0 : Nat))) (h1 : w.cell? ⟨g, 1, none⟩ = some (.int .u64 (P 1 : Nat))) (h2 : w.cell? ⟨g, 2, none⟩ = some (.int .u64 (P 2 : Nat)))
    (h3 : w.cell? ⟨g, 3, none⟩ = some (.int .u64 (P 3 : Nat))) (h4 : w.cell? ⟨g, 4, none⟩ = some (.int .u64 (P 4 : Nat))) (h5 : w.cell? ⟨g, 5, none⟩ = some (.int .u64 (P 5 : Nat))) : At6 w g P := by
  intro j hj
  match j, hj with
  | 0, _ => exact h0
  | 1, _ => exact h1
  | 2, _ => exact h2
  | 3, _ => exact h3
  | 4, _ => exact h4
  | 5, _ => exact h5

theorem at6_other {v : World} {g : Nat} {P : Nat → Nat} (p : Addr) (u : Value) (h : At6 v g P) (hp : p.block ≠ g) : At6 (v.setCell p u) g P := by
  intro j hj
  rw [World.cell?_of_block (w := v) (Below.heap_setCell v p u g (Ne.symm hp))]
  exact h j hj
theorem at6_alloc {v : World} {g : Nat} {P : Nat → Nat} (o : Obj) (h : At6 v g P) (hg : g < v.heap.size) : At6 (v.alloc o) g P := by
  intro j hj
  rw [World.cell?_of_block (w := v) (Below.heap_alloc v o g hg)]
  exact h j hj
theorem at6_new {v : World} {g : Nat} {P : Nat → Nat} (T : TypeId) (hg : v.heap.size = g) : At6 (v.alloc (.cells #[.int .u64 (P 0 : Nat), .int .u64 (P 1 : Nat), .int .u64 (P 2 : Nat), .int .u64 (P 3 : Nat), .int .u64 (P 4 : Nat), .int .u64 (P 5 : Nat)] T)) g P := by
  have e := heap_alloc_at v (.cells #[.int .u64 (P 0 : Nat), .int .u64 (P 1 : Nat), .int .u64 (P 2 : Nat), .int .u64 (P 3 : Nat), .int .u64 (P 4 : Nat), .int .u64 (P 5 : Nat)] T) g hg
  exact at6_mk (cell_of_row _ _ _ _ _ _ e) (cell_of_row _ _ _ _ _ _ e) (cell_of_row _ _ _ _ _ _ e) (cell_of_row _ _ _ _ _ _ e) (cell_of_row _ _ _ _ _ _ e) (cell_of_row _ _ _ _ _ _ e)
theorem some_set {v : World} {p : Addr} (q : Addr) (u : Value) (h : (v.cell? p).isSome = true) : ((v.setCell q u).cell? p).isSome = true := by
  obtain ⟨x, hx⟩ := Option.isSome_iff_exists.1 h
  by_cases e : q = p
  · subst e; rw [World.cell?_setCell_same _ _ _ hx]; rfl
  · rw [World.cell?_setCell_other (h := e), hx]; rfl
theorem cell_set {v : World} {p : Addr} (u : Value) (h : (v.cell? p).isSome = true) : (v.setCell p u).cell? p = some u := by
  obtain ⟨x, hx⟩ := Option.isSome_iff_exists.1 h
  exact World.cell?_setCell_same _ _ _ hx
theorem cell_off {v : World} {g i j : Nat} (u : Value) (h : i ≠ j) : (v.setCell ⟨g, i, none⟩ u).cell? ⟨g, j, none⟩ = v.cell? ⟨g, j, none⟩ :=
  World.cell?_setCell_other v _ _ u (by intro e; injection e with _ e2; exact h e2)
theorem at6_six {v : World} {g : Nat} {P : Nat → Nat} (h0 : (v.cell? ⟨g, 0, none⟩).isSome = true) (h1 : (v.cell? ⟨g, 1, none⟩).isSome = true) (h2 : (v.cell? ⟨g, 2, none⟩).isSome = true) (h3 : (v.cell? ⟨g, 3, none⟩).isSome = true) (h4 : (v.cell? ⟨g, 4, none⟩).isSome = true) (h5 : (v.cell? ⟨g, 5, none⟩).isSome = true) :
    At6 ((((((v.setCell ⟨g, 0, none⟩ (.int .u64 (P 0 : Nat))).setCell ⟨g, 1, none⟩ (.int .u64 (P 1 : Nat))).setCell ⟨g, 2, none⟩ (.int .u64 (P 2 : Nat))).setCell ⟨g, 3, none⟩ (.int .u64 (P 3 : Nat))).setCell ⟨g, 4, none⟩ (.int .u64 (P 4 : Nat))).setCell ⟨g, 5, none⟩ (.int .u64 (P 5 : Nat))) g P := by
  refine at6_mk ?_ ?_ ?_ ?_ ?_ ?_
  · rw [cell_off _ (by decide), cell_off _ (by decide), cell_off _ (by decide), cell_off _ (by decide), cell_off _ (by decide)]; exact cell_set _ h0
  · rw [cell_off _ (by decide), cell_off _ (by decide), cell_off _ (by decide), cell_off _ (by decide)]; exact cell_set _ (some_set _ _ h1)
  · rw [cell_off _ (by decide), cell_off _ (by decide), cell_off _ (by decide)]; exact cell_set _ (some_set _ _ (some_set _ _ h2))
  · rw [cell_off _ (by decide), cell_off _ (by decide)]; exact cell_set _ (some_set _ _ (some_set _ _ (some_set _ _ h3)))
  · rw [cell_off _ (by decide)]; exact cell_set _ (some_set _ _ (some_set _ _ (some_set _ _ (some_set _ _ h4))))
  · exact cell_set _ (some_set _ _ (some_set _ _ (some_set _ _ (some_set _ _ (some_set _ _ h5)))))

set_option maxRecDepth 100000 in
set_option maxHeartbeats 3200000 in
theorem compareProducts_any (a b c d : Nat → Nat) (ha : W.Words a 3) (hb : W.Words b 3) (hc : W.Words c 3) (hd : W.Words d 3) (w : World) :
    Calls Try.prog 43 #[.agg #[.int .u64 (a 0 : Nat), .int .u64 (a 1 : Nat), .int .u64 (a 2 : Nat)], .agg #[.int .u64 (b 0 : Nat), .int .u64 (b 1 : Nat), .int .u64 (b 2 : Nat)], .agg #[.int .u64 (c 0 : Nat), .int .u64 (c 1 : Nat), .int .u64 (c 2 : Nat)], .agg #[.int .u64 (d 0 : Nat), .int .u64 (d 1 : Nat), .int .u64 (d 2 : Nat)]] w fun e w' =>
      e = .returned (.int .i64 (W.cmpN (W.prd a b) (W.prd c d) 6)) ∧ Below w.heap.size w w' := by
  have HS0 := s12_start w 29 a b c d
  have hsz0 : w.heap.size + 4 ≤ ((((w.alloc (.cells #[.int .u64 (a 0 : Nat), .int .u64 (a 1 : Nat), .int .u64 (a 2 : Nat)] 29)).alloc (.cells #[.int .u64 (b 0 : Nat), .int .u64 (b 1 : Nat), .int .u64 (b 2 : Nat)] 29)).alloc (.cells #[.int .u64 (c 0 : Nat), .int .u64 (c 1 : Nat), .int .u64 (c 2 : Nat)] 29)).alloc (.cells #[.int .u64 (d 0 : Nat), .int .u64 (d 1 : Nat), .int .u64 (d 2 : Nat)] 29)).heap.size := by simp
  have HB0 : Hid (Below w.heap.size w ((((w.alloc (.cells #[.int .u64 (a 0 : Nat), .int .u64 (a 1 : Nat), .int .u64 (a 2 : Nat)] 29)).alloc (.cells #[.int .u64 (b 0 : Nat), .int .u64 (b 1 : Nat), .int .u64 (b 2 : Nat)] 29)).alloc (.cells #[.int .u64 (c 0 : Nat), .int .u64 (c 1 : Nat), .int .u64 (c 2 : Nat)] 29)).alloc (.cells #[.int .u64 (d 0 : Nat), .int .u64 (d 1 : Nat), .int .u64 (d 2 : Nat)] 29))) := ((((Below.refl _ _).alloc (Nat.le_refl _) _).alloc (by simp) _).alloc (by simp; omega) _).alloc (by simp; omega) _
  go_enter Try.func43, Try.ntmps43
  go_wp2
  generalize ((((w.alloc (.cells #[.int .u64 (a 0 : Nat), .int .u64 (a 1 : Nat), .int .u64 (a 2 : Nat)] 29)).alloc (.cells #[.int .u64 (b 0 : Nat), .int .u64 (b 1 : Nat), .int .u64 (b 2 : Nat)] 29)).alloc (.cells #[.int .u64 (c 0 : Nat), .int .u64 (c 1 : Nat), .int .u64 (c 2 : Nat)] 29)).alloc (.cells #[.int .u64 (d 0 : Nat), .int .u64 (d 1 : Nat), .int .u64 (d 2 : Nat)] 29)) = W0 at *
  have HS : Hid (S12 w.heap.size a b c d W0) := HS0
  clear HS0
  go_cut [9, 10] (fun v9 v10 wx => ∃ g9 g10 : Nat, v9 = .pointer (some ⟨g9, 0, none⟩) ∧ v10 = .pointer (some ⟨g10, 0, none⟩) ∧ At6 wx g9 (W.prd a b) ∧ At6 wx g10 (W.prd c d) ∧ Below w.heap.size w wx)
  case first =>
    go_region_held3 (fun w' => w'.cell? ⟨w.heap.size, 0, none⟩ = some (.int .u64 (a 0 : Nat)) ∧ w'.cell? ⟨w.heap.size, 1, none⟩ = some (.int .u64 (a 1 : Nat)) ∧ w'.cell? ⟨w.heap.size, 2, none⟩ = some (.int .u64 (a 2 : Nat)) ∧ w'.cell? ⟨w.heap.size + 1, 0, none⟩ = some (.int .u64 (b 0 : Nat)) ∧ w'.cell? ⟨w.heap.size + 1, 1, none⟩ = some (.int .u64 (b 1 : Nat)) ∧ w'.cell? ⟨w.heap.size + 1, 2, none⟩ = some (.int .u64 (b 2 : Nat)) ∧ w'.cell? ⟨w.heap.size + 1 + 1, 0, none⟩ = some (.int .u64 (c 0 : Nat)) ∧ w'.cell? ⟨w.heap.size + 1 + 1, 1, none⟩ = some (.int .u64 (c 1 : Nat)) ∧ w'.cell? ⟨w.heap.size + 1 + 1, 2, none⟩ = some (.int .u64 (c 2 : Nat)) ∧ w'.cell? ⟨w.heap.size + 1 + 1 + 1, 0, none⟩ = some (.int .u64 (d 0 : Nat)) ∧ w'.cell? ⟨w.heap.size + 1 + 1 + 1, 1, none⟩ = some (.int .u64 (d 1 : Nat)) ∧ w'.cell? ⟨w.heap.size + 1 + 1 + 1, 2, none⟩ = some (.int .u64 (d 2 : Nat)))
      ((show S12 w.heap.size a b c d _; (repeat (first | with_reducible exact HS.out | with_reducible refine s12_drew ?_ | with_reducible refine s12_alloc _ ?_ ?_ | with_reducible refine s12_setCell _ _ ?_ ?_ | with_reducible refine s12_below HB4.out ?_ ?_ | with_reducible refine s12_below HB3.out ?_ ?_)); all_goals (first | omega | (simp only [drewSize, allocSize, setSize]; omega))))
      (first
        | (go_at_call_of 48 (a 0); refine (product_any a b ha hb _).mono ?_; rintro e w3 ⟨rfl, hb3⟩; obtain ⟨hc3, hf3⟩ := bcellM hb3; have HB3 := show Hid _ from hb3; have hsz3 := hb3.size; (try simp at hsz3); (try simp at hc3); (try simp at hf3); clear hb3; (try have z3 : W0.heap.size < w3.heap.size := by omega); (try have z3a : W0.heap.size + 1 < w3.heap.size := by omega); (try have z3b : W0.heap.size < w3.heap.size + 1 := by omega); (try have z3c : W0.heap.size < w3.heap.size + 1 + 1 := by omega); (try have z3d : W0.heap.size + 1 < w3.heap.size + 1 := by omega); (try have z3e : W0.heap.size + 1 < w3.heap.size + 1 + 1 := by omega))
        | (go_at_call_of 48 (c 0); refine (product_any c d hc hd _).mono ?_; rintro e w4 ⟨rfl, hb4⟩; obtain ⟨hc4, hf4⟩ := bcellM hb4; have HB4 := show Hid _ from hb4; have hsz4 := hb4.size; (try simp at hsz4); (try simp at hc4); (try simp at hf4); clear hb4; (try have z4 : w3.heap.size < w4.heap.size := by omega); (try have z5 : w3.heap.size + 1 < w4.heap.size := by omega); (try have z6 : W0.heap.size < w4.heap.size := by omega); (try have z7 : W0.heap.size + 1 < w4.heap.size := by omega)))
    all_goals
      go_wp2_with fail
      go_meet
      case rel =>
        refine ⟨_, _, rfl, rfl, ?_, ?_, ?_⟩
        all_goals ((repeat (first
          | with_reducible exact HB0.out
          | with_reducible refine at6_six ?_ ?_ ?_ ?_ ?_ ?_
          | with_reducible refine at6_other _ _ ?_ ?_
          | with_reducible refine at6_new _ ?_
          | with_reducible refine at6_alloc _ ?_ ?_
          | with_reducible refine bl_drew ?_
          | with_reducible refine bl_alloc _ ?_ ?_
          | with_reducible refine bl_setCell _ _ ?_ ?_
          | with_reducible refine bl_call HB4.out ?_ ?_
          | with_reducible refine bl_call HB3.out ?_ ?_)); all_goals (first | omega | (simp only [drewSize, allocSize, setSize]; omega) | (dsimp only; omega) | (simp [go_sem, World.cell?_alloc_past, *]; done)))
  case rest =>
    obtain ⟨g9, g10, rfl, rfl, h9, h10, hbc⟩ := hcut
    have HBC : Hid (Below w.heap.size w wc) := hbc
    clear hbc HB0 HS hsz0
    go_wp2
    go_loopw [11] (fun v wr => ∃ n : Nat, n ≤ 6 ∧ v = .int .i64 ((n : Int) - 1) ∧ Hid (W.cmpN (W.prd a b) (W.prd c d) 6 = W.cmpN (W.prd a b) (W.prd c d) n) ∧ At6 wr g9 (W.prd a b) ∧ At6 wr g10 (W.prd c d) ∧ Hid (Below w.heap.size w wr)) (fun v _ => (intOf v + 1).toNat)
    case atStart => exact ⟨6, by omega, rfl, rfl, h9, h10, HBC⟩
    case round =>
      clear h9 h10 HBC
      obtain ⟨n, hn, rfl, HN, h9, h10, HBC⟩ := hrel
      by_cases hlt : 0 < n
      · obtain ⟨m, rfl⟩ : ∃ m, n = m + 1 := ⟨n - 1, by omega⟩
        have c9 := h9 m (by omega)
        have c10 := h10 m (by omega)
        have hi1 : (0 : Int) ≤ (m : Int) := by omega
        have hi2 : (m : Int) < 6 := by omega
        have ei : ((m + 1 : Nat) : Int) - 1 = (m : Int) := by omega
        rw [ei]
        clear ei
        have HC : Hid (W.cmpN (W.prd a b) (W.prd c d) (m + 1) = if W.prd a b m < W.prd c d m then -1 else if W.prd c d m < W.prd a b m then 1 else W.cmpN (W.prd a b) (W.prd c d) m) := rfl
        by_cases t1 : W.prd a b m < W.prd c d m
        · have e1 := W.cmp1_lt t1
          have HR : Hid (W.cmpN (W.prd a b) (W.prd c d) 6 = -1) := by show _ = _; rw [HN.out, HC.out, if_pos t1]
          go_wp2
          go_quiet ((go_at_call 49; exact Calls.quiet_of_same (compare_any _ _ _)))
          go_wp2
          go_ret
          exact ⟨by rw [HR.out, ← e1]; rfl, HBC.out.trans ⟨rfl, rfl, rfl, Nat.le_refl _, fun _ _ => rfl⟩⟩
        · by_cases t2 : W.prd c d m < W.prd a b m
          · have e1 := W.cmp1_gt t2
            have HR : Hid (W.cmpN (W.prd a b) (W.prd c d) 6 = 1) := by show _ = _; rw [HN.out, HC.out, if_neg t1, if_pos t2]
            go_wp2
            go_quiet ((go_at_call 49; exact Calls.quiet_of_same (compare_any _ _ _)))
            go_wp2
            go_ret
            exact ⟨by rw [HR.out, ← e1]; rfl, HBC.out.trans ⟨rfl, rfl, rfl, Nat.le_refl _, fun _ _ => rfl⟩⟩
          · have e1 := W.cmp1_eq t1 t2
            have HR : Hid (W.cmpN (W.prd a b) (W.prd c d) 6 = W.cmpN (W.prd a b) (W.prd c d) m) := by show _ = _; rw [HN.out, HC.out, if_neg t1, if_neg t2]
            go_wp2
            go_quiet ((go_at_call 49; exact Calls.quiet_of_same (compare_any _ _ _)))
            go_wp2
            go_roundw
            case rel => exact ⟨m, by omega, rfl, HR, h9, h10, HBC.out.trans ⟨rfl, rfl, rfl, Nat.le_refl _, fun _ _ => rfl⟩⟩
            case measure => simp [intOf]
      · have hn0 : n = 0 := by omega
        subst hn0
        go_wp2
        go_ret
        exact ⟨by rw [HN.out]; rfl, HBC.out⟩

end Go.Proofs.Qxb6614502a
