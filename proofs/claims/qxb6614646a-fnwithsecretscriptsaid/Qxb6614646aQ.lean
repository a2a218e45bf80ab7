/-
  Markers: marks, plain, WithSecret, ZZSecret, ZZPlain.
-/
import Derived.Test.Qxb6614646aP
namespace Go.Proofs.Qxb6614646a
open Go.RowKit

set_option maxHeartbeats 400000 in
theorem held32_mark (m : Nat) (v : Value) (w : World) (h : w.cell? ⟨m, 0, none⟩ = some (.iface 87 v)) : Calls Try.prog 32 #[.agg #[.pointer (some ⟨m, 0, none⟩)]] w fun e w' => e = .returned (.iface 87 v) ∧ Below w.heap.size w w' := by
  have hlt : m < w.heap.size := lt_of_cell h
  have hne : m ≠ w.heap.size := by omega
  go_enter Try.func32, Try.ntmps32
  go_wp2
  go_ret
  exact ⟨rfl, (Below.refl _ _).alloc (Nat.le_refl _) _⟩

/-- held of a value without markers fails the assertion to *marked. -/
theorem held_plain (a : Option Addr) (w : World) (h : PlainV w a) : Calls Try.prog 32 #[.agg #[.pointer a]] w fun e w' => (∃ v, e = .returned v ∧ ∀ w, (Instr.typeAssert v 79 87 true).run Try.prog w = .ok (.tuple #[.pointer none, .bool false]) w) ∧ Below w.heap.size w w' := by
  rcases h with rfl | ⟨b, o, v, rfl, h⟩
  · exact (held32_none w).mono fun e w' ⟨he, hb⟩ => ⟨⟨_, he, ta_nil87⟩, hb⟩
  · exact (held32_some b o v w h).mono fun e w' ⟨he, hb⟩ => ⟨⟨_, he, ta_num87 v⟩, hb⟩

set_option maxRecDepth 100000 in
set_option maxHeartbeats 400000 in
theorem marks25_any (a p d : Option Addr) (s : Bool) (w : World) (h : Vl w a p s d) : Calls Try.prog 25 #[.agg #[.pointer a]] w fun e w' => e = .returned (.tuple #[.bool s, .pointer d]) ∧ Below w.heap.size w w' := by
  rcases h with ⟨h, _, rfl, rfl⟩ | ⟨m, rfl, h⟩
  · have HP : Hid (PlainV (w.alloc (.cells #[.pointer a] 43)) a) := h.below ((Below.refl w.heap.size w).alloc (Nat.le_refl _) _) (Nat.le_refl _)
    clear h
    go_enter Try.func25, Try.ntmps25
    go_wp2_with fail
    refine (held_plain a _ HP.out).mono ?_
    rintro e w3 ⟨⟨v, rfl, hta⟩, hb⟩
    have HB : Hid (Below w.heap.size w w3) := ((Below.refl _ _).alloc (Nat.le_refl _) _).trans (hb.mono (by simp))
    clear hb HP
    go_wp2
    exact bodyPost_ret (v := .tuple #[.bool false, .pointer none]) (by simp [results, Try.results25, go_sem]) rfl ⟨rfl, HB.out⟩
  · have HM : Hid (Marked (w.alloc (.cells #[.pointer (some ⟨m, 0, none⟩)] 43)) m p s d) := h.below ((Below.refl w.heap.size w).alloc (Nat.le_refl _) _) (Nat.le_refl _)
    clear h
    go_enter Try.func25, Try.ntmps25
    go_wp2_with fail
    refine (held32_mark m _ _ HM.out.1).mono ?_
    rintro e w3 ⟨rfl, hb⟩
    have HB : Hid (Below w.heap.size w w3) := ((Below.refl _ _).alloc (Nat.le_refl _) _).trans (hb.mono (by simp))
    have hm3 := HM.out.below hb (Nat.le_refl _)
    obtain ⟨q0, q1, q2, q3⟩ := hm3
    have hta := ta_mark
    clear hb HM
    go_wp2
    go_quiet (fail)
    go_wp2
    exact bodyPost_ret (v := .tuple #[.bool s, .pointer d]) (by simp [results, Try.results25, go_sem]) rfl ⟨rfl, HB.out.trans (drewN_below _)⟩

set_option maxRecDepth 100000 in
set_option maxHeartbeats 400000 in
theorem plain26_any (a p d : Option Addr) (s : Bool) (w : World) (h : Vl w a p s d) : Calls Try.prog 26 #[.agg #[.pointer a]] w fun e w' => e = .returned (.agg #[.pointer p]) ∧ Below w.heap.size w w' := by
  rcases h with ⟨h, rfl, rfl, rfl⟩ | ⟨m, rfl, h⟩
  · have HP : Hid (PlainV ((w.alloc (.cells #[.pointer p] 43)).alloc (.cells #[.pointer none] 43)) p) := h.below (((Below.refl w.heap.size w).alloc (Nat.le_refl _) _).alloc (by simp) _) (Nat.le_refl _)
    clear h
    go_enter Try.func26, Try.ntmps26
    go_wp2_with fail
    refine (held_plain p _ HP.out).mono ?_
    rintro e w3 ⟨⟨v, rfl, hta⟩, hb⟩
    have HB : Hid (Below w.heap.size w w3) := (((Below.refl _ _).alloc (Nat.le_refl _) _).alloc (by simp) _).trans (hb.mono (by simp; omega))
    have r4 : w3.heap[w.heap.size + 1]? = some (.cells #[.pointer none] 43 (0, 0)) := (hb.block _ (by simp)).trans (heap_alloc_at _ _ _ (by simp))
    have p4 : w3.heap[w.heap.size]? = some (.cells #[.pointer p] 43 (0, 0)) := (hb.block _ (by simp; omega)).trans ((Below.heap_alloc _ _ _ (by simp)).trans (heap_alloc_new w _))
    have r0 : w3.cell? ⟨w.heap.size + 1, 0, none⟩ = some (.pointer none) := cell_of_row _ _ _ _ _ _ r4
    have rf : w3.frozen? ⟨w.heap.size + 1, 0, none⟩ = false := by simp [World.frozen?, r4]
    have p0 : w3.cell? ⟨w.heap.size, 0, none⟩ = some (.pointer p) := cell_of_row _ _ _ _ _ _ p4
    clear hb HP r4 p4
    go_wp2
    exact bodyPost_ret (v := .agg #[.pointer p]) (by simp [results, Try.results26, go_sem, r0]) rfl ⟨rfl, HB.out.setCell (by dsimp only; omega) _⟩
  · have HM : Hid (Marked ((w.alloc (.cells #[.pointer (some ⟨m, 0, none⟩)] 43)).alloc (.cells #[.pointer none] 43)) m p s d) := h.below (((Below.refl w.heap.size w).alloc (Nat.le_refl _) _).alloc (by simp) _) (Nat.le_refl _)
    clear h
    go_enter Try.func26, Try.ntmps26
    go_wp2_with fail
    refine (held32_mark m _ _ HM.out.1).mono ?_
    rintro e w3 ⟨rfl, hb⟩
    have HB : Hid (Below w.heap.size w w3) := (((Below.refl _ _).alloc (Nat.le_refl _) _).alloc (by simp) _).trans (hb.mono (by simp; omega))
    have r4 : w3.heap[w.heap.size + 1]? = some (.cells #[.pointer none] 43 (0, 0)) := (hb.block _ (by simp)).trans (heap_alloc_at _ _ _ (by simp))
    have r0 : w3.cell? ⟨w.heap.size + 1, 0, none⟩ = some (.pointer none) := cell_of_row _ _ _ _ _ _ r4
    have rf : w3.frozen? ⟨w.heap.size + 1, 0, none⟩ = false := by simp [World.frozen?, r4]
    have hm3 := HM.out.below hb (Nat.le_refl _)
    obtain ⟨q0, q1, q2, q3⟩ := hm3
    have hta := ta_mark
    clear hb HM r4
    go_wp2
    exact bodyPost_ret (v := .agg #[.pointer p]) (by simp [results, Try.results26, go_sem, r0]) rfl ⟨rfl, HB.out.setCell (by dsimp only; omega) _⟩

end Go.Proofs.Qxb6614646a
