/-
  Maker.Number; reading a value.
-/
import Derived.Test.Qxb6614646aD
namespace Go.Proofs.Qxb6614646a
open Go.RowKit

theorem held_lt {w : World} {b o y : Nat} (h : Held w b o y) : b < w.heap.size := lt_of_cell h.2.1
theorem shape_lt {w : World} {b o : Nat} (h : Shape w b o) : b < w.heap.size := by
  obtain ⟨_, _, ⟨y, h⟩, _⟩ := h; exact lt_of_cell h

/-- A block that keeps its cells keeps what is held there. -/
theorem held_block {w w' : World} {b o y : Nat} (e : w'.heap[b]? = w.heap[b]?) (h : Held w b o y) : Held w' b o y :=
  ⟨h.1, (World.cell?_of_block (w := w) (a := ⟨b, o, none⟩) e).trans h.2.1, (World.cell?_of_block (w := w) (a := ⟨b, o + 1, none⟩) e).trans h.2.2⟩
theorem shape_block {w w' : World} {b o : Nat} (e : w'.heap[b]? = w.heap[b]?) (h : Shape w b o) : Shape w' b o := by
  obtain ⟨s1, s2, ⟨y, s3⟩, s4⟩ := h
  refine ⟨s1, ?_, ⟨y, (World.cell?_of_block (w := w) (a := ⟨b, o + 1, none⟩) e).trans s3⟩, fun j => (frozen_block (a := ⟨b, j, none⟩) e).trans (s4 j)⟩
  rw [World.cell?_of_block (w := w) (a := ⟨b, o, none⟩) e]; exact s2
theorem mk_block {w w' : World} {g F : Nat} (hg : w'.heap[g]? = w.heap[g]?) (h : MkOk w g F) (hb : ∀ b o, F ≤ b → Shape w b o → Shape w' b o) : MkOk w' g F := by
  obtain ⟨cs, T, a, len, cap, sz, hrow, h8, h2, h3, hsz, hlc, hcap, hfree⟩ := h
  refine ⟨cs, T, a, len, cap, sz, hg.trans hrow, h8, h2, h3, hsz, hlc, hcap, fun hl => ?_⟩
  obtain ⟨b, o, ha, hF, hs⟩ := hfree hl
  exact ⟨b, o, ha, hF, fun j hj => hb _ _ hF (hs j hj)⟩

theorem not_shape {w : World} {k : Nat} {T : TypeId} {v : Option Addr} (h : w.heap[k]? = some (.cells #[.pointer v] T (0, 0))) (o : Nat) : ¬ Shape w k o := by
  rintro ⟨_, s2, ⟨y, s3⟩, _⟩
  rw [cell_of_row _ _ _ _ _ _ h] at s2 s3
  simp at s3

/-- The caller's result in a block of its own, ahead of the call and behind it. -/
theorem got_wrap {w w4 : World} {g F b o y : Nat} (u : Value) (hgF : g < F) (hF : F ≤ w.heap.size) (h : Got (w.alloc (.cells #[.pointer none] 43)) w4 g F b o y) :
    w4.heap[w.heap.size]? = some (.cells #[.pointer none] 43 (0, 0)) ∧ Got w (w4.setCell ⟨w.heap.size, 0, none⟩ u) g F b o y := by
  have hn : (w.alloc (.cells #[.pointer none] 43)).heap[w.heap.size]? = some (.cells #[.pointer none] 43 (0, 0)) := heap_alloc_new w _
  have e : w4.heap[w.heap.size]? = some (.cells #[.pointer none] 43 (0, 0)) := (h.plain _ (by simp) (by omega) (not_shape hn)).trans hn
  have hns := not_shape e
  have al : ∀ k, k < w.heap.size → (w.alloc (.cells #[.pointer none] 43)).heap[k]? = w.heap[k]? := fun k hk => Below.heap_alloc w _ k hk
  have st : ∀ k, k ≠ w.heap.size → (w4.setCell ⟨w.heap.size, 0, none⟩ u).heap[k]? = w4.heap[k]? := fun k hk => Below.heap_setCell w4 _ _ k hk
  have nh : ∀ b o y, Held w4 b o y → b ≠ w.heap.size := fun b o y hh e' => by
    subst e'
    have := hh.2.1
    rw [cell_of_row _ _ _ _ _ _ e] at this
    have h0 := hh.2.2
    rw [cell_of_row _ _ _ _ _ _ e] at h0
    simp at h0
  have nsh : ∀ b o, Shape w4 b o → b ≠ w.heap.size := fun b o hh e' => by subst e'; exact hns o hh
  refine ⟨e, h.os, h.tape, h.output, ?_, fun k hk hkg => ?_, fun b' o' y' hF' hh => ?_, fun b' o' hF' hh => ?_, ?_, h.at', fun k hk hkg hk' => ?_, ?_⟩
  · have := h.size
    rw [allocSize] at this
    rw [setSize]; omega
  · rw [st k (by omega), h.block k hk hkg, al k (by omega)]
  · have hlt := held_lt hh
    exact held_block (st b' (by omega)) (h.held b' o' y' hF' (held_block (al b' hlt) hh))
  · have hlt := shape_lt hh
    exact shape_block (st b' (by omega)) (h.shape b' o' hF' (shape_block (al b' hlt) hh))
  · exact held_block (st b (nh _ _ _ h.it)) h.it
  · rw [st k (by omega), h.plain k (by simp; omega) hkg (fun o hh => hk' o (shape_block (al k hk).symm hh)), al k hk]
  · exact mk_block (st g (by omega)) h.maker (fun b o _ hh => shape_block (st b (nsh b o hh)) hh)

theorem mk_alloc {w : World} {g F : Nat} (x : Obj) (hg : g < w.heap.size) (h : MkOk w g F) : MkOk (w.alloc x) g F :=
  mk_block (Below.heap_alloc w x g hg) h (fun b _ _ hh => shape_block (Below.heap_alloc w x b (shape_lt hh)) hh)

set_option maxRecDepth 100000 in
set_option maxHeartbeats 1600000 in
theorem number8_fin (g F x : Nat) (w : World) (hx : x < 18446744073709551616) (hf : Fl.fin x = true) (hgF : g < F) (hF : F ≤ w.heap.size) (hmk : MkOk w g F) :
    Calls Try.prog 8 #[.pointer (some ⟨g, 0, none⟩), .float .f64 x] w fun e w' => ∃ b o, e = .returned (.tuple #[.agg #[.pointer (some ⟨b, o, none⟩)], .bool true]) ∧ Got w w' g F b o (Fl.norm x) := by
  have HM : Hid (MkOk (w.alloc (.cells #[.pointer none] 43)) g F) := mk_alloc _ (by omega) hmk
  clear hmk
  go_enter Try.func8, Try.ntmps8
  go_wp2_with fail
  refine (numberOf21_fin x hx hf _).mono ?_
  rintro e w3 ⟨rfl, hw⟩
  rw [hw]
  clear hw
  go_wp2_with fail
  refine (makeIn22_any g F (Fl.norm x) _ hgF (by simp; omega) HM.out).mono ?_
  rintro e w4 ⟨b, o, rfl, hgot⟩
  obtain ⟨hres, _⟩ := got_wrap (.pointer (some ⟨b, o, none⟩)) hgF hF hgot
  have HG : Hid (Got w (w4.setCell ⟨w.heap.size, 0, none⟩ (.pointer (some ⟨b, o, none⟩))) g F b o (Fl.norm x)) := (got_wrap (.pointer (some ⟨b, o, none⟩)) hgF hF hgot).2
  have r0 : w4.cell? ⟨w.heap.size, 0, none⟩ = some (.pointer none) := cell_of_row _ _ _ _ _ _ hres
  have rf : w4.frozen? ⟨w.heap.size, 0, none⟩ = false := by simp [World.frozen?, hres]
  clear hgot hres
  go_wp2
  exact bodyPost_ret (v := .tuple #[.agg #[.pointer (some ⟨b, o, none⟩)], .bool true]) (by simp [results, Try.results8, go_sem, r0]) rfl ⟨b, o, rfl, HG.out⟩

set_option maxRecDepth 100000 in
set_option maxHeartbeats 1600000 in
theorem number8_inf (p : Value) (x : Nat) (w : World) (hx : x < 18446744073709551616) (hf : Fl.fin x = false) :
    Calls Try.prog 8 #[p, .float .f64 x] w fun e w' => e = .returned (.tuple #[.agg #[.pointer none], .bool false]) ∧ Below w.heap.size w w' := by
  go_enter Try.func8, Try.ntmps8
  go_wp2_with fail
  refine (numberOf21_inf x hx hf _).mono ?_
  rintro e w3 ⟨rfl, hw⟩
  rw [hw]
  clear hw
  go_wp2
  exact bodyPost_ret (v := .tuple #[.agg #[.pointer none], .bool false]) (by simp [results, Try.results8, go_sem]) rfl ⟨rfl, (Below.refl _ _).alloc (Nat.le_refl _) _⟩

end Go.Proofs.Qxb6614646a
