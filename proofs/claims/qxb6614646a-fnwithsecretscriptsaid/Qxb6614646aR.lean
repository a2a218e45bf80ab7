/-
  WithSecret, ZZSecret, ZZPlain.
-/
import Derived.Test.Qxb6614646aQ
namespace Go.Proofs.Qxb6614646a
open Go.RowKit

/-- withMarks, whatever the markers. -/
theorem withMarks24_any (p d : Option Addr) (t : Bool) (w : World) (hp : PlainV w p) :
    Calls Try.prog 24 #[.agg #[.pointer p], .bool t, .pointer d] w fun e w' => ∃ a, e = .returned (.agg #[.pointer a]) ∧ Vl w' a p t d ∧ (t = false → d = none → a = p) ∧ Below w.heap.size w w' := by
  by_cases h : t = true ∨ ∃ a, d = some a
  · refine (withMarks24_some p d t h w).mono ?_
    rintro e w' ⟨m, rfl, hm, hb⟩
    refine ⟨_, rfl, Or.inr ⟨m, rfl, hm⟩, fun ht hd => ?_, hb⟩
    rcases h with h | ⟨a, h⟩
    · rw [ht] at h; cases h
    · rw [hd] at h; cases h
  · have ht : t = false := by
      cases t with
      | false => rfl
      | true => exact absurd (Or.inl rfl) h
    have hd : d = none := by
      cases d with
      | none => rfl
      | some a => exact absurd (Or.inr ⟨a, rfl⟩) h
    subst ht; subst hd
    refine (withMarks24_none p w).mono ?_
    rintro e w' ⟨rfl, hb⟩
    exact ⟨p, rfl, Or.inl ⟨hp.below hb (Nat.le_refl _), rfl, rfl, rfl⟩, fun _ _ => rfl, hb⟩

set_option maxRecDepth 100000 in
set_option maxHeartbeats 400000 in
theorem withSecret15_any (a p d : Option Addr) (s t : Bool) (w : World) (h : Vl w a p s d) (hp : PlainV w p) :
    Calls Try.prog 15 #[.agg #[.pointer a], .bool t] w fun e w' => ∃ a', e = .returned (.agg #[.pointer a']) ∧ Vl w' a' p t d ∧ (t = false → d = none → a' = p) ∧ Below w.heap.size w w' := by
  have hb0 : Below w.heap.size w ((w.alloc (.cells #[.pointer a] 43)).alloc (.cells #[.pointer none] 43)) := ((Below.refl w.heap.size w).alloc (Nat.le_refl _) _).alloc (by simp) _
  have HV : Hid (Vl ((w.alloc (.cells #[.pointer a] 43)).alloc (.cells #[.pointer none] 43)) a p s d) := h.below hb0 (Nat.le_refl _)
  have HP : Hid (PlainV ((w.alloc (.cells #[.pointer a] 43)).alloc (.cells #[.pointer none] 43)) p) := hp.below hb0 (Nat.le_refl _)
  have HB0 : Hid _ := hb0
  have r4 : ((w.alloc (.cells #[.pointer a] 43)).alloc (.cells #[.pointer none] 43)).heap[w.heap.size + 1]? = some (.cells #[.pointer none] 43 (0, 0)) := heap_alloc_at _ _ _ (by simp)
  have p4 : ((w.alloc (.cells #[.pointer a] 43)).alloc (.cells #[.pointer none] 43)).heap[w.heap.size]? = some (.cells #[.pointer a] 43 (0, 0)) := (Below.heap_alloc _ _ _ (by simp)).trans (heap_alloc_new w _)
  have hs4 : ((w.alloc (.cells #[.pointer a] 43)).alloc (.cells #[.pointer none] 43)).heap.size = w.heap.size + 2 := by simp
  have HR := show Hid _ from r4
  have HQ := show Hid _ from p4
  clear h hp hb0 r4 p4
  go_enter Try.func15, Try.ntmps15
  go_wp2_with fail
  generalize ((w.alloc (.cells #[.pointer a] 43)).alloc (.cells #[.pointer none] 43)) = w1 at *
  refine (marks25_any a p d s w1 HV.out).mono ?_
  rintro e w3 ⟨rfl, hb⟩
  replace HV : Hid (Vl w3 a p s d) := HV.out.below hb (Nat.le_refl _)
  replace HP : Hid (PlainV w3 p) := HP.out.below hb (Nat.le_refl _)
  replace HB0 : Hid (Below w.heap.size w w3) := (show Below w.heap.size w w1 from HB0.out).trans (hb.mono (by omega))
  replace HR := show Hid _ from (hb.block (w.heap.size + 1) (by omega)).trans HR.out
  replace HQ := show Hid _ from (hb.block w.heap.size (by omega)).trans HQ.out
  have hs3 := hb.size
  clear hb
  have p0 : w3.cell? ⟨w.heap.size, 0, none⟩ = some (.pointer a) := cell_of_row _ _ _ _ _ _ HQ.out
  go_wp2_with fail
  clear p0
  refine (plain26_any a p d s w3 HV.out).mono ?_
  rintro e w5 ⟨rfl, hb⟩
  replace HP : Hid (PlainV w5 p) := HP.out.below hb (Nat.le_refl _)
  replace HB0 : Hid (Below w.heap.size w w5) := HB0.out.trans (hb.mono (by omega))
  replace HR := show Hid _ from (hb.block (w.heap.size + 1) (by omega)).trans HR.out
  have hs5 := hb.size
  clear hb HV HQ
  go_wp2_with fail
  refine (withMarks24_any p d t w5 HP.out).mono ?_
  rintro e w7 ⟨a', rfl, hv, ha, hb⟩
  have r7 : w7.heap[w.heap.size + 1]? = some (.cells #[.pointer none] 43 (0, 0)) := (hb.block (w.heap.size + 1) (by omega)).trans HR.out
  have r0 : w7.cell? ⟨w.heap.size + 1, 0, none⟩ = some (.pointer none) := cell_of_row _ _ _ _ _ _ r7
  have rf : w7.frozen? ⟨w.heap.size + 1, 0, none⟩ = false := by simp [World.frozen?, r7]
  have HB : Hid (Below w.heap.size w w7) := HB0.out.trans (hb.mono (by omega))
  have HV : Hid (∀ u, Vl (w7.setCell ⟨w.heap.size + 1, 0, none⟩ u) a' p t d) := fun u => by
    have e : ∀ k j, k ≠ w.heap.size + 1 → (w7.setCell ⟨w.heap.size + 1, 0, none⟩ u).cell? ⟨k, j, none⟩ = w7.cell? ⟨k, j, none⟩ := fun k j hk => World.cell?_of_block (w := w7) (a := ⟨k, j, none⟩) (Below.heap_setCell _ _ _ _ hk)
    have ni : ∀ k j t v, w7.cell? ⟨k, j, none⟩ = some (.iface t v) → k ≠ w.heap.size + 1 := fun k j t v hc hk => by
      subst hk
      rw [cell_of_row _ _ _ _ _ _ r7] at hc
      cases j <;> simp at hc
    rcases hv with ⟨hpl, h2⟩ | ⟨m, h1, h2⟩
    · refine Or.inl ⟨?_, h2⟩
      rcases hpl with hpl | ⟨b, o, v, e1, e2⟩
      · exact Or.inl hpl
      · exact Or.inr ⟨b, o, v, e1, (e b o (ni _ _ _ _ e2)).trans e2⟩
    · have hm := ni _ _ _ _ h2.1
      exact Or.inr ⟨m, h1, (e m 0 hm).trans h2.1, (e m 1 hm).trans h2.2.1, (e m 2 hm).trans h2.2.2.1, (e m 3 hm).trans h2.2.2.2⟩
  have HA : Hid (t = false → d = none → a' = p) := ha
  clear hv ha hb r7 HR HB0 HP
  go_wp2
  exact bodyPost_ret (v := .agg #[.pointer a']) (by simp [results, Try.results15, go_sem, r0]) rfl ⟨a', rfl, HV.out _, HA.out, HB.out.setCell (by dsimp only; omega) _⟩

set_option maxRecDepth 100000 in
set_option maxHeartbeats 400000 in
theorem secret16_any (a p d : Option Addr) (s : Bool) (w : World) (h : Vl w a p s d) : Calls Try.prog 16 #[.agg #[.pointer a]] w fun e w' => e = .returned (.bool s) ∧ Below w.heap.size w w' := by
  have HV : Hid (Vl (w.alloc (.cells #[.pointer a] 43)) a p s d) := h.below ((Below.refl w.heap.size w).alloc (Nat.le_refl _) _) (Nat.le_refl _)
  clear h
  go_enter Try.func16, Try.ntmps16
  go_wp2_with fail
  refine (marks25_any a p d s _ HV.out).mono ?_
  rintro e w3 ⟨rfl, hb⟩
  have HB : Hid (Below w.heap.size w w3) := ((Below.refl _ _).alloc (Nat.le_refl _) _).trans (hb.mono (by simp))
  clear hb HV
  go_wp2
  go_ret
  exact ⟨rfl, HB.out⟩

set_option maxRecDepth 100000 in
set_option maxHeartbeats 400000 in
theorem zzplain18_any (a p d : Option Addr) (s : Bool) (w : World) (h : Vl w a p s d) : Calls Try.prog 18 #[.agg #[.pointer a]] w fun e w' => e = .returned (.agg #[.pointer p]) ∧ Below w.heap.size w w' := by
  have HV : Hid (Vl ((w.alloc (.cells #[.pointer a] 43)).alloc (.cells #[.pointer none] 43)) a p s d) := h.below (((Below.refl w.heap.size w).alloc (Nat.le_refl _) _).alloc (by simp) _) (Nat.le_refl _)
  clear h
  go_enter Try.func18, Try.ntmps18
  go_wp2_with fail
  refine (plain26_any a p d s _ HV.out).mono ?_
  rintro e w3 ⟨rfl, hb⟩
  have HB : Hid (Below w.heap.size w w3) := (((Below.refl _ _).alloc (Nat.le_refl _) _).alloc (by simp) _).trans (hb.mono (by simp; omega))
  have r4 : w3.heap[w.heap.size + 1]? = some (.cells #[.pointer none] 43 (0, 0)) := (hb.block _ (by simp)).trans (heap_alloc_at _ _ _ (by simp))
  have r0 : w3.cell? ⟨w.heap.size + 1, 0, none⟩ = some (.pointer none) := cell_of_row _ _ _ _ _ _ r4
  have rf : w3.frozen? ⟨w.heap.size + 1, 0, none⟩ = false := by simp [World.frozen?, r4]
  clear hb HV r4
  go_wp2
  exact bodyPost_ret (v := .agg #[.pointer p]) (by simp [results, Try.results18, go_sem, r0]) rfl ⟨rfl, HB.out.setCell (by dsimp only; omega) _⟩

end Go.Proofs.Qxb6614646a
