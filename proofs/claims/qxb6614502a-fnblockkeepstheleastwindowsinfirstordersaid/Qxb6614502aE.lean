/-
  The wrappers over a plan, and what one call of block does to the questions that the plan answers.
-/
import Derived.Test.Qxb6614502aD
namespace Go.Proofs.Qxb6614502a
open Go.RowKit

theorem lew_trans {a b c d x y : Int} (h1 : lew a b c d = true) (h2 : lew c d x y = true) : lew a b x y = true := by
  simp [lew] at h1 h2 ⊢
  omega

theorem under_iff (f h : Nat → Int) (a b : Int) (n : Nat) : under f h a b n = true ↔ ∃ j, j < n ∧ lew (f j) (h j) a b = true := by
  induction n with
  | zero => simp [under]
  | succ n ih =>
    rw [under, Bool.or_eq_true, ih]
    constructor
    · rintro (⟨j, hj, h⟩ | h)
      · exact ⟨j, by omega, h⟩
      · exact ⟨n, by omega, h⟩
    · rintro ⟨j, hj, h⟩
      by_cases e : j = n
      · subst e; exact .inr h
      · exact .inl ⟨j, by omega, h⟩

theorem getD_lt (B : List (Int × Int)) (j : Nat) (hj : j < B.length) : B.getD j (0, 0) = B[j] := by
  rw [List.getD_eq_getElem?_getD, List.getElem?_eq_getElem hj]; rfl

theorem underL_iff (B : List (Int × Int)) (a b : Int) : underL B a b = true ↔ ∃ p ∈ B, lew p.1 p.2 a b = true := by
  rw [underL, under_iff]
  constructor
  · rintro ⟨j, hj, h⟩
    refine ⟨B[j], List.getElem_mem hj, ?_⟩
    rw [← getD_lt B j hj]; exact h
  · rintro ⟨p, hp, h⟩
    obtain ⟨j, hj, rfl⟩ := List.mem_iff_getElem.1 hp
    refine ⟨j, hj, ?_⟩
    rw [← getD_lt B j hj] at h; exact h

/-- One call of block adds just its own window to what is blocked, where it is no wider than the most free. -/
theorem underL_blockL (most : Int) (B : List (Int × Int)) (x y a b : Int) : underL (blockL most B x y) a b = (underL B a b || (decide (x ≤ most) && lew x y a b)) := by
  rw [Bool.eq_iff_iff]
  unfold blockL
  split
  · rename_i h
    have : ¬ x ≤ most := by omega
    simp [this]
  · rename_i h
    have hx : x ≤ most := by omega
    split
    · rename_i hu
      simp only [hx, decide_true, Bool.true_and, Bool.or_eq_true]
      constructor
      · exact .inl
      · rintro (h | h)
        · exact h
        · obtain ⟨p, hp, hl⟩ := (underL_iff B x y).1 hu
          exact (underL_iff B a b).2 ⟨p, hp, lew_trans hl h⟩
    · simp only [hx, decide_true, Bool.true_and, Bool.or_eq_true, underL_iff]
      constructor
      · rintro ⟨p, hp, hl⟩
        rcases List.mem_append.1 hp with hp | hp
        · exact .inl ⟨p, (List.mem_filter.1 hp).1, hl⟩
        · simp at hp; subst hp; exact .inr hl
      · rintro (⟨p, hp, hl⟩ | hl)
        · by_cases hk : keep x y p = true
          · exact ⟨p, List.mem_append.2 (.inl (List.mem_filter.2 ⟨hp, hk⟩)), hl⟩
          · refine ⟨(x, y), List.mem_append.2 (.inr (by simp)), lew_trans (c := p.1) (d := p.2) ?_ hl⟩
            simpa [keep] using hk
        · exact ⟨(x, y), List.mem_append.2 (.inr (by simp)), hl⟩

theorem blockL_length (most : Int) (B : List (Int × Int)) (x y : Int) : (blockL most B x y).length ≤ B.length + 1 := by
  unfold blockL
  split
  · omega
  · split
    · omega
    · have := List.length_filter_le (keep x y) B
      simp; omega

theorem block_any {w : World} {pb fb n : Nat} {f : Nat → Int} {B : List (Int × Int)} (h : Plan w pb fb n f B) (hn : n + 1 ≤ 4096) (hB : B.length ≤ 1023) (a b : Int) :
    Calls Try.prog 34 #[.pointer (some ⟨pb, 0, none⟩), .int .i64 a, .int .i64 b] w fun e w' => e = .returned (.tuple #[]) ∧ Below pb w w' ∧ Plan w' pb fb n f (blockL (mostTo f n) B a b) := by
  have hs := h.size
  by_cases ha : mostTo f n < a
  · refine (block_wide h hn a b ha).mono ?_
    rintro e w' ⟨rfl, hb⟩
    exact ⟨rfl, hb.mono (by omega), by rw [blockL, if_pos ha]; exact h.below hb⟩
  · by_cases hu : underL B a b = true
    · refine (block_under h hn (by omega) a b ha hu).mono ?_
      rintro e w' ⟨rfl, hb⟩
      exact ⟨rfl, hb.mono (by omega), by rw [blockL, if_neg ha, if_pos hu]; exact h.below hb⟩
    · refine (block_add h hn hB a b ha (by simpa using hu)).mono ?_
      rintro e w' ⟨rfl, hb, hp⟩
      exact ⟨rfl, hb, by rw [blockL, if_neg ha, if_neg hu]; exact hp⟩

set_option maxHeartbeats 400000 in
theorem zzblock_any {w : World} {pb fb n : Nat} {f : Nat → Int} {B : List (Int × Int)} (h : Plan w pb fb n f B) (hn : n + 1 ≤ 4096) (hB : B.length ≤ 1023) (a b : Int) :
    Calls Try.prog 20 #[.pointer (some ⟨pb, 0, none⟩), .int .i64 a, .int .i64 b] w fun e w' => e = .returned (.tuple #[]) ∧ Below pb w w' ∧ Plan w' pb fb n f (blockL (mostTo f n) B a b) := by
  have HP : Hid (Plan w pb fb n f B) := h
  clear h
  go_enter Try.func20, Try.ntmps20
  go_wp2_with (go_at_call 34; refine (block_any HP.out hn hB a b).mono ?_; rintro e w' ⟨rfl, hb, hp⟩)
  go_end0
  exact ⟨rfl, hb, hp⟩

set_option maxHeartbeats 400000 in
theorem zzblocks_any {w : World} {pb fb n : Nat} {f : Nat → Int} {B : List (Int × Int)} (h : Plan w pb fb n f B) (hB : B.length ≤ 1024) (a b : Int) :
    Calls Try.prog 25 #[.pointer (some ⟨pb, 0, none⟩), .int .i64 a, .int .i64 b] w fun e w' => e = .returned (.bool (underL B a b)) ∧ Below w.heap.size w w' := by
  have HP : Hid (Plan w pb fb n f B) := h
  clear h
  go_enter Try.func25, Try.ntmps25
  go_wp2_with (go_at_call 35; refine (blocks_plan HP.out hB a b).mono ?_; rintro e w' ⟨rfl, hb⟩)
  go_ret
  exact ⟨rfl, hb⟩

set_option maxHeartbeats 400000 in
theorem bytes24_any (a1 a2 : Option Addr) (n1 c1 n2 c2 : Nat) (x y : Int) (w : World) (h1 : n1 ≤ maxLen) (h2 : n2 ≤ maxLen) :
    Calls Try.prog 24 #[.slice a1 n1 c1, .slice a2 n2 c2, .int .i64 x, .int .i64 y] w fun e w' => ∃ z, e = .returned (.bool z) ∧ w' = w := by
  unfold maxLen at h1 h2
  go_enter Try.func24, Try.ntmps24
  go_wp2
  all_goals (go_ret; exact ⟨_, rfl, rfl⟩)

/-- The zero plan's cells. -/
def planZ : Array Value := #[.slice none 0 0, .slice none 0 0, .int .i64 0, .int .i64 0, .map none, .nilFunc, .slice none 0 0, .map none, .int .u64 0, .slice none 0 0, .int .i64 0, .slice none 0 0, .slice none 0 0, .int .i64 0, .int .u16 0, .int .i64 0, .int .i64 0, .int .i64 0, .int .i64 0, .int .i64 0, .int .i64 0, .int .i64 0, .int .i64 0, .int .i64 0, .int .i64 0, .int .i64 0, .int .i64 0, .int .i64 0, .int .i64 0, .int .i64 0, .int .i64 0, .int .i64 0, .int .i64 0, .int .i64 0, .int .i64 0, .int .i64 0, .int .i64 0, .int .i64 0, .int .i64 0, .int .i64 0, .int .i64 0, .int .i64 0, .int .i64 0, .int .i64 0, .int .i64 0, .int .i64 0, .int .i64 0, .int .i64 0, .int .i64 0, .bool false, .int .i64 0, .slice none 0 0, .slice none 0 0, .slice none 0 0, .pointer none, .int .u64 0, .bool false, .nilFunc, .int .i64 0, .slice none 0 0, .slice none 0 0, .bool false, .slice none 0 0, .slice none 0 0, .int .i64 0, .int .i64 0]
theorem planZ_size : planZ.size = 66 := rfl
theorem zero89 : ∀ w, (zeroValue 89).run Try.prog w = .ok (.agg planZ) w := fun _ => by kernel_rfl

set_option maxRecDepth 100000 in
set_option maxHeartbeats 400000 in
theorem newPlan_any (fb n : Nat) (f : Nat → Int) (w : World) (hfb : fb < w.heap.size) (hc : ∀ j, j < n + 1 → w.cell? ⟨fb, j, none⟩ = some (.int .i64 (f j))) :
    Calls Try.prog 19 #[.slice (some ⟨fb, 0, none⟩) (n + 1) (n + 1)] w fun e w' => e = .returned (.pointer (some ⟨w.heap.size, 0, none⟩)) ∧ Below w.heap.size w w' ∧ Plan w' w.heap.size fb n f [] := by
  have hz := zero89
  have hs := planZ_size
  have hfit : (planZ.setIfInBounds 1 (Value.slice (some ⟨fb, 0, none⟩) (n + 1) (n + 1))).size = 66 := by simp [hs]
  go_enter Try.func19, Try.ntmps19
  go_wp2
  go_ret
  have hb : Below w.heap.size w (w.alloc (.cells (planZ.setIfInBounds 1 (Value.slice (some ⟨fb, 0, none⟩) (n + 1) (n + 1))) 89)) := (Below.refl _ _).alloc (Nat.le_refl _) _
  have hrow : (w.alloc (.cells (planZ.setIfInBounds 1 (Value.slice (some ⟨fb, 0, none⟩) (n + 1) (n + 1))) 89)).heap[w.heap.size]? = some (.cells (planZ.setIfInBounds 1 (Value.slice (some ⟨fb, 0, none⟩) (n + 1) (n + 1))) 89 (0, 0)) := heap_alloc_new w _
  refine ⟨rfl, hb, hfb, ?_, fun j hj => ((bcell hb).1 fb j hfb).trans (hc j hj), ⟨.slice none 0 0, ?_, World.ownsRow_nil _ _ _ _⟩, frozen_of_row hrow⟩
  · rw [cell_of_row _ _ _ _ _ _ hrow, Array.getElem?_setIfInBounds, if_pos rfl, if_pos (by omega)]
  · rw [cell_of_row _ _ _ _ _ _ hrow, Array.getElem?_setIfInBounds, if_neg (by omega)]; rfl

end Go.Proofs.Qxb6614502a
