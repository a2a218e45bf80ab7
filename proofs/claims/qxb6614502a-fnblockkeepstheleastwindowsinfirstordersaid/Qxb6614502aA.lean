/-
  The plain functions behind the plan's block list, and the walks of the functions that read a plan.
-/
import Derived.Test.Qxb6614502aRows
import Derived.WalkKit
import Derived.WalkSpells
import Derived.WalkLawsBesides
import Derived.StillTactics
import Derived.Laws.Pointers
import Derived.Deep.RegionHeld3
import Derived.Deep.AppendLies
namespace Go.Proofs.Qxb6614502a
open Go.RowKit

/-- The greatest of the first k+1 numbers. -/
def mostTo (f : Nat → Int) : Nat → Int
  | 0 => f 0
  | k + 1 => max (mostTo f k) (f (k + 1))

theorem max_if (a b : Int) : max a b = if a < b then b else a := by
  by_cases h : a < b
  · rw [if_pos h]; omega
  · rw [if_neg h]; omega

/-- Old cells and old marks read as before. -/
theorem bcell {B : Nat} {W w1 : World} (hb : Below B W w1) : (∀ b o, b < B → w1.cell? ⟨b, o, none⟩ = W.cell? ⟨b, o, none⟩) ∧ (∀ b o, b < B → w1.frozen? ⟨b, o, none⟩ = W.frozen? ⟨b, o, none⟩) :=
  ⟨fun b o h => hb.cell (p := ⟨b, o, none⟩) h, fun b o h => hb.frozen (p := ⟨b, o, none⟩) h⟩

set_option maxHeartbeats 400000 in
theorem mostFree_any (pb fb n : Nat) (f : Nat → Int) (w : World) (hlen : n + 1 ≤ 4096)
    (hp : w.cell? ⟨pb, 1, none⟩ = some (.slice (some ⟨fb, 0, none⟩) (n + 1) (n + 1)))
    (hc : ∀ j, j < n + 1 → w.cell? ⟨fb, j, none⟩ = some (.int .i64 (f j))) :
    Calls Try.prog 38 #[.pointer (some ⟨pb, 0, none⟩)] w fun e w' => e = .returned (.int .i64 (mostTo f n)) ∧ w' = w := by
  have hc0 := hc 0 (by omega)
  by_cases h1 : n = 0
  · subst h1
    go_enter Try.func38, Try.ntmps38
    go_wp2
    refine wp_loop_rounds 1 ?_
    rw [rounds_succ]
    go_wp2
    go_ret
    exact ⟨rfl, rfl⟩
  go_enter Try.func38, Try.ntmps38
  go_wp2
  go_loop [3, 18] (fun m i => ∃ k : Nat, k ≤ n ∧ i = .int .i64 k ∧ m = .int .i64 (mostTo f k)) (fun _ i => n - (intOf i).toNat)
  case atStart => exact ⟨0, Nat.zero_le _, rfl, rfl⟩
  case round =>
    obtain ⟨k, hk, rfl, rfl⟩ := hrel
    by_cases hlt : k < n
    · have hck := hc (1 + k) (by omega)
      go_wp2
      go_round
      case rel => exact ⟨k + 1, by omega, by go_num, by rw [mostTo, Nat.add_comm k 1, max_if]⟩
      case measure => simp [intOf]; omega
    · go_wp2
      go_ret
      have : k = n := by omega
      subst this
      exact ⟨rfl, rfl⟩

set_option maxHeartbeats 400000 in
theorem mostOf_any (fb n : Nat) (f : Nat → Int) (w : World) (hlen : n + 1 ≤ 4096)
    (hc : ∀ j, j < n + 1 → w.cell? ⟨fb, j, none⟩ = some (.int .i64 (f j))) :
    Calls Try.prog 21 #[.slice (some ⟨fb, 0, none⟩) (n + 1) (n + 1)] w fun e w' => e = .returned (.int .i64 (mostTo f n)) ∧ w' = w := by
  have hc0 := hc 0 (by omega)
  go_enter Try.func21, Try.ntmps21
  go_wp2
  go_loop [3, 4] (fun m i => ∃ k : Nat, k ≤ n ∧ i = .int .i64 (k + 1 : Nat) ∧ m = .int .i64 (mostTo f k)) (fun _ i => n + 1 - (intOf i).toNat)
  case atStart => exact ⟨0, Nat.zero_le _, rfl, rfl⟩
  case round =>
    obtain ⟨k, hk, rfl, rfl⟩ := hrel
    by_cases hlt : k < n
    · have hck := hc (k + 1) (by omega)
      go_wp2
      · go_round
        case rel => exact ⟨k + 1, by omega, by go_num, by rw [mostTo, max_if, if_pos (by assumption)]⟩
        case measure => simp [intOf]; omega
      · go_round
        case rel => exact ⟨k + 1, by omega, by go_num, by rw [mostTo, max_if, if_neg (by omega)]⟩
        case measure => simp [intOf]; omega
    · go_wp2
      go_ret
      have : k = n := by omega
      subst this
      exact ⟨rfl, rfl⟩

set_option maxHeartbeats 400000 in
theorem blocks_none (pb : Nat) (a b : Int) (w : World) (hp : w.cell? ⟨pb, 53, none⟩ = some (.slice none 0 0)) :
    Calls Try.prog 35 #[.pointer (some ⟨pb, 0, none⟩), .int .i64 a, .int .i64 b] w fun e w' => e = .returned (.bool false) ∧ w' = w := by
  go_enter Try.func35, Try.ntmps35
  go_wp2
  refine wp_loop_rounds 1 ?_
  rw [rounds_succ]
  go_wp2
  go_ret
  exact ⟨rfl, rfl⟩

/-- The window (a, b) lies under (x, y). -/
def lew (a b x y : Int) : Bool := decide (a ≤ x) && decide (b ≤ y)
theorem lew_true {a b x y : Int} (h1 : a ≤ x) (h2 : b ≤ y) : lew a b x y = true := by simp [lew, h1, h2]
theorem lew_false1 {a b x y : Int} (h1 : ¬ a ≤ x) : lew a b x y = false := by simp [lew, h1]
theorem lew_false2 {a b x y : Int} (h2 : ¬ b ≤ y) : lew a b x y = false := by simp [lew, h2]

/-- Some one of the first k windows lies under (a, b). -/
def under (f h : Nat → Int) (a b : Int) : Nat → Bool
  | 0 => false
  | k + 1 => under f h a b k || lew (f k) (h k) a b

theorem under_mono (f h : Nat → Int) (a b : Int) (k n : Nat) (hkn : k ≤ n) (hu : under f h a b k = true) : under f h a b n = true := by
  induction n with
  | zero => have : k = 0 := by omega
            subst this; exact hu
  | succ n ih =>
    by_cases e : k = n + 1
    · subst e; exact hu
    · rw [under, ih (by omega)]; rfl

set_option maxHeartbeats 400000 in
theorem blocks_some (pb g n cap : Nat) (f h : Nat → Int) (a b : Int) (w : World) (hn : n ≤ 1024) (hp : w.cell? ⟨pb, 53, none⟩ = some (.slice (some ⟨g, 0, none⟩) n cap)) (hg : g < w.heap.size)
    (hf : ∀ j, j < n → w.cell? ⟨g, j * 2, none⟩ = some (.int .i64 (f j))) (hh : ∀ j, j < n → w.cell? ⟨g, j * 2 + 1, none⟩ = some (.int .i64 (h j))) :
    Calls Try.prog 35 #[.pointer (some ⟨pb, 0, none⟩), .int .i64 a, .int .i64 b] w fun e w' => e = .returned (.bool (under f h a b n)) ∧ Below w.heap.size w w' := by
  go_enter Try.func35, Try.ntmps35
  go_wp2
  go_loopw [14] (fun i wr => ∃ k : Nat, k ≤ n ∧ i = .int .i64 k ∧ under f h a b k = false ∧ Below w.heap.size w wr) (fun i _ => n - (intOf i).toNat)
  case atStart => exact ⟨0, Nat.zero_le _, rfl, rfl, Below.refl _ _⟩
  case round =>
    obtain ⟨k, hk, rfl, hno, hb⟩ := hrel
    have HN : Hid (under f h a b k = false) := hno
    clear hno
    by_cases hlt : k < n
    · have hcf := ((bcell hb).1 g (k * 2) hg).trans (hf k hlt)
      have hch := ((bcell hb).1 g (k * 2 + 1) hg).trans (hh k hlt)
      have hsz := hb.size
      by_cases c1 : f k ≤ a
      · by_cases c2 : h k ≤ b
        · go_wp2
          go_ret
          have hu : under f h a b n = true := under_mono f h a b (k + 1) n (by omega) (by rw [under, lew_true c1 c2]; simp)
          exact ⟨by rw [hu]; rfl, hb.alloc (by omega) _⟩
        · go_wp2
          go_roundw
          case rel => exact ⟨k + 1, by omega, by go_num, by rw [under, HN.out, lew_false2 (by omega)]; rfl, hb.alloc (by omega) _⟩
          case measure => simp [intOf]; omega
      · go_wp2
        go_roundw
        case rel => exact ⟨k + 1, by omega, by go_num, by rw [under, HN.out, lew_false1 (by omega)]; rfl, hb.alloc (by omega) _⟩
        case measure => simp [intOf]; omega
    · go_wp2
      go_ret
      have : k = n := by omega
      subst this
      exact ⟨by rw [HN.out]; rfl, hb⟩

set_option maxHeartbeats 400000 in
/-- The closure of 'block': does the window lie above (a, b)? -/
theorem above_any (x y a b : Int) (c1 c2 : Nat) (w : World) (h1 : w.cell? ⟨c1, 0, none⟩ = some (.int .i64 a)) (h2 : w.cell? ⟨c2, 0, none⟩ = some (.int .i64 b)) :
    Calls Try.prog 40 #[.agg #[.int .i64 x, .int .i64 y], .pointer (some ⟨c1, 0, none⟩), .pointer (some ⟨c2, 0, none⟩)] w fun e w' => e = .returned (.bool (lew a b x y)) ∧ w' = w.alloc (.cells #[.int .i64 x, .int .i64 y] 76) := by
  have l1 := World.block_lt_of_cell? w _ h1
  have l2 := World.block_lt_of_cell? w _ h2
  by_cases d1 : a ≤ x
  · by_cases d2 : b ≤ y
    · have HE : Hid (lew a b x y = true) := lew_true d1 d2
      go_enter Try.func40, Try.ntmps40
      go_wp2
      go_ret
      exact ⟨by rw [HE.out]; rfl, rfl⟩
    · have HE : Hid (lew a b x y = false) := lew_false2 d2
      go_enter Try.func40, Try.ntmps40
      go_wp2
      go_ret
      exact ⟨by rw [HE.out]; rfl, rfl⟩
  · have HE : Hid (lew a b x y = false) := lew_false1 d1
    go_enter Try.func40, Try.ntmps40
    go_wp2
    go_ret
    exact ⟨by rw [HE.out]; rfl, rfl⟩

end Go.Proofs.Qxb6614502a
