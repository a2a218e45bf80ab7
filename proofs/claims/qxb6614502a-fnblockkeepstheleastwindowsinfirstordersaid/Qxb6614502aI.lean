/-
  FnBlockKeepsTheLeastWindowsInFirstOrder: its callees and its walk.
-/
import Derived.Test.Qxb6614502aH
namespace Go.Proofs.Qxb6614502a
open Go.RowKit

set_option maxHeartbeats 400000 in
theorem bytes18_any (a1 a2 : Option Addr) (n1 c1 n2 c2 : Nat) (w : World) (h1 : n1 ≤ maxLen) (h2 : n2 ≤ maxLen) :
    Calls Try.prog 18 #[.slice a1 n1 c1, .slice a2 n2 c2] w fun e w' => ∃ z, e = .returned (.bool z) ∧ w' = w := by
  unfold maxLen at h1 h2
  go_enter Try.func18, Try.ntmps18
  go_wp2
  all_goals (go_ret; exact ⟨_, rfl, rfl⟩)

set_option maxHeartbeats 400000 in
theorem len22_any {w : World} {pb fb n : Nat} {f : Nat → Int} {B : List (Int × Int)} (h : Plan w pb fb n f B) :
    Calls Try.prog 22 #[.pointer (some ⟨pb, 0, none⟩)] w fun e w' => e = .returned (.int .i64 B.length) ∧ w' = w := by
  obtain ⟨v, hv, hown⟩ := h.blk
  obtain ⟨ad, c, rfl⟩ := ownsRow_shape hown
  clear hown h
  go_enter Try.func22, Try.ntmps22
  go_wp2
  go_ret
  exact ⟨rfl, rfl⟩

set_option maxHeartbeats 400000 in
theorem at23_any {w : World} {pb fb n : Nat} {f : Nat → Int} {B : List (Int × Int)} (h : Plan w pb fb n f B) (i : Nat) (hi : i < B.length) :
    Calls Try.prog 23 #[.pointer (some ⟨pb, 0, none⟩), .int .i64 i] w fun e w' => e = .returned (.tuple #[.int .i64 (fx B i), .int .i64 (fy B i)]) ∧ ∃ q, w' = w.drewN q := by
  obtain ⟨v, hv, hl, ho⟩ := h.blk
  rcases ho with ⟨rfl, h0⟩ | ⟨g, cap, cur, rfl, hg, hrow, hnc, hcm, hcs, htake⟩
  · omega
  · have e1 : w.cell? ⟨g, i * 2, none⟩ = some (.int .i64 (fx B i)) := by rw [cell_of_row w g _ cur 76 _ hrow]; exact (cells_of_take htake i hi).1
    have e2 : w.cell? ⟨g, i * 2 + 1, none⟩ = some (.int .i64 (fy B i)) := by rw [cell_of_row w g _ cur 76 _ hrow]; exact (cells_of_take htake i hi).2
    have i1 : (0 : Int) ≤ (i : Int) := by omega
    have i2 : (i : Int) < (B.length : Int) := by omega
    clear hl hrow hcs htake h
    go_enter Try.func23, Try.ntmps23
    go_wp2
    go_quiet (fail)
    go_wp2
    go_ret2
    exact ⟨rfl, _, rfl⟩

end Go.Proofs.Qxb6614502a
