/-
  slices.IndexFunc at windows, with the closure of 'block'.
-/
import Derived.Test.Qxb6614502aA
namespace Go.Proofs.Qxb6614502a
open Go.RowKit

theorem below_succ {p : Nat → Prop} {k : Nat} (h : ∀ j, j < k → p j) (hk : p k) : ∀ j, j < k + 1 → p j := by
  intro j hj
  by_cases e : j = k
  · rw [e]; exact hk
  · exact h j (by omega)

set_option maxHeartbeats 400000 in
theorem index_empty (fv : Value) (w : World) :
    Calls Try.prog 45 #[.slice none 0 0, fv] w fun e w' => e = .returned (.int .i64 (-1)) ∧ w' = w := by
  go_enter Try.func45, Try.ntmps45
  go_wp2
  refine wp_loop_rounds 1 ?_
  rw [rounds_succ]
  go_wp2
  go_ret
  exact ⟨rfl, rfl⟩

set_option maxHeartbeats 400000 in
theorem index_any (g n cap c1 c2 : Nat) (f h : Nat → Int) (a b : Int) (w : World) (hn : n ≤ 1024) (hg : g < w.heap.size)
    (h1 : w.cell? ⟨c1, 0, none⟩ = some (.int .i64 a)) (h2 : w.cell? ⟨c2, 0, none⟩ = some (.int .i64 b))
    (hf : ∀ j, j < n → w.cell? ⟨g, j * 2, none⟩ = some (.int .i64 (f j))) (hh : ∀ j, j < n → w.cell? ⟨g, j * 2 + 1, none⟩ = some (.int .i64 (h j))) :
    Calls Try.prog 45 #[.slice (some ⟨g, 0, none⟩) n cap, .func (.func 40) #[] #[.pointer (some ⟨c1, 0, none⟩), .pointer (some ⟨c2, 0, none⟩)]] w fun e w' => Below w.heap.size w w' ∧
      ((e = .returned (.int .i64 (-1)) ∧ ∀ j, j < n → lew a b (f j) (h j) = false) ∨ ∃ i, i < n ∧ e = .returned (.int .i64 i) ∧ lew a b (f i) (h i) = true ∧ ∀ j, j < i → lew a b (f j) (h j) = false) := by
  have l1 := World.block_lt_of_cell? w _ h1
  have l2 := World.block_lt_of_cell? w _ h2
  go_enter Try.func45, Try.ntmps45
  go_wp2
  go_loopw [8] (fun i wr => ∃ k : Nat, k ≤ n ∧ i = .int .i64 k ∧ Hid (∀ j, j < k → lew a b (f j) (h j) = false) ∧ Below w.heap.size w wr) (fun i _ => n - (intOf i).toNat)
  case atStart => exact ⟨0, Nat.zero_le _, rfl, (fun j hj => by omega), Below.refl _ _⟩
  case round =>
    obtain ⟨k, hk, rfl, HN, hb⟩ := hrel
    by_cases hlt : k < n
    · have hcf := ((bcell hb).1 g (k * 2) hg).trans (hf k hlt)
      have hch := ((bcell hb).1 g (k * 2 + 1) hg).trans (hh k hlt)
      have hc1 := ((bcell hb).1 c1 0 l1).trans h1
      have hc2 := ((bcell hb).1 c2 0 l2).trans h2
      have hsz := hb.size
      cases hl : lew a b (f k) (h k) with
      | true =>
        go_wp2_with (go_at_call 40; refine (above_any _ _ a b c1 c2 _ hc1 hc2).mono ?_; rintro e w' ⟨rfl, rfl⟩)
        go_ret
        exact ⟨hb.alloc (by omega) _, .inr ⟨k, hlt, rfl, hl, HN.out⟩⟩
      | false =>
        go_wp2_with (go_at_call 40; refine (above_any _ _ a b c1 c2 _ hc1 hc2).mono ?_; rintro e w' ⟨rfl, rfl⟩)
        go_roundw
        case rel => exact ⟨k + 1, by omega, by go_num, below_succ HN.out hl, hb.alloc (by omega) _⟩
        case measure => simp [intOf]; omega
    · go_wp2
      go_ret
      exact ⟨hb, .inl ⟨rfl, fun j hj => HN.out j (by omega)⟩⟩

end Go.Proofs.Qxb6614502a
