/-
  FnWithSecretScript: the bound on lengths, the tests of strings.
-/
import Derived.Test.Qxb6614646aS
namespace Go.Proofs.Qxb6614646a
open Go.RowKit

/-- A slice of strings, as the walk is told. -/
def IsStrs (w : World) (a : Option Addr) (n : Nat) (U : Nat → ByteArray) : Prop := n ≤ maxLen ∧ (∀ j, j < n → (U j).size ≤ maxLen) ∧ (0 < n → ∃ b o, a = some ⟨b, o, none⟩ ∧ b < w.heap.size ∧ ∀ j, j < n → w.cell? ⟨b, o + j, none⟩ = some (.string (U j)))

theorem le_step {U : Nat → ByteArray} {i N : Nat} (h : ∀ j, j < i → (U j).size ≤ N) (hi : (U i).size ≤ N) : ∀ j, j < i + 1 → (U j).size ≤ N := fun j hj => by
  by_cases e : j = i
  · rw [e]; exact hi
  · exact h j (by omega)

set_option maxRecDepth 100000 in
set_option maxHeartbeats 1600000 in
theorem bytes11_any (x : Nat) (a b : Option Addr) (n c m d : Nat) (U : Nat → ByteArray) (w : World) (h : IsStrs w a n U) (hm : m ≤ maxLen) :
    Calls Try.prog 11 #[.float .f64 x, .slice a n c, .slice b m d] w fun e w' => ∃ z, e = .returned (.bool z) ∧ w' = w ∧ (z = true → ∀ j, j < n → (U j).size ≤ 1048576) := by
  obtain ⟨hn, hl, hc⟩ := h
  have HL := show Hid _ from hl
  have HC := show Hid _ from hc
  clear hl hc
  unfold maxLen at hn hm
  by_cases h1 : 1048576 < n
  · go_enter Try.func11, Try.ntmps11
    go_wp2
    go_ret
    exact ⟨_, rfl, rfl, fun h => by cases h⟩
  · go_enter Try.func11, Try.ntmps11
    go_wp2
    go_loopw [7, 8] (fun v7 v8 wr => ∃ i t : Nat, i ≤ n ∧ t ≤ 1048576 ∧ v8 = .int .i64 i ∧ v7 = .int .i64 t ∧ (∀ j, j < i → (U j).size ≤ 1048576) ∧ wr = w) (fun _ v _ => n - (intOf v).toNat)
    case atStart => exact ⟨0, n, by omega, by omega, rfl, rfl, fun j hj => by omega, rfl⟩
    case round =>
      obtain ⟨i, t, hi, ht, rfl, rfl, hall, rfl⟩ := hrel
      have HA : Hid (∀ j, j < i → (U j).size ≤ 1048576) := hall
      clear hall
      by_cases hlt : i < n
      · obtain ⟨ub, uo, rfl, hub, hcu⟩ := HC.out (by omega)
        have cu := hcu i hlt
        have lu := HL.out i hlt
        unfold maxLen at lu
        obtain ⟨u, hue⟩ : ∃ u, u = U i := ⟨_, rfl⟩
        have HUE : Hid (u = U i) := hue
        rw [← hue] at cu lu
        clear hue
        clear hcu
        by_cases h2 : 1048576 < u.size
        · go_wp2
          go_ret
          exact ⟨_, rfl, rfl, fun h => by cases h⟩
        · by_cases h3 : 1048576 < t + u.size
          · go_wp2
            go_ret
            exact ⟨_, rfl, rfl, fun h => by cases h⟩
          · go_wp2
            go_roundw
            case rel => exact ⟨i + 1, t + u.size, by omega, by omega, by go_num, by go_num, le_step HA.out (by rw [← HUE.out]; omega), trivial⟩
            case measure => simp [intOf]; omega
      · have hin : n = i := by omega
        subst hin
        by_cases h4 : 1048576 < m
        · go_wp2
          go_ret
          exact ⟨_, rfl, rfl, fun h => by cases h⟩
        · by_cases h5 : 1048576 < t + m
          · go_wp2
            go_ret
            exact ⟨_, rfl, rfl, fun h => by cases h⟩
          · go_wp2
            go_ret
            exact ⟨_, rfl, rfl, fun _ => HA.out⟩

end Go.Proofs.Qxb6614646a
