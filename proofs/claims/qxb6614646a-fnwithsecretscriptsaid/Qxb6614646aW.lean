/-
  lessBytes: it ends, and only reads.
-/
import Derived.Test.Qxb6614646aV
namespace Go.Proofs.Qxb6614646a
open Go.RowKit

/-- A byte of a string. -/
theorem at_get (a : ByteArray) (i : Nat) (h : i < a.size) : ∃ v : Nat, v < 256 ∧ ∀ w, (Instr.index 9 (.string a) (.int .i64 (i : Nat))).run Try.prog w = .ok (.int .u8 (v : Nat)) w := by
  refine ⟨(a[i]).toNat, (a[i]).toNat_lt, fun w => ?_⟩
  rw [run_index_string w 9 a .i64 (i : Nat) Try.underlying9, dif_pos ⟨by omega, by omega⟩]
  rfl

def byteAt (a : ByteArray) (i : Nat) : Nat := if h : i < a.size then (a[i]).toNat else 0
theorem at_val (a : ByteArray) (i : Nat) (h : i < a.size) : byteAt a i < 256 ∧ ∀ w, (Instr.index 9 (.string a) (.int .i64 (i : Nat))).run Try.prog w = .ok (.int .u8 (byteAt a i : Nat)) w := by
  unfold byteAt
  rw [dif_pos h]
  refine ⟨(a[i]).toNat_lt, fun w => ?_⟩
  rw [run_index_string w 9 a .i64 (i : Nat) Try.underlying9, dif_pos ⟨by omega, by omega⟩]
  rfl

/-- Byte order of strings, k bytes left to look at, from i on. -/
def lessAt (a b : ByteArray) : Nat → Nat → Bool
  | 0, _ => decide (a.size < b.size)
  | k + 1, i => if byteAt a i = byteAt b i then lessAt a b k (i + 1) else decide (byteAt a i < byteAt b i)
def lessB (a b : ByteArray) : Bool := lessAt a b (if b.size < a.size then b.size else a.size) 0

theorem less_same {a b : ByteArray} {N i : Nat} {z : Bool} (h : lessAt a b (N - i) i = z) (hi : i < N) (e : byteAt a i = byteAt b i) : lessAt a b (N - (i + 1)) (i + 1) = z := by
  have : N - i = N - (i + 1) + 1 := by omega
  rw [this] at h
  unfold lessAt at h
  rwa [if_pos e] at h
theorem less_diff {a b : ByteArray} {N i : Nat} {z : Bool} (h : lessAt a b (N - i) i = z) (hi : i < N) (e : byteAt a i ≠ byteAt b i) : decide (byteAt a i < byteAt b i) = z := by
  have : N - i = N - (i + 1) + 1 := by omega
  rw [this] at h
  unfold lessAt at h
  rwa [if_neg e] at h
theorem less_end {a b : ByteArray} {N i : Nat} {z : Bool} (h : lessAt a b (N - i) i = z) (hi : ¬ i < N) : decide (a.size < b.size) = z := by
  have : N - i = 0 := by omega
  rw [this] at h
  rwa [lessAt] at h

set_option maxRecDepth 100000 in
set_option maxHeartbeats 1600000 in
theorem less13_any (a b : ByteArray) (w : World) (ha : a.size ≤ 1048576) (hb : b.size ≤ 1048576) : Calls Try.prog 13 #[.string a, .string b] w fun e w' => e = .returned (.bool (lessB a b)) ∧ ∃ q, w' = w.drewN q := by
  generalize hz : lessB a b = z
  unfold lessB at hz
  by_cases hab : b.size < a.size
  · rw [if_pos hab] at hz
    have HZ : Hid (lessAt a b b.size 0 = z) := hz
    clear hz
    go_enter Try.func13, Try.ntmps13
    go_wp2
    go_loopw [6] (fun v wr => ∃ i : Nat, i ≤ b.size ∧ v = .int .i64 i ∧ lessAt a b (b.size - i) i = z ∧ ∃ q, wr = w.drewN q) (fun v _ => b.size - (intOf v).toNat)
    case atStart => exact ⟨0, by omega, rfl, HZ.out, 0, rfl⟩
    case round =>
      obtain ⟨i, hi, rfl, hl, q, rfl⟩ := hrel
      have HL : Hid (lessAt a b (b.size - i) i = z) := hl
      clear hl HZ
      by_cases hlt : i < b.size
      · obtain ⟨la, ga⟩ := at_val a i (by omega)
        obtain ⟨lb, gb⟩ := at_val b i (by omega)
        have HS := fun e => less_same HL.out hlt e
        have HD := fun e => less_diff HL.out hlt e
        generalize byteAt a i = va at *
        generalize byteAt b i = vb at *
        cases hne : ((va : Int) != (vb : Int)) with
        | true =>
          have HR : Hid (decide (va < vb) = z) := HD (by intro e; subst e; simp at hne)
          clear HS HD
          go_wp2
          go_quiet (fail)
          go_wp2
          go_quiet (fail)
          go_wp2
          go_ret
          exact ⟨congrArg (fun q => Ending.returned (Value.bool q)) HR.out, _, by rw [World.drewN_drewN, World.drewN_drewN]⟩
        | false =>
          have HR : Hid (lessAt a b (b.size - (i + 1)) (i + 1) = z) := HS (by simp at hne; omega)
          clear HS HD
          go_wp2
          go_quiet (fail)
          go_wp2
          go_roundw
          case rel => exact ⟨i + 1, by omega, by go_num, HR.out, _, rfl⟩
          case measure => simp [intOf]; omega
      · have HR : Hid (decide (a.size < b.size) = z) := less_end HL.out hlt
        go_wp2
        go_ret
        exact ⟨congrArg (fun q => Ending.returned (Value.bool q)) HR.out, _, rfl⟩
  · rw [if_neg hab] at hz
    have HZ : Hid (lessAt a b a.size 0 = z) := hz
    clear hz
    go_enter Try.func13, Try.ntmps13
    go_wp2
    go_loopw [6] (fun v wr => ∃ i : Nat, i ≤ a.size ∧ v = .int .i64 i ∧ lessAt a b (a.size - i) i = z ∧ ∃ q, wr = w.drewN q) (fun v _ => a.size - (intOf v).toNat)
    case atStart => exact ⟨0, by omega, rfl, HZ.out, 0, rfl⟩
    case round =>
      obtain ⟨i, hi, rfl, hl, q, rfl⟩ := hrel
      have HL : Hid (lessAt a b (a.size - i) i = z) := hl
      clear hl HZ
      by_cases hlt : i < a.size
      · obtain ⟨la, ga⟩ := at_val a i (by omega)
        obtain ⟨lb, gb⟩ := at_val b i (by omega)
        have HS := fun e => less_same HL.out hlt e
        have HD := fun e => less_diff HL.out hlt e
        generalize byteAt a i = va at *
        generalize byteAt b i = vb at *
        cases hne : ((va : Int) != (vb : Int)) with
        | true =>
          have HR : Hid (decide (va < vb) = z) := HD (by intro e; subst e; simp at hne)
          clear HS HD
          go_wp2
          go_quiet (fail)
          go_wp2
          go_quiet (fail)
          go_wp2
          go_ret
          exact ⟨congrArg (fun q => Ending.returned (Value.bool q)) HR.out, _, by rw [World.drewN_drewN, World.drewN_drewN]⟩
        | false =>
          have HR : Hid (lessAt a b (a.size - (i + 1)) (i + 1) = z) := HS (by simp at hne; omega)
          clear HS HD
          go_wp2
          go_quiet (fail)
          go_wp2
          go_roundw
          case rel => exact ⟨i + 1, by omega, by go_num, HR.out, _, rfl⟩
          case measure => simp [intOf]; omega
      · have HR : Hid (decide (a.size < b.size) = z) := less_end HL.out hlt
        go_wp2
        go_ret
        exact ⟨congrArg (fun q => Ending.returned (Value.bool q)) HR.out, _, rfl⟩

end Go.Proofs.Qxb6614646a
