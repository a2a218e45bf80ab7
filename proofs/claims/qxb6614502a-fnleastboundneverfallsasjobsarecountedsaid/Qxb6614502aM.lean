/-
  The leaves over words of 64 bits: add64, mul64 (the law's own), math/bits.Add64, Mul64, cmp.Compare, isZero3.
-/
import Derived.Test.Qxb6614502aRows
import Derived.Test.Qxb6614502aL
import Derived.WalkKit
import Derived.WalkSpells
import Derived.WalkLawsBesides
import Derived.StillTactics
import Derived.Laws.Pointers
import Derived.Laws.Bits64b
import Derived.Laws.Externs
import Derived.Lib.Mul64
import Derived.Deep.RegionHeld3
import Derived.Deep.QuietTactic
import Derived.BigQuiet
namespace Go.Proofs.Qxb6614502a
open Go.RowKit

theorem maskN (a : Nat) (ha : a < 18446744073709551616) : bits .and .u64 (a : Int) 4294967295 = ((a % 4294967296 : Nat) : Int) := by
  have h := bits_and_u64_nat a 4294967295 ha (by omega)
  have e : a &&& 4294967295 = a % 4294967296 := Nat.and_two_pow_sub_one_eq_mod a 32
  rw [e] at h
  exact h
theorem divN (a : Nat) : (a : Int) / 4294967296 = ((a / 4294967296 : Nat) : Int) := by omega
theorem mulN (a b : Nat) : (a : Int) * (b : Int) = ((a * b : Nat) : Int) := (Int.natCast_mul a b).symm
theorem addN (a b : Nat) : (a : Int) + (b : Int) = ((a + b : Nat) : Int) := (Int.natCast_add a b).symm
theorem wrapN (a : Nat) (ha : a < 18446744073709551616) : IntKind.u64.wrap (a : Int) = (a : Int) := by rw [IntKind.wrap_u64]; omega
theorem wrapM (a : Nat) : IntKind.u64.wrap (a : Int) = ((a % 18446744073709551616 : Nat) : Int) := by rw [IntKind.wrap_u64]; omega

set_option maxHeartbeats 1000000 in
theorem mul64_any (x y : Nat) (hx : x < 18446744073709551616) (hy : y < 18446744073709551616) (w : World) :
    Calls Try.prog 30 #[.int .u64 x, .int .u64 y] w fun e w' => e = .returned (.tuple #[.int .u64 (W.hi x y : Nat), .int .u64 (W.lo x y : Nat)]) ∧ w' = w := by
  obtain ⟨bd, bt, bw, hhi⟩ := Lib.mul64_hi x y hx hy
  have ba := Lib.half_mul_le (a := x / 4294967296) (b := y / 4294967296) (by omega) (by omega)
  have bb := Lib.half_mul_le (a := x / 4294967296) (b := y % 4294967296) (by omega) (by omega)
  have bc := Lib.half_mul_le (a := x % 4294967296) (b := y / 4294967296) (by omega) (by omega)
  have ba' : x / 4294967296 * (y / 4294967296) < 18446744073709551616 := by omega
  have bb' : x / 4294967296 * (y % 4294967296) < 18446744073709551616 := by omega
  have bc' : x % 4294967296 * (y / 4294967296) < 18446744073709551616 := by omega
  have bh1 : x / 4294967296 * (y / 4294967296) + (x / 4294967296 * (y % 4294967296) + x % 4294967296 * (y % 4294967296) / 4294967296) / 4294967296 < 18446744073709551616 := by omega
  have bh : x / 4294967296 * (y / 4294967296) + (x / 4294967296 * (y % 4294967296) + x % 4294967296 * (y % 4294967296) / 4294967296) / 4294967296 + ((x / 4294967296 * (y % 4294967296) + x % 4294967296 * (y % 4294967296) / 4294967296) % 4294967296 + x % 4294967296 * (y / 4294967296)) / 4294967296 < 18446744073709551616 := by omega
  go_enter Try.func30, Try.ntmps30
  go_wp2
  simp only [maskN x hx, maskN y hy, divN, mulN, addN, wrapN _ bd, wrapN _ bb', wrapN _ bt, maskN _ bt, wrapN _ bc', wrapN _ bw, wrapN _ ba', wrapN _ bh1, wrapN _ bh, wrapM (x * y)]
  rw [hhi]
  go_ret2
  exact ⟨rfl, rfl⟩

set_option maxHeartbeats 1000000 in
theorem bitsMul64_any (x y : Nat) (hx : x < 18446744073709551616) (hy : y < 18446744073709551616) (w : World) :
    Calls Try.prog 47 #[.int .u64 x, .int .u64 y] w fun e w' => e = .returned (.tuple #[.int .u64 (W.hi x y : Nat), .int .u64 (W.lo x y : Nat)]) ∧ w' = w := by
  obtain ⟨bd, bt, bw, hhi⟩ := Lib.mul64_hi x y hx hy
  have ba := Lib.half_mul_le (a := x / 4294967296) (b := y / 4294967296) (by omega) (by omega)
  have bb := Lib.half_mul_le (a := x / 4294967296) (b := y % 4294967296) (by omega) (by omega)
  have bc := Lib.half_mul_le (a := x % 4294967296) (b := y / 4294967296) (by omega) (by omega)
  have ba' : x / 4294967296 * (y / 4294967296) < 18446744073709551616 := by omega
  have bb' : x / 4294967296 * (y % 4294967296) < 18446744073709551616 := by omega
  have bc' : x % 4294967296 * (y / 4294967296) < 18446744073709551616 := by omega
  have bh1 : x / 4294967296 * (y / 4294967296) + (x / 4294967296 * (y % 4294967296) + x % 4294967296 * (y % 4294967296) / 4294967296) / 4294967296 < 18446744073709551616 := by omega
  have bh : x / 4294967296 * (y / 4294967296) + (x / 4294967296 * (y % 4294967296) + x % 4294967296 * (y % 4294967296) / 4294967296) / 4294967296 + ((x / 4294967296 * (y % 4294967296) + x % 4294967296 * (y % 4294967296) / 4294967296) % 4294967296 + x % 4294967296 * (y / 4294967296)) / 4294967296 < 18446744073709551616 := by omega
  go_enter Try.func47, Try.ntmps47
  go_wp2
  simp only [maskN x hx, maskN y hy, divN, mulN, addN, wrapN _ bd, wrapN _ bb', wrapN _ bt, maskN _ bt, wrapN _ bc', wrapN _ bw, wrapN _ ba', wrapN _ bh1, wrapN _ bh, wrapM (x * y)]
  rw [hhi]
  go_ret2
  exact ⟨rfl, rfl⟩

theorem bitsAdd64 (x y c : Nat) (hc : c ≤ 1) (w : World) : (callFunc 46 #[.int .u64 x, .int .u64 y, .int .u64 c]).run Try.prog w =
    .ok (.value (.tuple #[.int .u64 (W.sm x y c : Nat), .int .u64 (W.cr x y c : Nat)])) w := by
  rw [run_callFunc_extern Try.func46 (by kernel_rfl) (by kernel_rfl) (by kernel_rfl) (e := add64Entry) (by kernel_rfl), run_add64 x y c (by omega) (by omega) (by omega) (by omega)]
  simp only [Result.andThen, W.sm, W.cr]
  congr 5 <;> omega

theorem carry_top (x y c : Nat) (hx : x < 18446744073709551616) (hy : y < 18446744073709551616) (hc : c ≤ 1) :
    ((x &&& y) ||| ((x ||| y) &&& (18446744073709551615 - W.sm x y c))) / 9223372036854775808 = W.cr x y c := by
  have e : ∀ v : Nat, v / 9223372036854775808 = v >>> 63 := fun v => by rw [Nat.shiftRight_eq_div_pow]
  rw [e, Nat.shiftRight_or_distrib, Nat.shiftRight_and_distrib, Nat.shiftRight_and_distrib, Nat.shiftRight_or_distrib, ← e, ← e, ← e]
  have hs := W.sm_lt x y c
  have hx1 : x / 9223372036854775808 = 0 ∨ x / 9223372036854775808 = 1 := by omega
  have hy1 : y / 9223372036854775808 = 0 ∨ y / 9223372036854775808 = 1 := by omega
  have hs1 : (18446744073709551615 - W.sm x y c) / 9223372036854775808 = 0 ∨ (18446744073709551615 - W.sm x y c) / 9223372036854775808 = 1 := by omega
  rcases hx1 with h1 | h1 <;> rcases hy1 with h2 | h2 <;> rcases hs1 with h3 | h3 <;> rw [h1, h2, h3] <;> simp <;> unfold W.sm at h3 hs <;> unfold W.cr <;> omega

theorem or_and_lt (x y s : Nat) (hx : x < 18446744073709551616) (hy : y < 18446744073709551616) : x &&& y < 18446744073709551616 ∧ x ||| y < 18446744073709551616 ∧ (x ||| y) &&& (18446744073709551615 - s) < 18446744073709551616 :=
  ⟨Nat.and_lt_two_pow (n := 64) _ hy, Nat.or_lt_two_pow (n := 64) hx hy, Nat.and_lt_two_pow (n := 64) _ (by omega)⟩

theorem carry_bits (x y c : Nat) (hx : x < 18446744073709551616) (hy : y < 18446744073709551616) (hc : c ≤ 1) :
    bits BinOp.or IntKind.u64 (bits BinOp.and IntKind.u64 x y) (bits BinOp.andNot IntKind.u64 (bits BinOp.or IntKind.u64 x y) ((W.sm x y c : Nat) : Int)) / 9223372036854775808 = ((W.cr x y c : Nat) : Int) := by
  obtain ⟨h1, h2, h3⟩ := or_and_lt x y (W.sm x y c) hx hy
  rw [bits_and_u64_nat x y hx hy, bits_or_u64_nat x y hx hy, u64_andNot_nat _ _ h2 (W.sm_lt x y c), bits_or_u64_nat _ _ h1 h3, ← carry_top x y c hx hy hc]
  omega

theorem sum_wrap (x y c : Nat) : IntKind.u64.wrap (IntKind.u64.wrap ((x : Int) + (y : Int)) + (c : Int)) = ((W.sm x y c : Nat) : Int) := by
  rw [IntKind.wrap_u64, IntKind.wrap_u64]; unfold W.sm; omega

set_option maxHeartbeats 1000000 in
theorem add64_any (x y c : Nat) (hx : x < 18446744073709551616) (hy : y < 18446744073709551616) (hc : c ≤ 1) (w : World) :
    Calls Try.prog 31 #[.int .u64 x, .int .u64 y, .int .u64 c] w fun e w' => e = .returned (.tuple #[.int .u64 (W.sm x y c : Nat), .int .u64 (W.cr x y c : Nat)]) ∧ w' = w := by
  go_enter Try.func31, Try.ntmps31
  go_wp2
  rw [sum_wrap x y c, carry_bits x y c hx hy hc]
  go_ret2
  exact ⟨rfl, rfl⟩

/-- The carry in is the literal 0. -/
theorem add64_0 (x y : Nat) (hx : x < 18446744073709551616) (hy : y < 18446744073709551616) (w : World) :
    Calls Try.prog 31 #[.int .u64 x, .int .u64 y, .int .u64 0] w fun e w' => e = .returned (.tuple #[.int .u64 (W.sm x y 0 : Nat), .int .u64 (W.cr x y 0 : Nat)]) ∧ w' = w := by
  have := add64_any x y 0 hx hy (by omega) w
  simpa using this

set_option maxHeartbeats 400000 in
theorem compare_any (x y : Nat) (w : World) :
    Calls Try.prog 49 #[.int .u64 x, .int .u64 y] w fun e w' => e = .returned (.int .i64 (W.cmp1 x y)) ∧ w' = w := by
  by_cases h1 : x < y
  · have HE : Hid (W.cmp1 x y = -1) := W.cmp1_lt h1
    go_enter Try.func49, Try.ntmps49
    go_wp2
    go_ret
    exact ⟨by rw [HE.out]; rfl, rfl⟩
  · by_cases h2 : y < x
    · have HE : Hid (W.cmp1 x y = 1) := W.cmp1_gt h2
      go_enter Try.func49, Try.ntmps49
      go_wp2
      go_ret
      exact ⟨by rw [HE.out]; rfl, rfl⟩
    · have HE : Hid (W.cmp1 x y = 0) := W.cmp1_eq h1 h2
      go_enter Try.func49, Try.ntmps49
      go_wp2
      go_ret
      exact ⟨by rw [HE.out]; rfl, rfl⟩

/-- math/bits.Add64, the carry in the literal 0. -/
theorem bitsAdd64_0 (x y : Nat) (w : World) : (callFunc 46 #[.int .u64 x, .int .u64 y, .int .u64 0]).run Try.prog w =
    .ok (.value (.tuple #[.int .u64 (W.sm x y 0 : Nat), .int .u64 (W.cr x y 0 : Nat)])) w := bitsAdd64 x y 0 (by omega) w

/-- Old cells and old marks read as before. -/
theorem bcellM {B : Nat} {W w1 : World} (hb : Below B W w1) : (∀ b o, b < B → w1.cell? ⟨b, o, none⟩ = W.cell? ⟨b, o, none⟩) ∧ (∀ b o, b < B → w1.frozen? ⟨b, o, none⟩ = W.frozen? ⟨b, o, none⟩) :=
  ⟨fun b o h => hb.cell (p := ⟨b, o, none⟩) h, fun b o h => hb.frozen (p := ⟨b, o, none⟩) h⟩

/-- Six words at block pb. -/
structure Six (w : World) (pb : Nat) (P : Nat → Nat) : Prop where
  row : ∃ cs : Array Value, w.heap[pb]? = some (.cells cs 62 (0, 0)) ∧ cs.size = 6 ∧ ∀ j, j < 6 → cs[j]? = some (.int .u64 (P j : Nat))

theorem Six.cell {w : World} {pb : Nat} {P : Nat → Nat} (h : Six w pb P) (j : Nat) (hj : j < 6) : w.cell? ⟨pb, j, none⟩ = some (.int .u64 (P j : Nat)) := by
  obtain ⟨cs, hr, hs, hc⟩ := h.row
  rw [cell_of_row w pb j cs 62 _ hr]; exact hc j hj
theorem Six.free {w : World} {pb : Nat} {P : Nat → Nat} (h : Six w pb P) (j : Nat) : w.frozen? ⟨pb, j, none⟩ = false := by
  obtain ⟨cs, hr, hs, hc⟩ := h.row
  simp [World.frozen?, hr]
theorem Six.lt {w : World} {pb : Nat} {P : Nat → Nat} (h : Six w pb P) : pb < w.heap.size := by
  obtain ⟨cs, hr, hs, hc⟩ := h.row
  exact (Array.getElem?_eq_some_iff.1 hr).1
theorem Six.put {w : World} {pb : Nat} {P : Nat → Nat} (h : Six w pb P) (i v : Nat) (hi : i < 6) : Six (w.setCell ⟨pb, i, none⟩ (.int .u64 (v : Nat))) pb (W.upd P i v) := by
  have hlt := h.lt
  obtain ⟨cs, hr, hs, hc⟩ := h.row
  have h' : w.heap[pb] = .cells cs 62 (0, 0) := by simpa [Array.getElem?_eq_getElem hlt] using hr
  refine ⟨⟨cs.setIfInBounds i (.int .u64 (v : Nat)), ?_, by simpa using hs, fun j hj => ?_⟩⟩
  · show (w.heap.modify pb _)[pb]? = _
    rw [Array.getElem?_eq_getElem (by simpa using hlt), Array.getElem_modify_self, h']
    rfl
  · rw [Array.getElem?_setIfInBounds]
    unfold W.upd
    by_cases e : i = j
    · subst e; rw [if_pos rfl, if_pos (by omega), if_pos rfl]
    · rw [if_neg e, if_neg (fun h => e h.symm)]; exact hc j hj
theorem Six.congr {w : World} {pb : Nat} {P Q : Nat → Nat} (h : Six w pb P) (e : ∀ j, P j = Q j) : Six w pb Q := by
  have : P = Q := funext e
  rw [← this]; exact h
theorem Six.below {w w' : World} {pb B : Nat} {P : Nat → Nat} (h : Six w pb P) (hb : Below B w w') (hB : pb < B) : Six w' pb P := by
  obtain ⟨cs, hr, hs, hc⟩ := h.row
  exact ⟨⟨cs, (hb.block pb hB).trans hr, hs, hc⟩⟩

end Go.Proofs.Qxb6614502a
