/-
  validUTF8: it ends, and leaves the world.
-/
import Derived.Test.Qxb6614646aW
import Derived.Deep.DeepCutAuto
namespace Go.Proofs.Qxb6614646a
open Go.RowKit

theorem at_get' (a : ByteArray) (i k : Nat) (h : i + k < a.size) : ∃ v : Nat, v < 256 ∧ ∀ w, (Instr.index 9 (.string a) (.int .i64 ((i : Int) + (k : Nat)))).run Try.prog w = .ok (.int .u8 (v : Nat)) w := by
  have := at_get a (i + k) h
  rwa [Int.natCast_add] at this

/-- Some bool. -/
def SomeB (e : Ending) : Prop := ∃ z, e = .returned (.bool z)

set_option maxRecDepth 100000 in
set_option maxHeartbeats 12800000 in
theorem utf12_any (a : ByteArray) (w : World) (ha : a.size ≤ 1048576) : Calls Try.prog 12 #[.string a] w fun e w' => SomeB e ∧ w' = w := by
  go_enter Try.func12, Try.ntmps12
  go_wp2
  go_loopw [3] (fun v wr => ∃ i : Nat, i ≤ a.size ∧ v = .int .i64 i ∧ wr = w) (fun v _ => a.size - (intOf v).toNat)
  case atStart => exact ⟨0, by omega, rfl, rfl⟩
  case round =>
    obtain ⟨i, hi, rfl, rfl⟩ := hrel
    by_cases hlt : i < a.size
    · obtain ⟨v0, l0, g0⟩ := at_get a i (by omega)
      by_cases h1 : (v0 : Int) < 128
      · have eh1 : decide ((v0 : Int) < 128) = true := decide_eq_true h1
        go_wp2
        go_roundw
        case rel => exact ⟨i + 1, by omega, by go_num, trivial⟩
        case measure => simp [intOf]; omega
      · have eh1 : decide ((v0 : Int) < 128) = false := decide_eq_false h1
        by_cases h2 : (v0 : Int) < 194
        · have eh2 : decide ((v0 : Int) < 194) = true := decide_eq_true h2
          go_wp2
          go_ret
          exact ⟨⟨_, rfl⟩, rfl⟩
        · have eh2 : decide ((v0 : Int) < 194) = false := decide_eq_false h2
          by_cases h3 : (v0 : Int) < 224
          · have eh3 : decide ((v0 : Int) < 224) = true := decide_eq_true h3
            by_cases hs : (a.size : Int) ≤ (i : Int) + 1
            · have ehs : decide ((a.size : Int) ≤ (i : Int) + 1) = true := decide_eq_true hs
              go_wp2
              go_ret
              exact ⟨⟨_, rfl⟩, rfl⟩
            · have ehs : decide ((a.size : Int) ≤ (i : Int) + 1) = false := decide_eq_false hs
              obtain ⟨v1, l1, g1⟩ : ∃ v : Nat, v < 256 ∧ ∀ w, (Instr.index 9 (.string a) (.int .i64 ((i : Int) + 1))).run Try.prog w = .ok (.int .u8 (v : Nat)) w := at_get' a i 1 (by omega)
              clear l1
              by_cases b1 : (v1 : Int) < 128
              · have eb1 : decide ((v1 : Int) < 128) = true := decide_eq_true b1
                go_wp2
                go_ret
                exact ⟨⟨_, rfl⟩, rfl⟩
              · have eb1 : decide ((v1 : Int) < 128) = false := decide_eq_false b1
                by_cases c1 : (191 : Int) < v1
                · have ec1 : decide ((191 : Int) < v1) = true := decide_eq_true c1
                  go_wp2
                  go_ret
                  exact ⟨⟨_, rfl⟩, rfl⟩
                · have ec1 : decide ((191 : Int) < v1) = false := decide_eq_false c1
                  go_wp2
                  go_roundw
                  case rel => exact ⟨i + 2, by omega, by go_num, trivial⟩
                  case measure => simp [intOf]; omega
          · have eh3 : decide ((v0 : Int) < 224) = false := decide_eq_false h3
            by_cases h4 : (v0 : Int) < 240
            · have eh4 : decide ((v0 : Int) < 240) = true := decide_eq_true h4
              go_upto_if 48 with fail
              go_cut [5] (fun v wx => ∃ lo : Nat, lo < 256 ∧ v = .int .u8 (lo : Nat) ∧ wx = wr)
              case first =>
                by_cases h5 : v0 = 224
                · subst h5
                  go_wp2_with fail
                  go_meet
                  case rel => exact ⟨160, by omega, rfl, rfl⟩
                · have e5 : ((v0 : Int) == 224) = false := by simp; omega
                  go_wp2_with fail
                  go_meet
                  case rel => exact ⟨128, by omega, rfl, rfl⟩
              case rest =>
                obtain ⟨lo, hlo, rfl, hwx⟩ := hcut
                replace hwx := hwx.symm
                subst hwx
                go_upto_if 50 with fail
                go_cut [6] (fun v wx => ∃ hi : Nat, hi < 256 ∧ v = .int .u8 (hi : Nat) ∧ wx = wr)
                case first =>
                  by_cases h5 : v0 = 237
                  · subst h5
                    go_wp2_with fail
                    go_meet
                    case rel => exact ⟨159, by omega, rfl, rfl⟩
                  · have e5 : ((v0 : Int) == 237) = false := by simp; omega
                    go_wp2_with fail
                    go_meet
                    case rel => exact ⟨191, by omega, rfl, rfl⟩
                case rest =>
                  obtain ⟨hi, hhi, rfl, hwx⟩ := hcut
                  replace hwx := hwx.symm
                  subst hwx
                  by_cases hs : (a.size : Int) ≤ (i : Int) + 2
                  · have ehs : decide ((a.size : Int) ≤ (i : Int) + 2) = true := decide_eq_true hs
                    go_wp2
                    go_ret
                    exact ⟨⟨_, rfl⟩, rfl⟩
                  · have ehs : decide ((a.size : Int) ≤ (i : Int) + 2) = false := decide_eq_false hs
                    obtain ⟨v1, l1, g1⟩ : ∃ v : Nat, v < 256 ∧ ∀ w, (Instr.index 9 (.string a) (.int .i64 ((i : Int) + 1))).run Try.prog w = .ok (.int .u8 (v : Nat)) w := at_get' a i 1 (by omega)
                    clear l1
                    by_cases b1 : v1 < lo
                    · have eb1 : decide (v1 < lo) = true := decide_eq_true b1
                      go_wp2
                      go_ret
                      exact ⟨⟨_, rfl⟩, rfl⟩
                    · have eb1 : decide (v1 < lo) = false := decide_eq_false b1
                      by_cases c1 : hi < v1
                      · have ec1 : decide (hi < v1) = true := decide_eq_true c1
                        go_wp2
                        go_ret
                        exact ⟨⟨_, rfl⟩, rfl⟩
                      · have ec1 : decide (hi < v1) = false := decide_eq_false c1
                        obtain ⟨v2, l2, g2⟩ : ∃ v : Nat, v < 256 ∧ ∀ w, (Instr.index 9 (.string a) (.int .i64 ((i : Int) + 2))).run Try.prog w = .ok (.int .u8 (v : Nat)) w := at_get' a i 2 (by omega)
                        clear l2
                        by_cases b2 : (v2 : Int) < 128
                        · have eb2 : decide ((v2 : Int) < 128) = true := decide_eq_true b2
                          go_wp2
                          go_ret
                          exact ⟨⟨_, rfl⟩, rfl⟩
                        · have eb2 : decide ((v2 : Int) < 128) = false := decide_eq_false b2
                          by_cases c2 : (191 : Int) < v2
                          · have ec2 : decide ((191 : Int) < v2) = true := decide_eq_true c2
                            go_wp2
                            go_ret
                            exact ⟨⟨_, rfl⟩, rfl⟩
                          · have ec2 : decide ((191 : Int) < v2) = false := decide_eq_false c2
                            go_wp2
                            go_roundw
                            case rel => exact ⟨i + 3, by omega, by go_num, trivial⟩
                            case measure => simp [intOf]; omega
            · have eh4 : decide ((v0 : Int) < 240) = false := decide_eq_false h4
              by_cases h7 : (v0 : Int) < 245
              · have eh7 : decide ((v0 : Int) < 245) = true := decide_eq_true h7
                go_upto_if 91 with fail
                go_cut [7] (fun v wx => ∃ lo : Nat, lo < 256 ∧ v = .int .u8 (lo : Nat) ∧ wx = wr)
                case first =>
                  by_cases h5 : v0 = 240
                  · subst h5
                    go_wp2_with fail
                    go_meet
                    case rel => exact ⟨144, by omega, rfl, rfl⟩
                  · have e5 : ((v0 : Int) == 240) = false := by simp; omega
                    go_wp2_with fail
                    go_meet
                    case rel => exact ⟨128, by omega, rfl, rfl⟩
                case rest =>
                  obtain ⟨lo, hlo, rfl, hwx⟩ := hcut
                  replace hwx := hwx.symm
                  subst hwx
                  go_upto_if 93 with fail
                  go_cut [8] (fun v wx => ∃ hi : Nat, hi < 256 ∧ v = .int .u8 (hi : Nat) ∧ wx = wr)
                  case first =>
                    by_cases h5 : v0 = 244
                    · subst h5
                      go_wp2_with fail
                      go_meet
                      case rel => exact ⟨143, by omega, rfl, rfl⟩
                    · have e5 : ((v0 : Int) == 244) = false := by simp; omega
                      go_wp2_with fail
                      go_meet
                      case rel => exact ⟨191, by omega, rfl, rfl⟩
                  case rest =>
                    obtain ⟨hi, hhi, rfl, hwx⟩ := hcut
                    replace hwx := hwx.symm
                    subst hwx
                    by_cases hs : (a.size : Int) ≤ (i : Int) + 3
                    · have ehs : decide ((a.size : Int) ≤ (i : Int) + 3) = true := decide_eq_true hs
                      go_wp2
                      go_ret
                      exact ⟨⟨_, rfl⟩, rfl⟩
                    · have ehs : decide ((a.size : Int) ≤ (i : Int) + 3) = false := decide_eq_false hs
                      obtain ⟨v1, l1, g1⟩ : ∃ v : Nat, v < 256 ∧ ∀ w, (Instr.index 9 (.string a) (.int .i64 ((i : Int) + 1))).run Try.prog w = .ok (.int .u8 (v : Nat)) w := at_get' a i 1 (by omega)
                      clear l1
                      by_cases b1 : v1 < lo
                      · have eb1 : decide (v1 < lo) = true := decide_eq_true b1
                        go_wp2
                        go_ret
                        exact ⟨⟨_, rfl⟩, rfl⟩
                      · have eb1 : decide (v1 < lo) = false := decide_eq_false b1
                        by_cases c1 : hi < v1
                        · have ec1 : decide (hi < v1) = true := decide_eq_true c1
                          go_wp2
                          go_ret
                          exact ⟨⟨_, rfl⟩, rfl⟩
                        · have ec1 : decide (hi < v1) = false := decide_eq_false c1
                          obtain ⟨v2, l2, g2⟩ : ∃ v : Nat, v < 256 ∧ ∀ w, (Instr.index 9 (.string a) (.int .i64 ((i : Int) + 2))).run Try.prog w = .ok (.int .u8 (v : Nat)) w := at_get' a i 2 (by omega)
                          clear l2
                          by_cases b2 : (v2 : Int) < 128
                          · have eb2 : decide ((v2 : Int) < 128) = true := decide_eq_true b2
                            go_wp2
                            go_ret
                            exact ⟨⟨_, rfl⟩, rfl⟩
                          · have eb2 : decide ((v2 : Int) < 128) = false := decide_eq_false b2
                            by_cases c2 : (191 : Int) < v2
                            · have ec2 : decide ((191 : Int) < v2) = true := decide_eq_true c2
                              go_wp2
                              go_ret
                              exact ⟨⟨_, rfl⟩, rfl⟩
                            · have ec2 : decide ((191 : Int) < v2) = false := decide_eq_false c2
                              obtain ⟨v3, l3, g3⟩ : ∃ v : Nat, v < 256 ∧ ∀ w, (Instr.index 9 (.string a) (.int .i64 ((i : Int) + 3))).run Try.prog w = .ok (.int .u8 (v : Nat)) w := at_get' a i 3 (by omega)
                              clear l3
                              by_cases b3 : (v3 : Int) < 128
                              · have eb3 : decide ((v3 : Int) < 128) = true := decide_eq_true b3
                                go_wp2
                                go_ret
                                exact ⟨⟨_, rfl⟩, rfl⟩
                              · have eb3 : decide ((v3 : Int) < 128) = false := decide_eq_false b3
                                by_cases c3 : (191 : Int) < v3
                                · have ec3 : decide ((191 : Int) < v3) = true := decide_eq_true c3
                                  go_wp2
                                  go_ret
                                  exact ⟨⟨_, rfl⟩, rfl⟩
                                · have ec3 : decide ((191 : Int) < v3) = false := decide_eq_false c3
                                  go_wp2
                                  go_roundw
                                  case rel => exact ⟨i + 4, by omega, by go_num, trivial⟩
                                  case measure => simp [intOf]; omega
              · have eh7 : decide ((v0 : Int) < 245) = false := decide_eq_false h7
                go_wp2
                go_ret
                exact ⟨⟨_, rfl⟩, rfl⟩
    · go_wp2
      go_ret
      exact ⟨⟨_, rfl⟩, rfl⟩

end Go.Proofs.Qxb6614646a
