/-
  FnMakerNumberScript: from the walk to the given statement.
-/
import Derived.Test.Qxb6614646aI
import Derived.ProofKit
import Derived.OpenShut
import Derived.ChangeOld
import Derived.Deep.Slices
namespace Go.Proofs.Qxb6614646a
open Go.ChangeShapes Go.WideShapes Go.ChangeAt Go.RowKit

theorem own : ownKnob Try.prog.godebug = none := by kernel_rfl
theorem laidOut : laidOutB Try.prog = true := by kernel_rfl

theorem add_plain (b off i : Nat) : (⟨b, off, none⟩ : Addr).add i = ⟨b, off + i, none⟩ := by simp [Addr.add]

/-- A float's cell, read. -/
theorem trod_float {H : Type} {enc : TypeId × Value → H} {P : Program} {w : World} {base : Nat} {spare : Nat → Bool} {held : Bool} {fuel : Nat} {t : TypeId} {cs : List Value} {x : DataW H × List MemPlace} {k : FloatKind}
    (ht : P.underlying t = some (.float k)) (h : DataW.trod enc P w base spare held fuel t cs = some x) : ∃ b, cs = [.float k b] ∧ (Lit.float k b).wf = true := by
  cases fuel with
  | zero => simp [DataW.trod] at h
  | succ n =>
    unfold DataW.trod at h
    rw [ht] at h
    split at h <;> simp_all
theorem trod_flt {H : Type} {enc : TypeId × Value → H} {W : World} {n : Nat} {v : Value} {y : DataW H × List MemPlace} (h : DataW.trod enc Try.prog W 0 (fun _ => true) true n 46 [v] = some y) : ∃ b : Nat, b < 18446744073709551616 ∧ v = .float .f64 b := by
  obtain ⟨b, hb, hw⟩ := trod_float Try.underlying46 h
  simp only [List.cons.injEq, and_true] at hb
  exact ⟨b, of_decide_eq_true hw, hb⟩

/-- What the walk is told of a slice of floats that came in. -/
def IsFlts (w : World) (a : Option Addr) (len : Nat) (X : Nat → Nat) : Prop :=
  len ≤ maxLen ∧ (∀ j, j < len → X j < 18446744073709551616) ∧ (0 < len → ∃ xb xo, a = some ⟨xb, xo, none⟩ ∧ xb < w.heap.size ∧ ∀ j, j < len → w.cell? ⟨xb, xo + j, none⟩ = some (.float .f64 (X j)))

theorem flts_of {H : Type} {enc : TypeId × Value → H} {W : World} {a0 : Option Addr} {len0 cap0 fuel : Nat} {x : DataW H × List MemPlace}
    (hf : DataW.trod enc Try.prog W 0 (fun _ => true) true fuel 22 (Value.slice a0 len0 cap0).cells.toList = some x) : ∃ X, IsFlts W a0 len0 X := by
  rcases Go.Deep.open_slice1 Try.underlying22 (by kernel_rfl) hf with ⟨hcs, _⟩ | ⟨x, l, c, m, n, V, D, Pl, hcs, _, hl, hm, hmm, _, hall⟩
  · simp [Value.cells] at hcs
    obtain ⟨rfl, rfl, rfl⟩ := hcs
    exact ⟨fun _ => 0, by unfold maxLen; omega, fun j hj => by omega, fun h => by omega⟩
  · simp [Value.cells] at hcs
    obtain ⟨rfl, rfl, rfl⟩ := hcs
    have hmm' : m = cap0 := by simpa using hmm
    have each : ∀ i, i < cap0 → ∃ q : Nat, q < 18446744073709551616 ∧ W.cell? (x.add i) = some (.float .f64 q) := by
      intro i hi
      obtain ⟨e0, t0⟩ := hall i (by omega)
      obtain ⟨b, hb, hv⟩ := trod_flt t0
      rw [hv] at e0
      exact ⟨b, hb, e0⟩
    obtain ⟨q, hq⟩ := Go.Deep.choose_lt each
    refine ⟨q, by omega, fun j hj => (hq j (by omega)).1, fun h => ?_⟩
    obtain ⟨b, off, spot⟩ := x
    have hc := (hq 0 (by omega)).2
    have hspot : spot = none := by simpa [Addr.add] using World.cell?_spot hc
    subst hspot
    refine ⟨b, off, rfl, World.block_lt_of_cell? W _ hc, fun j hj => ?_⟩
    rw [← add_plain]
    exact (hq j (by omega)).2

set_option maxHeartbeats 1600000 in
/-- The length shuts the law's own domain: it answers true at once. -/
theorem script_out (a : Option Addr) (n c : Nat) (w : World) (h1 : n ≤ maxLen) (h : 65536 < n) : Calls Try.prog 3 #[.slice a n c] w fun e w' => e = .returned (.bool true) ∧ Below w.heap.size w w' := by
  have h7 := fun wx => bytes7_any a n c wx h1
  unfold maxLen at h1
  go_enter Try.func3, Try.ntmps3
  go_wp2_with fail
  refine (h7 _).mono ?_
  rintro e w' ⟨z, rfl, hw⟩
  rw [hw]
  clear h7 hw
  cases z with
  | false =>
    go_wp2
    go_ret
    exact ⟨rfl, Below.refl _ _⟩
  | true =>
    go_wp2
    go_ret
    exact ⟨rfl, Below.refl _ _⟩

theorem script_any (a : Option Addr) (n c : Nat) (X : Nat → Nat) (w : World) (h : IsFlts w a n X) : Calls Try.prog 3 #[.slice a n c] w fun e w' => e = .returned (.bool true) ∧ Below w.heap.size w w' := by
  obtain ⟨h1, h2, h3⟩ := h
  by_cases hn : 65536 < n
  · exact script_out a n c w h1 hn
  · exact script_main n c a X w (by omega) h2 h3

set_option maxRecDepth 100000 in
theorem script_lifted (os : Os) (started : os.Started) (H : Type) (enc : TypeId × Value → H) :
    ReturnsInHanded {} Try.checked os 3 .any (Rows.fnMakerNumberScriptSpec.pre6 enc Try.prog Try.f3 Rows.fnMakerNumberScriptRow.domain false) (Rows.fnMakerNumberScriptSpec.post enc Try.prog Try.f3 false true false false) := by
  refine returnsInHanded_of_change (C := Try.checked) own started (by kernel_rfl) Try.func3
    (ChangeSpec.witness6 (enc := enc) (C := Try.checked) false ⟨#[], #[.slice none 0 0], []⟩ 8 (by kernel_rfl) (by kernel_rfl) (by kernel_rfl) (by kernel_rfl)) ?_
  intro W base args ds gs before hval0 hW hcnd _
  have hval : ∀ (j : Nat) t v, Try.f3.params[j]? = some t → args[j]? = some v → Value.okWide Try.prog W .any base t v := hval0
  have hW' := hW
  obtain ⟨p, q, hA0, hV, rfl, hfz, hnd⟩ := hW
  have hA : DataW.TrodAll enc Try.prog W 0 (fun _ => true) true Try.f3.params.toList args.toList ds p := hA0
  rw [Try.params3] at hA hval
  obtain ⟨v0, vs0, d0, ds0, p0, q0, hargs, rfl, rfl, h0, r0⟩ := trodAll_cons hA
  obtain ⟨rfl, rfl, rfl⟩ := trodAll_nil r0
  obtain rfl : args = #[v0] := by cases args; simp_all
  obtain ⟨rfl, rfl⟩ := trodVars_none hV
  obtain ⟨a0, len0, cap0, rfl⟩ := okWide_slice Try.underlying22 (hval 0 22 v0 rfl rfl)
  have k0 := h0
  have lt0 : ∀ x ∈ p0, x.block < W.heap.size := by obtain ⟨m, hm⟩ := k0; exact DataW.trod_lt m _ _ _ hm
  obtain ⟨X, w0⟩ : ∃ X, IsFlts W a0 len0 X := by obtain ⟨fuel, hf⟩ := h0; exact flts_of hf
  clear hA0 hval0
  refine (script_any a0 len0 cap0 X W w0).mono fun e W' ⟨he, bel⟩ => ?_
  subst he
  exact ⟨_, rfl, _, _, _, [], _, [], hW', trodAll_mk1 (shut_bool Try.underlying4 _), (trodAll_cons_mk (Below.trod laidOut (by kernel_rfl) (of_decide_eq_true (by kernel_rfl)) k0 bel lt0) trodAll_mk0), rfl, bel.frame _, fun h => by cases h⟩

/-- The given statement. -/
theorem makerNumberScript : Rows.FnMakerNumberScriptSaid :=
  OpenClaim.holds_of_wide 3 Try.f3 rfl rfl rfl rfl rfl rfl rfl ⟨rfl, rfl, rfl, rfl, rfl⟩ rfl rfl rfl rfl rfl (by kernel_rfl) Try.func3 (by kernel_rfl)
    (of_decide_eq_true (by kernel_rfl)) (by unfold Func.isWrapper; first | (rw [if_pos (by decide +kernel)]; kernel_rfl) | (rw [if_neg (by decide +kernel)]; exact ⟨rfl, rfl⟩))
    (fun os started H enc _ => script_lifted os started H enc)
#print axioms makerNumberScript

end Go.Proofs.Qxb6614646a
