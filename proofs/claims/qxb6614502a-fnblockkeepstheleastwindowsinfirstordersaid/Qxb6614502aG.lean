/-
  FnBlocksAnswersAlikeInEitherOrder: from the walk to the given statement.
-/
import Derived.Test.Qxb6614502aF
import Derived.ProofKit
import Derived.OpenShut
import Derived.ChangeOld
import Derived.Deep.SlicePairs
namespace Go.Proofs.Qxb6614502a
open Go.ChangeShapes Go.WideShapes Go.ChangeAt Go.RowKit

theorem own : ownKnob Try.prog.godebug = none := by kernel_rfl
theorem laidOut : laidOutB Try.prog = true := by kernel_rfl

/-- What the walk is told of a slice of numbers that came in. -/
def IsNums (w : World) (a : Option Addr) (len : Nat) (f : Nat → Int) : Prop :=
  len ≤ maxLen ∧ (0 < len → ∃ fb fo, a = some ⟨fb, fo, none⟩ ∧ fb < w.heap.size ∧ ∀ j, j < len → w.cell? ⟨fb, fo + j, none⟩ = some (.int .i64 (f j)))

/-- What the walk is told of a slice of windows that came in. -/
def IsScr (w : World) (a : Option Addr) (len : Nat) (S : List (Int × Int)) : Prop :=
  len ≤ maxLen ∧ S.length = len ∧ (0 < len → ∃ sb so, a = some ⟨sb, so, none⟩ ∧ Scr w sb so S)

set_option maxHeartbeats 1600000 in
/-- The lengths shut the law's own domain: it answers true at once. -/
theorem alike_out (a1 a2 : Option Addr) (n1 c1 n2 c2 : Nat) (a b : Int) (w : World) (h1 : n1 ≤ maxLen) (h2 : n2 ≤ maxLen) (h : 4096 < n1 ∨ 1024 < n2 ∨ n1 = 0) :
    Calls Try.prog 6 #[.slice a1 n1 c1, .slice a2 n2 c2, .int .i64 a, .int .i64 b] w fun e w' => e = .returned (.bool true) ∧ Below w.heap.size w w' := by
  have h24 := fun wx => bytes24_any a1 a2 n1 c1 n2 c2 a b wx h1 h2
  unfold maxLen at h1 h2
  go_enter Try.func6, Try.ntmps6
  go_wp2_with fail
  refine (h24 _).mono ?_
  rintro e w' ⟨z, rfl, rfl⟩
  clear h24
  cases z with
  | false =>
    go_wp2
    go_ret
    exact ⟨rfl, Below.refl _ _⟩
  | true =>
    by_cases d1 : 4096 < n1
    · clear h
      go_wp2
      go_ret
      exact ⟨rfl, Below.refl _ _⟩
    · by_cases d2 : 1024 < n2
      · clear h
        go_wp2
        go_ret
        exact ⟨rfl, Below.refl _ _⟩
      · have h0 : n1 = 0 := by omega
        subst h0
        clear h
        go_wp2
        go_ret
        exact ⟨rfl, Below.refl _ _⟩

theorem alike_walk (a1 a2 : Option Addr) (n1 c1 n2 c2 : Nat) (f : Nat → Int) (S : List (Int × Int)) (a b : Int) (w : World) (h1 : IsNums w a1 n1 f) (h2 : IsScr w a2 n2 S) :
    Calls Try.prog 6 #[.slice a1 n1 c1, .slice a2 n2 c2, .int .i64 a, .int .i64 b] w fun e w' => e = .returned (.bool true) ∧ Below w.heap.size w w' := by
  obtain ⟨m1, g1⟩ := h1
  obtain ⟨m2, hS, g2⟩ := h2
  by_cases h : 4096 < n1 ∨ 1024 < n2 ∨ n1 = 0
  · exact alike_out a1 a2 n1 c1 n2 c2 a b w m1 m2 h
  · obtain ⟨n, rfl⟩ : ∃ n, n1 = n + 1 := ⟨n1 - 1, by omega⟩
    obtain ⟨fb, fo, rfl, hlt, hc⟩ := g1 (by omega)
    exact alike_main fb fo n c1 n2 c2 a2 f S a b w (by omega) hS (by omega) hlt hc g2

/-- From the reading of a slice of numbers to what the walk is told. -/
theorem nums_of {H : Type} {enc : TypeId × Value → H} {W : World} {a0 : Option Addr} {len0 cap0 fuel : Nat} {x : DataW H × List MemPlace}
    (hf : DataW.trod enc Try.prog W 0 (fun _ => true) true fuel 42 (Value.slice a0 len0 cap0).cells.toList = some x) : ∃ f, IsNums W a0 len0 f := by
  rcases open_ints Try.underlying42 Try.underlying2 (by kernel_rfl) hf with ⟨hcs, _⟩ | ⟨x, l, c, zs, hcs, _, hl, hm, hz, _, hcell, hwz⟩
  · simp [Value.cells] at hcs
    obtain ⟨rfl, rfl, rfl⟩ := hcs
    exact ⟨fun _ => 0, by unfold maxLen; omega, fun h => by omega⟩
  · simp [Value.cells] at hcs
    obtain ⟨rfl, rfl, rfl⟩ := hcs
    refine ⟨fun j => zs.getD j 0, by omega, fun h => ?_⟩
    have hz' : zs.length = cap0 := by simpa using hz
    obtain ⟨b, off, spot⟩ := x
    have hc := hcell 0 (by omega)
    have hspot : spot = none := by simpa [Addr.add] using World.cell?_spot hc
    subst hspot
    refine ⟨b, off, rfl, World.block_lt_of_cell? W _ hc, fun j hj => ?_⟩
    rw [← add_plain]
    exact hcell j (by omega)

/-- From the reading of a slice of windows to what the walk is told. -/
theorem scr_of {H : Type} {enc : TypeId × Value → H} {W : World} {a0 : Option Addr} {len0 cap0 fuel : Nat} {x : DataW H × List MemPlace}
    (hf : DataW.trod enc Try.prog W 0 (fun _ => true) true fuel 43 (Value.slice a0 len0 cap0).cells.toList = some x) : ∃ S, IsScr W a0 len0 S := by
  rcases Go.Deep.open_slice_pairs Try.underlying43 Try.underlying49 (by kernel_rfl) rfl rfl (by kernel_rfl) (by kernel_rfl) hf with ⟨hcs, _⟩ | ⟨x, l, c, m, n, V0, V1, D0, D1, P0, P1, hcs, _, hl, hm, hmm, _, hall⟩
  · simp [Value.cells] at hcs
    obtain ⟨rfl, rfl, rfl⟩ := hcs
    exact ⟨[], by unfold maxLen; omega, rfl, fun h => by omega⟩
  · simp [Value.cells] at hcs
    obtain ⟨rfl, rfl, rfl⟩ := hcs
    have hmm' : m = cap0 := by simpa using hmm
    have each : ∀ i, i < cap0 → ∃ q : Int × Int, W.cell? (x.add (i * 2)) = some (.int .i64 q.1) ∧ W.cell? (x.add (i * 2 + 1)) = some (.int .i64 q.2) := by
      intro i hi
      obtain ⟨e0, e1, t0, t1⟩ := hall i (by omega)
      obtain ⟨p0, q0, _, _⟩ := DataW.trod_int Try.underlying2 t0
      obtain ⟨p1, q1, _, _⟩ := DataW.trod_int Try.underlying2 t1
      simp at q0 q1
      rw [q0] at e0
      rw [q1] at e1
      exact ⟨(p0, p1), e0, e1⟩
    obtain ⟨q, hq⟩ := Go.Deep.choose_lt each
    refine ⟨(List.range len0).map q, by omega, by simp, fun h => ?_⟩
    obtain ⟨b, off, spot⟩ := x
    have hc := (hq 0 (by omega)).1
    have hspot : spot = none := by simpa [Addr.add] using World.cell?_spot hc
    subst hspot
    refine ⟨b, off, rfl, World.block_lt_of_cell? W _ hc, fun j hj => ?_, fun j hj => ?_⟩
    · have := (hq j (by simp at hj; omega)).1
      rw [add_plain] at this
      rw [this, fx, getD_lt _ _ hj]; simp
    · have := (hq j (by simp at hj; omega)).2
      rw [add_plain] at this
      rw [Nat.add_assoc, this, fy, getD_lt _ _ hj]; simp

set_option maxRecDepth 100000 in
theorem alike_lifted (os : Os) (started : os.Started) (H : Type) (enc : TypeId × Value → H) :
    ReturnsInHanded {} Try.checked os 6 .any (Rows.fnBlocksAnswersAlikeInEitherOrderSpec.pre6 enc Try.prog Try.f6 Rows.fnBlocksAnswersAlikeInEitherOrderRow.domain false) (Rows.fnBlocksAnswersAlikeInEitherOrderSpec.post enc Try.prog Try.f6 false true false false) := by
  refine returnsInHanded_of_change (C := Try.checked) own started (by kernel_rfl) Try.func6
    (ChangeSpec.witness6 (enc := enc) (C := Try.checked) false ⟨#[], #[.slice none 0 0, .slice none 0 0, .int .i64 0, .int .i64 0], []⟩ 8 (by kernel_rfl) (by kernel_rfl) (by kernel_rfl) (by kernel_rfl)) ?_
  intro W base args ds gs before hval0 hW hcnd _
  have hval : ∀ (j : Nat) t v, Try.f6.params[j]? = some t → args[j]? = some v → Value.okWide Try.prog W .any base t v := hval0
  have hW' := hW
  obtain ⟨p, q, hA0, hV, rfl, hfz, hnd⟩ := hW
  have hA : DataW.TrodAll enc Try.prog W 0 (fun _ => true) true Try.f6.params.toList args.toList ds p := hA0
  rw [Try.params6] at hA hval
  obtain ⟨v0, vs0, d0, ds0, p0, q0, hargs, rfl, rfl, h0, r0⟩ := trodAll_cons hA
  obtain ⟨v1, vs1, d1, ds1, p1, q1, rfl, rfl, rfl, h1, r1⟩ := trodAll_cons r0
  obtain ⟨v2, vs2, d2, ds2, p2, q2, rfl, rfl, rfl, h2, r2⟩ := trodAll_cons r1
  obtain ⟨v3, vs3, d3, ds3, p3, q3, rfl, rfl, rfl, h3, r3⟩ := trodAll_cons r2
  obtain ⟨rfl, rfl, rfl⟩ := trodAll_nil r3
  obtain rfl : args = #[v0, v1, v2, v3] := by cases args; simp_all
  obtain ⟨rfl, rfl⟩ := trodVars_none hV
  obtain ⟨a0, len0, cap0, rfl⟩ := okWide_slice Try.underlying42 (hval 0 42 v0 rfl rfl)
  have k0 := h0
  have lt0 : ∀ x ∈ p0, x.block < W.heap.size := by obtain ⟨m, hm⟩ := k0; exact DataW.trod_lt m _ _ _ hm
  obtain ⟨f, w0⟩ : ∃ f, IsNums W a0 len0 f := by obtain ⟨fuel, hf⟩ := h0; exact nums_of hf
  obtain ⟨a1, len1, cap1, rfl⟩ := okWide_slice Try.underlying43 (hval 1 43 v1 rfl rfl)
  have k1 := h1
  have lt1 : ∀ x ∈ p1, x.block < W.heap.size := by obtain ⟨m, hm⟩ := k1; exact DataW.trod_lt m _ _ _ hm
  obtain ⟨S, w1⟩ : ∃ S, IsScr W a1 len1 S := by obtain ⟨fuel, hf⟩ := h1; exact scr_of hf
  obtain ⟨a2, rfl, rfl, rfl, w2⟩ := open_int Try.underlying2 (hval 2 2 v2 rfl rfl) h2
  obtain ⟨a3, rfl, rfl, rfl, w3⟩ := open_int Try.underlying2 (hval 3 2 v3 rfl rfl) h3
  clear hA0 hval0
  refine (alike_walk a0 a1 len0 cap0 len1 cap1 f S a2 a3 W w0 w1).mono fun e W' ⟨he, bel⟩ => ?_
  subst he
  exact ⟨_, rfl, _, _, _, [], _, [], hW', trodAll_mk1 (shut_bool Try.underlying4 _), (trodAll_cons_mk (Below.trod laidOut (by kernel_rfl) (of_decide_eq_true (by kernel_rfl)) k0 bel lt0) (trodAll_cons_mk (Below.trod laidOut (by kernel_rfl) (of_decide_eq_true (by kernel_rfl)) k1 bel lt1) (trodAll_cons_mk (shut_int Try.underlying2 w2) (trodAll_cons_mk (shut_int Try.underlying2 w3) trodAll_mk0)))), rfl, bel.frame _, fun h => by cases h⟩

/-- The given statement. -/
theorem blocksAnswersAlike : Rows.FnBlocksAnswersAlikeInEitherOrderSaid :=
  OpenClaim.holds_of_wide 6 Try.f6 rfl rfl rfl rfl rfl rfl rfl ⟨rfl, rfl, rfl, rfl, rfl⟩ rfl rfl rfl rfl rfl (by kernel_rfl) Try.func6 (by kernel_rfl)
    (of_decide_eq_true (by kernel_rfl)) (by unfold Func.isWrapper; first | (rw [if_pos (by decide +kernel)]; kernel_rfl) | (rw [if_neg (by decide +kernel)]; exact ⟨rfl, rfl⟩))
    (fun os started H enc _ => alike_lifted os started H enc)
#print axioms blocksAnswersAlike

end Go.Proofs.Qxb6614502a
