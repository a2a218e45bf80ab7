/-
  FnMakerNumberCopyKeepsValues: the pieces of the walk.
-/
import Derived.Test.Qxb6614646aL
namespace Go.Proofs.Qxb6614646a
open Go.RowKit

set_option maxHeartbeats 400000 in
theorem bytes10_any (a b c : Option Addr) (n1 c1 n2 c2 n3 c3 : Nat) (w : World) (h1 : n1 ≤ maxLen) (h2 : n2 ≤ maxLen) (h3 : n3 ≤ maxLen) : Calls Try.prog 10 #[.slice a n1 c1, .slice b n2 c2, .slice c n3 c3] w fun e w' => ∃ z, e = .returned (.bool z) ∧ w' = w := by
  unfold maxLen at h1 h2 h3
  by_cases d1 : 1048576 < n1
  · go_enter Try.func10, Try.ntmps10
    go_wp2
    go_ret
    exact ⟨_, rfl, rfl⟩
  · by_cases d2 : 1048576 < n2
    · go_enter Try.func10, Try.ntmps10
      go_wp2
      go_ret
      exact ⟨_, rfl, rfl⟩
    · by_cases d3 : 1048576 < n1 + n2
      · go_enter Try.func10, Try.ntmps10
        go_wp2
        go_ret
        exact ⟨_, rfl, rfl⟩
      · by_cases d4 : 1048576 < n3
        · go_enter Try.func10, Try.ntmps10
          go_wp2
          go_ret
          exact ⟨_, rfl, rfl⟩
        · by_cases d5 : 1048576 < n1 + n2 + n3
          · go_enter Try.func10, Try.ntmps10
            go_wp2
            go_ret
            exact ⟨_, rfl, rfl⟩
          · go_enter Try.func10, Try.ntmps10
            go_wp2
            go_ret
            exact ⟨_, rfl, rfl⟩

theorem made_one (z : Value) (n : Nat) (h : ∀ y, z ≠ .float .f64 y) : ∀ (j y : Nat), (madeCells #[z] n)[j]? ≠ some (Value.float .f64 y) := by
  intro j y e
  have hj : j < (madeCells #[z] n).size := (Array.getElem?_eq_some_iff.1 e).1
  rw [Array.getElem?_eq_getElem hj] at e
  injection e with e
  refine h y ?_
  rw [← e]
  have : j % 1 = 0 := by omega
  simp [madeCells, this]

theorem row_of2 {w1 : World} {e : TypeId} {n : Nat} {b : Nat} {z : Value} (h : w1.ownsRow 0 e 1 (.slice (some ⟨b, 0, none⟩) n n) n (madeCells #[z] n).toList) : w1.heap[b]? = some (.cells (madeCells #[z] n) e (0, 0)) := by
  rcases h.2 with ⟨h, _⟩ | ⟨g, cap, cur, hv, _, hrow, _, _, hs, htk⟩
  · simp at h
  · simp at hv
    obtain ⟨rfl, rfl⟩ := hv
    have e : cur.toList = (madeCells #[z] n).toList := by
      rw [← htk, List.take_of_length_le]
      have : cur.toList.length = n * 1 := hs
      omega
    rw [hrow, Array.toList_inj.1 e]

/-- Two rows just made. -/
theorem rw_new {w w1 w2 : World} {n : Nat} {X : Nat → Nat} {vb : Nat} (hvb : vb = w.heap.size) (h1 : Below w.heap.size w w1) (r1 : w1.heap[vb]? = some (.cells (madeCells #[.pointer none] n) 43 (0, 0))) (h2 : Below w1.heap.size w1 w2) (r2 : w2.heap[w1.heap.size]? = some (.cells (madeCells #[.bool false] n) 4 (0, 0))) :
    w.heap.size < w1.heap.size ∧ w1.heap.size < w2.heap.size ∧ Rw w2 vb w1.heap.size n 0 X ∧ Below w.heap.size w w2 := by
  subst hvb
  have l1 := (Array.getElem?_eq_some_iff.1 r1).1
  have l2 := (Array.getElem?_eq_some_iff.1 r2).1
  exact ⟨l1, l2, ⟨_, fun _ => none, _, (h2.block _ l1).trans r1, size_madeCells _ _, made_one _ _ (fun y e => by cases e), fun j hj => by omega, r2, size_madeCells _ _, made_one _ _ (fun y e => by cases e), fun j hj => by omega⟩, h1.trans (h2.mono h1.size)⟩

theorem kinds_ZM : Kinds ZM := by
  intro j hj
  match j, hj with
  | 0, _ => exact ⟨⟨_, _, _, rfl⟩, ⟨_, rfl⟩⟩
  | 1, _ => exact ⟨⟨_, _, _, rfl⟩, ⟨_, rfl⟩⟩
  | 2, _ => exact ⟨⟨_, _, _, rfl⟩, ⟨_, rfl⟩⟩
  | 3, _ => exact ⟨⟨_, _, _, rfl⟩, ⟨_, rfl⟩⟩

theorem kinds_nof {cs : Array Value} (h8 : cs.size = 8) (h : Kinds cs) : ∀ (j y : Nat), cs[j]? ≠ some (Value.float .f64 y) := by
  intro j y e
  have hj : j < 8 := by have := (Array.getElem?_eq_some_iff.1 e).1; omega
  obtain ⟨⟨a, l, c, h1⟩, ⟨s, h2⟩⟩ := h (j / 2) (by omega)
  by_cases hp : j % 2 = 0
  · have : 2 * (j / 2) = j := by omega
    rw [this, e] at h1; cases h1
  · have : 2 * (j / 2) + 1 = j := by omega
    rw [this, e] at h2; cases h2

/-- A zero Maker. -/
theorem mk_zero (w : World) : MkOk2 (w.alloc (.cells ZM 37)) w.heap.size w.heap.size :=
  ⟨ZM, 37, none, 0, 0, 0, heap_alloc_new w _, rfl, rfl, rfl, by omega, by omega, by omega, kinds_nof rfl kinds_ZM, kinds_ZM, fun h => by omega⟩

/-- A copy of a Maker is a Maker. -/
theorem mk_copy {w : World} {g F : Nat} (hF : F ≤ w.heap.size) (h : MkOk2 w g F) : ∃ (a0 a1 a2 a3 : Option Addr) (l0 l1 l2 l3 c0 c1 c2 c3 : Nat) (s0 s1 s2 s3 : Int),
    w.cell? ⟨g, 0, none⟩ = some (.slice a0 l0 c0) ∧ w.cell? ⟨g, 1, none⟩ = some (.int .i64 s0) ∧ w.cell? ⟨g, 2, none⟩ = some (.slice a1 l1 c1) ∧ w.cell? ⟨g, 3, none⟩ = some (.int .i64 s1) ∧ w.cell? ⟨g, 4, none⟩ = some (.slice a2 l2 c2) ∧ w.cell? ⟨g, 5, none⟩ = some (.int .i64 s2) ∧ w.cell? ⟨g, 6, none⟩ = some (.slice a3 l3 c3) ∧ w.cell? ⟨g, 7, none⟩ = some (.int .i64 s3) ∧
    MkOk2 (w.alloc (.cells #[.slice a0 l0 c0, .int .i64 s0, .slice a1 l1 c1, .int .i64 s1, .slice a2 l2 c2, .int .i64 s2, .slice a3 l3 c3, .int .i64 s3] 37)) w.heap.size F := by
  obtain ⟨cs, T, a, len, cap, sz, hrow, h8, h2, h3, hsz, hlc, hcap, hnf, hkd, hfree⟩ := h
  obtain ⟨⟨a0, l0, c0, k0⟩, ⟨s0, k1⟩⟩ := hkd 0 (by omega)
  obtain ⟨⟨a2, l2, c2, k4⟩, ⟨s2, k5⟩⟩ := hkd 2 (by omega)
  obtain ⟨⟨a3, l3, c3, k6⟩, ⟨s3, k7⟩⟩ := hkd 3 (by omega)
  refine ⟨a0, a, a2, a3, l0, len, l2, l3, c0, cap, c2, c3, s0, (sz : Nat), s2, s3, (cell_of_row _ _ _ _ _ _ hrow).trans k0, (cell_of_row _ _ _ _ _ _ hrow).trans k1, (cell_of_row _ _ _ _ _ _ hrow).trans h2, (cell_of_row _ _ _ _ _ _ hrow).trans h3, (cell_of_row _ _ _ _ _ _ hrow).trans k4, (cell_of_row _ _ _ _ _ _ hrow).trans k5, (cell_of_row _ _ _ _ _ _ hrow).trans k6, (cell_of_row _ _ _ _ _ _ hrow).trans k7, ?_⟩
  have hk : Kinds #[.slice a0 l0 c0, .int .i64 s0, .slice a len cap, .int .i64 (sz : Nat), .slice a2 l2 c2, .int .i64 s2, .slice a3 l3 c3, .int .i64 s3] := by
    intro j hj
    match j, hj with
    | 0, _ => exact ⟨⟨_, _, _, rfl⟩, ⟨_, rfl⟩⟩
    | 1, _ => exact ⟨⟨_, _, _, rfl⟩, ⟨_, rfl⟩⟩
    | 2, _ => exact ⟨⟨_, _, _, rfl⟩, ⟨_, rfl⟩⟩
    | 3, _ => exact ⟨⟨_, _, _, rfl⟩, ⟨_, rfl⟩⟩
  refine ⟨_, 37, a, len, cap, sz, heap_alloc_new w _, rfl, rfl, rfl, hsz, hlc, hcap, kinds_nof rfl hk, hk, fun hl => ?_⟩
  obtain ⟨b, o, ha, hFb, hs⟩ := hfree hl
  exact ⟨b, o, ha, hFb, fun j hj => (Stp.alloc _ hF).shape _ _ (hs j hj)⟩

/-- The state of the second loop. -/
structure P2 (w wr : World) (g1 xv xo g2 yv yo zv zo nx ny nz ky kz : Nat) (X Y Z : Nat → Nat) : Prop where
  m1 : MkOk2 wr g1 w.heap.size
  m2 : MkOk2 wr g2 w.heap.size
  x : Rw wr xv xo nx nx X
  y : Rw wr yv yo ny ky Y
  z : Rw wr zv zo nz kz Z
  below : Below w.heap.size w wr

theorem P2.ynext {w wr w3 : World} {g1 xv xo g2 yv yo zv zo nx ny nz ky kz : Nat} {X Y Z : Nat → Nat} {a : Option Addr} (h : P2 w wr g1 xv xo g2 yv yo zv zo nx ny nz ky kz X Y Z)
    (o0 : w.heap.size ≤ g1) (o1 : g1 < xv) (o2 : xv < xo) (o3 : xo < g2) (o4 : g2 < yv) (o5 : yv < yo) (o6 : yo < zv) (o7 : zv < zo) (hk : ky < ny) (x : Obj)
    (hv : IsVal w3 0 a (Y ky)) (st : Stp wr w3 w.heap.size (fun k => k = g1)) (hm : MkOk2 w3 g1 w.heap.size) :
    P2 w (put2 w3 yv yo ky a (Fl.fin (Y ky)) x) g1 xv xo g2 yv yo zv zo nx ny nz (ky + 1) kz X Y Z := by
  have hy3 := h.y.keep st (by omega) (by omega)
  obtain ⟨sp, hy⟩ := hy3.put hk (by omega) (by omega : w.heap.size ≤ yv) (by omega) x hv
  have st2 := st.trans sp
  exact ⟨sp.maker hm (by omega), st2.maker h.m2 (by omega), h.x.keep st2 (by omega) (by omega), hy, h.z.keep st2 (by omega) (by omega), h.below.trans ⟨st2.os, st2.tape, st2.output, st2.size, st2.low⟩⟩

theorem P2.znext {w wr w3 : World} {g1 xv xo g2 yv yo zv zo nx ny nz ky kz : Nat} {X Y Z : Nat → Nat} {a : Option Addr} (h : P2 w wr g1 xv xo g2 yv yo zv zo nx ny nz ky kz X Y Z)
    (o0 : w.heap.size ≤ g1) (o1 : g1 < xv) (o2 : xv < xo) (o3 : xo < g2) (o4 : g2 < yv) (o5 : yv < yo) (o6 : yo < zv) (o7 : zv < zo) (hk : kz < nz) (x : Obj)
    (hv : IsVal w3 0 a (Z kz)) (st : Stp wr w3 w.heap.size (fun k => k = g2)) (hm : MkOk2 w3 g2 w.heap.size) :
    P2 w (put2 w3 zv zo kz a (Fl.fin (Z kz)) x) g1 xv xo g2 yv yo zv zo nx ny nz ky (kz + 1) X Y Z := by
  have hz3 := h.z.keep st (by omega) (by omega)
  obtain ⟨sp, hz⟩ := hz3.put hk (by omega) (by omega : w.heap.size ≤ zv) (by omega) x hv
  have st2 := st.trans sp
  exact ⟨st2.maker h.m1 (by omega), sp.maker hm (by omega), h.x.keep st2 (by omega) (by omega), h.y.keep st2 (by omega) (by omega), hz, h.below.trans ⟨st2.os, st2.tape, st2.output, st2.size, st2.low⟩⟩

end Go.Proofs.Qxb6614646a
