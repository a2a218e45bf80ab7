/-
  exact.product: the long multiplication of two numbers of three words.
-/
import Derived.Test.Qxb6614502aM
namespace Go.Proofs.Qxb6614502a
open Go.RowKit

theorem index29 (a : Nat → Nat) (i : Nat) (hi : i < 3) (w : World) : (Instr.index 29 (.agg #[.int .u64 (a 0 : Nat), .int .u64 (a 1 : Nat), .int .u64 (a 2 : Nat)]) (.int .i64 (i : Nat))).run Try.prog w = .ok (.int .u64 (a i : Nat)) w := by
  obtain rfl | rfl | rfl : i = 0 ∨ i = 1 ∨ i = 2 := by omega
  · kernel_rfl
  · kernel_rfl
  · kernel_rfl

def Z6 : Array Value := #[.int .u64 0, .int .u64 0, .int .u64 0, .int .u64 0, .int .u64 0, .int .u64 0]

/-- The world as the loops of the two multiplications find it: two numbers boxed, the result's six words, the product's six words. -/
structure Lay (w W0 : World) (T : TypeId) (a b : Nat → Nat) : Prop where
  six : Six W0 (w.heap.size + 1 + 1 + 1) (fun _ => 0)
  res : W0.heap[w.heap.size + 1 + 1]? = some (.cells Z6 62 (0, 0))
  a : W0.heap[w.heap.size]? = some (.cells #[.int .u64 (a 0 : Nat), .int .u64 (a 1 : Nat), .int .u64 (a 2 : Nat)] T (0, 0))
  b : W0.heap[w.heap.size + 1]? = some (.cells #[.int .u64 (b 0 : Nat), .int .u64 (b 1 : Nat), .int .u64 (b 2 : Nat)] T (0, 0))
  below : Below w.heap.size w W0

theorem heap_alloc_at (w : World) (o : Obj) (n : Nat) (h : w.heap.size = n) : (w.alloc o).heap[n]? = some o := by rw [← h]; exact heap_alloc_new w o

theorem lay_make (w : World) (T : TypeId) (a b : Nat → Nat) : Lay w ((((w.alloc (.cells #[.int .u64 (a 0 : Nat), .int .u64 (a 1 : Nat), .int .u64 (a 2 : Nat)] T)).alloc (.cells #[.int .u64 (b 0 : Nat), .int .u64 (b 1 : Nat), .int .u64 (b 2 : Nat)] T)).alloc (.cells Z6 62)).alloc (.cells Z6 62)) T a b := by
  refine ⟨⟨⟨Z6, ?_, rfl, ?_⟩⟩, ?_, ?_, ?_, ?_⟩
  · exact heap_alloc_at _ _ _ (by simp)
  · intro j hj
    match j, hj with
    | 0, _ => rfl
    | 1, _ => rfl
    | 2, _ => rfl
    | 3, _ => rfl
    | 4, _ => rfl
    | 5, _ => rfl
  · rw [Below.heap_alloc _ _ _ (by simp)]
    exact heap_alloc_at _ _ _ (by simp)
  · rw [Below.heap_alloc _ _ _ (by simp; omega), Below.heap_alloc _ _ _ (by simp; omega), Below.heap_alloc _ _ _ (by simp)]
    exact heap_alloc_new w _
  · rw [Below.heap_alloc _ _ _ (by simp), Below.heap_alloc _ _ _ (by simp)]
    exact heap_alloc_at _ _ _ (by simp)
  · exact ((((Below.refl _ _).alloc (Nat.le_refl _) _).alloc (by simp) _).alloc (by simp; omega) _).alloc (by simp; omega) _

theorem upd_upd (P : Nat → Nat) (i u v j : Nat) : W.upd (W.upd P i u) i v j = W.upd P i v j := by
  unfold W.upd; split <;> rfl

/-- The carry of one step, as the walk comes to it. -/
theorem carry_step (p x y c : Nat) (hp : p < 18446744073709551616) (hx : x < 18446744073709551616) (hy : y < 18446744073709551616) (hc : c < 18446744073709551616) :
    IntKind.u64.wrap (IntKind.u64.wrap (((W.hi x y : Nat) : Int) + ((W.cr p (W.lo x y) 0 : Nat) : Int)) + ((W.cr (W.sm p (W.lo x y) 0) c 0 : Nat) : Int)) = ((W.mhi p x y c : Nat) : Int) := by
  have h := W.step_hi p x y c
  have hl := W.mhi_lt p x y c hp hx hy hc
  rw [IntKind.wrap_u64, IntKind.wrap_u64]
  omega

/-- The state of a row of the long multiplication. -/
structure RS (W0 wr : World) (pb : Nat) (x : Nat) (b : Nat → Nat) (i : Nat) (P : Nat → Nat) (k : Nat) : Prop where
  six : Six wr pb (W.rowS x b i P k).1
  below : Below pb W0 wr

theorem RS.next {W0 wr : World} {pb x i k : Nat} {b P : Nat → Nat} (h : RS W0 wr pb x b i P k) (hik : i + k < 6) (u : Nat) :
    RS W0 ((wr.setCell ⟨pb, i + k, none⟩ (.int .u64 (u : Nat))).setCell ⟨pb, i + k, none⟩ (.int .u64 (W.mlo ((W.rowS x b i P k).1 (i + k)) x (b k) (W.rowS x b i P k).2 : Nat))) pb x b i P (k + 1) :=
  ⟨((h.six.put (i + k) u hik).put (i + k) _ hik).congr (fun j => upd_upd _ _ _ _ j), (h.below.setCell (by simp) _).setCell (by simp) _⟩

set_option maxRecDepth 100000 in
set_option maxHeartbeats 1600000 in
theorem product_any (a b : Nat → Nat) (ha : W.Words a 3) (hb : W.Words b 3) (w : World) :
    Calls Try.prog 48 #[.agg #[.int .u64 (a 0 : Nat), .int .u64 (a 1 : Nat), .int .u64 (a 2 : Nat)], .agg #[.int .u64 (b 0 : Nat), .int .u64 (b 1 : Nat), .int .u64 (b 2 : Nat)]] w fun e w' =>
      e = .returned (.agg #[.int .u64 (W.prd a b 0 : Nat), .int .u64 (W.prd a b 1 : Nat), .int .u64 (W.prd a b 2 : Nat), .int .u64 (W.prd a b 3 : Nat), .int .u64 (W.prd a b 4 : Nat), .int .u64 (W.prd a b 5 : Nat)]) ∧ Below w.heap.size w w' := by
  have HL : Hid (Lay w _ 29 a b) := lay_make w 29 a b
  go_enter Try.func48, Try.ntmps48
  go_wp2
  unfold Z6 at HL
  generalize ((((w.alloc (.cells #[.int .u64 (a 0 : Nat), .int .u64 (a 1 : Nat), .int .u64 (a 2 : Nat)] 29)).alloc (.cells #[.int .u64 (b 0 : Nat), .int .u64 (b 1 : Nat), .int .u64 (b 2 : Nat)] 29)).alloc (.cells #[.int .u64 0, .int .u64 0, .int .u64 0, .int .u64 0, .int .u64 0, .int .u64 0] 62)).alloc (.cells #[.int .u64 0, .int .u64 0, .int .u64 0, .int .u64 0, .int .u64 0, .int .u64 0] 62)) = W0 at *
  go_loopw [15] (fun v wr => ∃ i : Nat, i ≤ 3 ∧ v = .int .i64 i ∧ Six wr (w.heap.size + 1 + 1 + 1) (W.rows a b i) ∧ Below (w.heap.size + 1 + 1 + 1) W0 wr) (fun v _ => 3 - (intOf v).toNat)
  case atStart => exact ⟨0, by omega, rfl, HL.out.six, Below.refl _ _⟩
  case round =>
    obtain ⟨i, hi, rfl, hsix, hbel⟩ := hrel
    have HS : Hid (Six wr (w.heap.size + 1 + 1 + 1) (W.rows a b i)) := hsix
    have HB : Hid (Below (w.heap.size + 1 + 1 + 1) W0 wr) := hbel
    have hbox : ∀ j v, (#[.int .u64 (b 0 : Nat), .int .u64 (b 1 : Nat), .int .u64 (b 2 : Nat)] : Array Value)[j]? = some v → wr.cell? ⟨w.heap.size + 1, j, none⟩ = some v := fun j v hv => by
      rw [(bcellM hbel).1 _ _ (by omega), cell_of_row W0 _ _ _ _ _ HL.out.b]; exact hv
    have hb0 := hbox 0 _ rfl
    have hb1 := hbox 1 _ rfl
    have hb2 := hbox 2 _ rfl
    clear hsix hbel hbox
    by_cases hlt : i < 3
    · have hix := index29 a i hlt
      have hi1 : (0 : Int) ≤ (i : Int) := by omega
      have hi2 : (i : Int) < 3 := by omega
      go_wp2
      clear hix
      have hax := ha i hlt
      have hrw := W.rows_words a b ha hb i (by omega)
      go_loopw [8, 20] (fun c v wq => ∃ k : Nat, k ≤ 3 ∧ v = .int .i64 k ∧ c = .int .u64 ((W.rowS (a i) b i (W.rows a b i) k).2 : Nat) ∧ RS W0 wq (w.heap.size + 1 + 1 + 1) (a i) b i (W.rows a b i) k) (fun _ v _ => 3 - (intOf v).toNat)
      case atStart => exact ⟨0, by omega, rfl, rfl, HS.out, HB.out⟩
      case round =>
        rename World => wq
        obtain ⟨k, hk, rfl, rfl, hrs⟩ := hrel
        have HR : Hid (RS W0 wq (w.heap.size + 1 + 1 + 1) (a i) b i (W.rows a b i) k) := hrs
        have hwd := W.rowS_words (a i) b i (W.rows a b i) hax hb hrw (by omega) k hk
        obtain ⟨hw1, hw2⟩ := hwd
        by_cases hkt : k < 3
        · have hcell := hrs.six.cell (i + k) (by omega)
          have hfree := hrs.six.free (i + k)
          have hlp := hrs.six.lt
          clear hrs
          have HN := HR.out.next (by omega : i + k < 6)
          have hpk := hw1 (i + k) (by omega)
          have hbk := hb k hkt
          have HS1 := W.step_lo ((W.rowS (a i) b i (W.rows a b i) k).1 (i + k)) (a i) (b k) (W.rowS (a i) b i (W.rows a b i) k).2
          have HC1 := carry_step ((W.rowS (a i) b i (W.rows a b i) k).1 (i + k)) (a i) (b k) (W.rowS (a i) b i (W.rows a b i) k).2 hpk hax hbk hw2
          have e2 : (W.rowS (a i) b i (W.rows a b i) (k + 1)).2 = W.mhi ((W.rowS (a i) b i (W.rows a b i) k).1 (i + k)) (a i) (b k) (W.rowS (a i) b i (W.rows a b i) k).2 := rfl
          rw [← e2] at HC1
          have HN' : Hid _ := HN
          have HS1' : Hid _ := HS1
          have HC1' : Hid _ := HC1
          clear HN HS1 HC1 e2 hw1
          generalize (W.rowS (a i) b i (W.rows a b i) k).1 (i + k) = p at *
          generalize hcc : (W.rowS (a i) b i (W.rows a b i) k).2 = c at *
          clear hcc
          have hix := index29 b k hkt
          have hk1 : (0 : Int) ≤ (k : Int) := by omega
          have hk2 : (k : Int) < 3 := by omega
          go_wp2_with (first
            | (go_at_call 47; refine (bitsMul64_any (a i) (b k) hax hbk _).mono ?_; rintro e w' ⟨rfl, rfl⟩)
            | simp only [bitsAdd64_0])
          go_roundw
          case rel => exact ⟨k + 1, by omega, by go_num, by rw [HC1'.out], by rw [HS1'.out]; exact HN'.out _⟩
          case measure => simp [intOf]; omega
        · have hk3 : k = 3 := by omega
          subst hk3
          have hcell := hrs.six.cell (i + 3) (by omega)
          have hfree := hrs.six.free (i + 3)
          have HN : Hid (Six (wq.setCell ⟨w.heap.size + 1 + 1 + 1, i + 3, none⟩ (.int .u64 ((W.rowS (a i) b i (W.rows a b i) 3).2 : Nat))) (w.heap.size + 1 + 1 + 1) (W.rows a b (i + 1))) := hrs.six.put (i + 3) _ (by omega)
          have HB2 : Hid (Below (w.heap.size + 1 + 1 + 1) W0 (wq.setCell ⟨w.heap.size + 1 + 1 + 1, i + 3, none⟩ (.int .u64 ((W.rowS (a i) b i (W.rows a b i) 3).2 : Nat)))) := hrs.below.setCell (by simp) _
          clear hrs hw1 hw2
          generalize (W.rowS (a i) b i (W.rows a b i) 3).2 = c at *
          generalize (W.rowS (a i) b i (W.rows a b i) 3).1 (i + 3) = p at *
          go_wp2
          go_roundw
          case rel => exact ⟨i + 1, by omega, by go_num, HN.out, HB2.out⟩
          case measure => simp [intOf]; omega
    · have hi3 : i = 3 := by omega
      subst hi3
      have c0 : wr.cell? ⟨w.heap.size + 1 + 1 + 1, 0, none⟩ = some (.int .u64 (W.prd a b 0 : Nat)) := HS.out.cell 0 (by omega)
      have c1 : wr.cell? ⟨w.heap.size + 1 + 1 + 1, 1, none⟩ = some (.int .u64 (W.prd a b 1 : Nat)) := HS.out.cell 1 (by omega)
      have c2 : wr.cell? ⟨w.heap.size + 1 + 1 + 1, 2, none⟩ = some (.int .u64 (W.prd a b 2 : Nat)) := HS.out.cell 2 (by omega)
      have c3 : wr.cell? ⟨w.heap.size + 1 + 1 + 1, 3, none⟩ = some (.int .u64 (W.prd a b 3 : Nat)) := HS.out.cell 3 (by omega)
      have c4 : wr.cell? ⟨w.heap.size + 1 + 1 + 1, 4, none⟩ = some (.int .u64 (W.prd a b 4 : Nat)) := HS.out.cell 4 (by omega)
      have c5 : wr.cell? ⟨w.heap.size + 1 + 1 + 1, 5, none⟩ = some (.int .u64 (W.prd a b 5 : Nat)) := HS.out.cell 5 (by omega)
      have hres : wr.heap[w.heap.size + 1 + 1]? = some (.cells Z6 62 (0, 0)) := (HB.out.block _ (by omega)).trans HL.out.res
      have r0 : wr.cell? ⟨w.heap.size + 1 + 1, 0, none⟩ = some (.int .u64 0) := cell_of_row wr _ _ _ _ _ hres
      have r1 : wr.cell? ⟨w.heap.size + 1 + 1, 1, none⟩ = some (.int .u64 0) := cell_of_row wr _ _ _ _ _ hres
      have r2 : wr.cell? ⟨w.heap.size + 1 + 1, 2, none⟩ = some (.int .u64 0) := cell_of_row wr _ _ _ _ _ hres
      have r3 : wr.cell? ⟨w.heap.size + 1 + 1, 3, none⟩ = some (.int .u64 0) := cell_of_row wr _ _ _ _ _ hres
      have r4 : wr.cell? ⟨w.heap.size + 1 + 1, 4, none⟩ = some (.int .u64 0) := cell_of_row wr _ _ _ _ _ hres
      have r5 : wr.cell? ⟨w.heap.size + 1 + 1, 5, none⟩ = some (.int .u64 0) := cell_of_row wr _ _ _ _ _ hres
      have rf : ∀ j, wr.frozen? ⟨w.heap.size + 1 + 1, j, none⟩ = false := fun j => by simp [World.frozen?, hres]
      have HW : Hid (Below w.heap.size w wr) := HL.out.below.trans (HB.out.mono (by omega))
      clear hres hb0 hb1 hb2
      go_wp2
      exact bodyPost_ret (v := .agg #[.int .u64 (W.prd a b 0 : Nat), .int .u64 (W.prd a b 1 : Nat), .int .u64 (W.prd a b 2 : Nat), .int .u64 (W.prd a b 3 : Nat), .int .u64 (W.prd a b 4 : Nat), .int .u64 (W.prd a b 5 : Nat)]) (by simp [results, Try.results48, go_sem, r0, r1, r2, r3, r4, r5]) rfl ⟨rfl, ((((((HW.out.setCell (by simp; omega) _).setCell (by simp; omega) _).setCell (by simp; omega) _).setCell (by simp; omega) _).setCell (by simp; omega) _).setCell (by simp; omega) _)⟩

end Go.Proofs.Qxb6614502a
