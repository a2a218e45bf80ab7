/-
  FnWithSecretUndoGivesSameValue: the walk.
-/
import Derived.Test.Qxb6614646aS
import Derived.Deep.DeepCutAuto
namespace Go.Proofs.Qxb6614646a
open Go.RowKit

set_option maxRecDepth 100000 in
set_option maxHeartbeats 3200000 in
theorem undo_any (x : Nat) (w : World) (hx : x < 18446744073709551616) : Calls Try.prog 6 #[.float .f64 x] w fun e w' => e = .returned (.bool true) ∧ Below w.heap.size w w' := by
  go_enter Try.func6, Try.ntmps6
  go_wp2_with fail
  refine (number8_zero x w hx).mono ?_
  rintro e w1 ⟨a, rfl, hi, hb, hz1⟩
  have HI : Hid (IsVal w1 0 a x) := hi
  have HW : Hid (Below w.heap.size w w1) := hb
  clear hi hb
  go_wp2_with fail
  have Hg4 : Hid ((w1.alloc (.cells #[.pointer a] 43)).cell? ⟨w1.heap.size, 0, none⟩ = some (.pointer a)) := cell_of_row _ _ _ _ _ _ (heap_alloc_new w1 _)
  have hb : Below w1.heap.size w1 (w1.alloc (.cells #[.pointer a] 43)) := (Below.refl _ _).alloc (Nat.le_refl _) _
  have zw2 : w1.heap.size < (w1.alloc (.cells #[.pointer a] 43)).heap.size := by simp
  replace HI : Hid (IsVal (w1.alloc (.cells #[.pointer a] 43)) 0 a x) := isVal_below HI.out hb (Nat.le_refl _)
  replace HW : Hid (Below w.heap.size w (w1.alloc (.cells #[.pointer a] 43))) := HW.out.trans (hb.mono (by omega))
  clear hb
  generalize w1.alloc (.cells #[.pointer a] 43) = w2 at *
  generalize w1.heap.size = g4 at *
  refine (withSecret15_any a a none false true w2 (Or.inl ⟨isVal_plain HI.out, rfl, rfl, rfl⟩) (isVal_plain HI.out)).mono ?_
  rintro e w3 ⟨s, rfl, hv, _, hb⟩
  replace Hg4 : Hid (w3.cell? ⟨g4, 0, none⟩ = some (.pointer a)) := (hb.cell (p := ⟨g4, 0, none⟩) (by dsimp only; omega)).trans Hg4.out
  replace HI : Hid (IsVal w3 0 a x) := isVal_below HI.out hb (Nat.le_refl _)
  replace HW : Hid (Below w.heap.size w w3) := HW.out.trans (hb.mono (by omega))
  have zw3 := hb.size
  clear hb
  have HVs : Hid (Vl w3 s a true none) := hv
  clear hv
  go_wp2_with fail
  have Hg6 : Hid ((w3.alloc (.cells #[.pointer s] 43)).cell? ⟨w3.heap.size, 0, none⟩ = some (.pointer s)) := cell_of_row _ _ _ _ _ _ (heap_alloc_new w3 _)
  have hb : Below w3.heap.size w3 (w3.alloc (.cells #[.pointer s] 43)) := (Below.refl _ _).alloc (Nat.le_refl _) _
  have zw4 : w3.heap.size < (w3.alloc (.cells #[.pointer s] 43)).heap.size := by simp
  replace Hg4 : Hid ((w3.alloc (.cells #[.pointer s] 43)).cell? ⟨g4, 0, none⟩ = some (.pointer a)) := (hb.cell (p := ⟨g4, 0, none⟩) (by dsimp only; omega)).trans Hg4.out
  replace HI : Hid (IsVal (w3.alloc (.cells #[.pointer s] 43)) 0 a x) := isVal_below HI.out hb (Nat.le_refl _)
  replace HVs : Hid (Vl (w3.alloc (.cells #[.pointer s] 43)) s a true none) := HVs.out.below hb (Nat.le_refl _)
  replace HW : Hid (Below w.heap.size w (w3.alloc (.cells #[.pointer s] 43))) := HW.out.trans (hb.mono (by omega))
  clear hb
  generalize w3.alloc (.cells #[.pointer s] 43) = w4 at *
  generalize w3.heap.size = g6 at *
  refine (withSecret15_any s a none true true w4 HVs.out (isVal_plain HI.out)).mono ?_
  rintro e w5 ⟨t, rfl, hv, _, hb⟩
  replace Hg4 : Hid (w5.cell? ⟨g4, 0, none⟩ = some (.pointer a)) := (hb.cell (p := ⟨g4, 0, none⟩) (by dsimp only; omega)).trans Hg4.out
  replace Hg6 : Hid (w5.cell? ⟨g6, 0, none⟩ = some (.pointer s)) := (hb.cell (p := ⟨g6, 0, none⟩) (by dsimp only; omega)).trans Hg6.out
  replace HI : Hid (IsVal w5 0 a x) := isVal_below HI.out hb (Nat.le_refl _)
  replace HVs : Hid (Vl w5 s a true none) := HVs.out.below hb (Nat.le_refl _)
  replace HW : Hid (Below w.heap.size w w5) := HW.out.trans (hb.mono (by omega))
  have zw5 := hb.size
  clear hb
  have HVt : Hid (Vl w5 t a true none) := hv
  clear hv
  have cg6 := Hg6.out
  have lg6 : g6 < w5.heap.size := by omega
  go_wp2_with fail
  clear cg6 lg6
  have Hg7 : Hid ((w5.alloc (.cells #[.pointer t] 43)).cell? ⟨w5.heap.size, 0, none⟩ = some (.pointer t)) := cell_of_row _ _ _ _ _ _ (heap_alloc_new w5 _)
  have hb : Below w5.heap.size w5 (w5.alloc (.cells #[.pointer t] 43)) := (Below.refl _ _).alloc (Nat.le_refl _) _
  have zw6 : w5.heap.size < (w5.alloc (.cells #[.pointer t] 43)).heap.size := by simp
  replace Hg4 : Hid ((w5.alloc (.cells #[.pointer t] 43)).cell? ⟨g4, 0, none⟩ = some (.pointer a)) := (hb.cell (p := ⟨g4, 0, none⟩) (by dsimp only; omega)).trans Hg4.out
  replace Hg6 : Hid ((w5.alloc (.cells #[.pointer t] 43)).cell? ⟨g6, 0, none⟩ = some (.pointer s)) := (hb.cell (p := ⟨g6, 0, none⟩) (by dsimp only; omega)).trans Hg6.out
  replace HI : Hid (IsVal (w5.alloc (.cells #[.pointer t] 43)) 0 a x) := isVal_below HI.out hb (Nat.le_refl _)
  replace HVs : Hid (Vl (w5.alloc (.cells #[.pointer t] 43)) s a true none) := HVs.out.below hb (Nat.le_refl _)
  replace HVt : Hid (Vl (w5.alloc (.cells #[.pointer t] 43)) t a true none) := HVt.out.below hb (Nat.le_refl _)
  replace HW : Hid (Below w.heap.size w (w5.alloc (.cells #[.pointer t] 43))) := HW.out.trans (hb.mono (by omega))
  clear hb
  generalize w5.alloc (.cells #[.pointer t] 43) = w6 at *
  generalize w5.heap.size = g7 at *
  refine (withSecret15_any s a none true false w6 HVs.out (isVal_plain HI.out)).mono ?_
  rintro e w7 ⟨u, rfl, _, hu, hb⟩
  replace Hg4 : Hid (w7.cell? ⟨g4, 0, none⟩ = some (.pointer a)) := (hb.cell (p := ⟨g4, 0, none⟩) (by dsimp only; omega)).trans Hg4.out
  replace Hg6 : Hid (w7.cell? ⟨g6, 0, none⟩ = some (.pointer s)) := (hb.cell (p := ⟨g6, 0, none⟩) (by dsimp only; omega)).trans Hg6.out
  replace Hg7 : Hid (w7.cell? ⟨g7, 0, none⟩ = some (.pointer t)) := (hb.cell (p := ⟨g7, 0, none⟩) (by dsimp only; omega)).trans Hg7.out
  replace HI : Hid (IsVal w7 0 a x) := isVal_below HI.out hb (Nat.le_refl _)
  replace HVs : Hid (Vl w7 s a true none) := HVs.out.below hb (Nat.le_refl _)
  replace HVt : Hid (Vl w7 t a true none) := HVt.out.below hb (Nat.le_refl _)
  replace HW : Hid (Below w.heap.size w w7) := HW.out.trans (hb.mono (by omega))
  have zw7 := hb.size
  clear hb
  have hua : u = a := hu rfl rfl
  rw [hua]
  clear hu hua
  have cg4 := Hg4.out
  have lg4 : g4 < w7.heap.size := by omega
  go_wp2_with fail
  clear cg4 lg4
  have Hg8 : Hid ((w7.alloc (.cells #[.pointer a] 43)).cell? ⟨w7.heap.size, 0, none⟩ = some (.pointer a)) := cell_of_row _ _ _ _ _ _ (heap_alloc_new w7 _)
  have hb : Below w7.heap.size w7 (w7.alloc (.cells #[.pointer a] 43)) := (Below.refl _ _).alloc (Nat.le_refl _) _
  have zw8 : w7.heap.size < (w7.alloc (.cells #[.pointer a] 43)).heap.size := by simp
  replace Hg4 : Hid ((w7.alloc (.cells #[.pointer a] 43)).cell? ⟨g4, 0, none⟩ = some (.pointer a)) := (hb.cell (p := ⟨g4, 0, none⟩) (by dsimp only; omega)).trans Hg4.out
  replace Hg6 : Hid ((w7.alloc (.cells #[.pointer a] 43)).cell? ⟨g6, 0, none⟩ = some (.pointer s)) := (hb.cell (p := ⟨g6, 0, none⟩) (by dsimp only; omega)).trans Hg6.out
  replace Hg7 : Hid ((w7.alloc (.cells #[.pointer a] 43)).cell? ⟨g7, 0, none⟩ = some (.pointer t)) := (hb.cell (p := ⟨g7, 0, none⟩) (by dsimp only; omega)).trans Hg7.out
  replace HI : Hid (IsVal (w7.alloc (.cells #[.pointer a] 43)) 0 a x) := isVal_below HI.out hb (Nat.le_refl _)
  replace HVs : Hid (Vl (w7.alloc (.cells #[.pointer a] 43)) s a true none) := HVs.out.below hb (Nat.le_refl _)
  replace HVt : Hid (Vl (w7.alloc (.cells #[.pointer a] 43)) t a true none) := HVt.out.below hb (Nat.le_refl _)
  replace HW : Hid (Below w.heap.size w (w7.alloc (.cells #[.pointer a] 43))) := HW.out.trans (hb.mono (by omega))
  clear hb
  generalize w7.alloc (.cells #[.pointer a] 43) = w8 at *
  generalize w7.heap.size = g8 at *
  refine (withSecret15_any a a none false false w8 (Or.inl ⟨isVal_plain HI.out, rfl, rfl, rfl⟩) (isVal_plain HI.out)).mono ?_
  rintro e w9 ⟨q, rfl, _, hu, hb⟩
  replace Hg4 : Hid (w9.cell? ⟨g4, 0, none⟩ = some (.pointer a)) := (hb.cell (p := ⟨g4, 0, none⟩) (by dsimp only; omega)).trans Hg4.out
  replace Hg6 : Hid (w9.cell? ⟨g6, 0, none⟩ = some (.pointer s)) := (hb.cell (p := ⟨g6, 0, none⟩) (by dsimp only; omega)).trans Hg6.out
  replace Hg7 : Hid (w9.cell? ⟨g7, 0, none⟩ = some (.pointer t)) := (hb.cell (p := ⟨g7, 0, none⟩) (by dsimp only; omega)).trans Hg7.out
  replace Hg8 : Hid (w9.cell? ⟨g8, 0, none⟩ = some (.pointer a)) := (hb.cell (p := ⟨g8, 0, none⟩) (by dsimp only; omega)).trans Hg8.out
  replace HI : Hid (IsVal w9 0 a x) := isVal_below HI.out hb (Nat.le_refl _)
  replace HVs : Hid (Vl w9 s a true none) := HVs.out.below hb (Nat.le_refl _)
  replace HVt : Hid (Vl w9 t a true none) := HVt.out.below hb (Nat.le_refl _)
  replace HW : Hid (Below w.heap.size w w9) := HW.out.trans (hb.mono (by omega))
  have zw9 := hb.size
  clear hb
  have hqa : q = a := hu rfl rfl
  rw [hqa]
  clear hu hqa
  have cg6 := Hg6.out
  have lg6 : g6 < w9.heap.size := by omega
  go_wp2_with fail
  clear cg6 lg6
  have Hg9 : Hid ((w9.alloc (.cells #[.pointer a] 43)).cell? ⟨w9.heap.size, 0, none⟩ = some (.pointer a)) := cell_of_row _ _ _ _ _ _ (heap_alloc_new w9 _)
  have hb : Below w9.heap.size w9 (w9.alloc (.cells #[.pointer a] 43)) := (Below.refl _ _).alloc (Nat.le_refl _) _
  have zw10 : w9.heap.size < (w9.alloc (.cells #[.pointer a] 43)).heap.size := by simp
  replace Hg4 : Hid ((w9.alloc (.cells #[.pointer a] 43)).cell? ⟨g4, 0, none⟩ = some (.pointer a)) := (hb.cell (p := ⟨g4, 0, none⟩) (by dsimp only; omega)).trans Hg4.out
  replace Hg6 : Hid ((w9.alloc (.cells #[.pointer a] 43)).cell? ⟨g6, 0, none⟩ = some (.pointer s)) := (hb.cell (p := ⟨g6, 0, none⟩) (by dsimp only; omega)).trans Hg6.out
  replace Hg7 : Hid ((w9.alloc (.cells #[.pointer a] 43)).cell? ⟨g7, 0, none⟩ = some (.pointer t)) := (hb.cell (p := ⟨g7, 0, none⟩) (by dsimp only; omega)).trans Hg7.out
  replace Hg8 : Hid ((w9.alloc (.cells #[.pointer a] 43)).cell? ⟨g8, 0, none⟩ = some (.pointer a)) := (hb.cell (p := ⟨g8, 0, none⟩) (by dsimp only; omega)).trans Hg8.out
  replace HI : Hid (IsVal (w9.alloc (.cells #[.pointer a] 43)) 0 a x) := isVal_below HI.out hb (Nat.le_refl _)
  replace HVs : Hid (Vl (w9.alloc (.cells #[.pointer a] 43)) s a true none) := HVs.out.below hb (Nat.le_refl _)
  replace HVt : Hid (Vl (w9.alloc (.cells #[.pointer a] 43)) t a true none) := HVt.out.below hb (Nat.le_refl _)
  replace HW : Hid (Below w.heap.size w (w9.alloc (.cells #[.pointer a] 43))) := HW.out.trans (hb.mono (by omega))
  clear hb
  generalize w9.alloc (.cells #[.pointer a] 43) = w10 at *
  generalize w9.heap.size = g9 at *
  have HU : Hid (U6 w w10 x a s t g4 g6 g7 g8 g9) := ⟨Hg4.out, Hg6.out, Hg7.out, Hg8.out, Hg9.out, HI.out, HVs.out, HVt.out, HW.out⟩
  clear Hg4 Hg6 Hg7 Hg8 Hg9 HI HVs HVt HW
  refine (secret16_any s a none true w10 HU.out.vs).mono ?_
  rintro e w11 ⟨rfl, hb⟩
  replace HU : Hid (U6 w w11 x a s t g4 g6 g7 g8 g9) := HU.out.next hb
  clear hb
  have c7 := HU.out.c7
  go_wp2_with fail
  clear c7
  refine (secret16_any t a none true w11 HU.out.vt).mono ?_
  rintro e w12 ⟨rfl, hb⟩
  replace HU : Hid (U6 w w12 x a s t g4 g6 g7 g8 g9) := HU.out.next hb
  clear hb
  have c8 := HU.out.c8
  go_wp2_with fail
  clear c8
  refine (secret16_any a a none false w12 (Or.inl ⟨isVal_plain HU.out.i, rfl, rfl, rfl⟩)).mono ?_
  rintro e w13 ⟨rfl, hb⟩
  replace HU : Hid (U6 w w13 x a s t g4 g6 g7 g8 g9) := HU.out.next hb
  clear hb
  have c9 := HU.out.c9
  go_wp2_with fail
  clear c9
  refine (secret16_any a a none false w13 (Or.inl ⟨isVal_plain HU.out.i, rfl, rfl, rfl⟩)).mono ?_
  rintro e w14 ⟨rfl, hb⟩
  replace HU : Hid (U6 w w14 x a s t g4 g6 g7 g8 g9) := HU.out.next hb
  clear hb
  have heq := neq41
  obtain ⟨c4, c6, c7, c8, c9⟩ : w14.cell? ⟨g4, 0, none⟩ = some (.pointer a) ∧ w14.cell? ⟨g6, 0, none⟩ = some (.pointer s) ∧ w14.cell? ⟨g7, 0, none⟩ = some (.pointer t) ∧ w14.cell? ⟨g8, 0, none⟩ = some (.pointer a) ∧ w14.cell? ⟨g9, 0, none⟩ = some (.pointer a) := ⟨HU.out.c4, HU.out.c6, HU.out.c7, HU.out.c8, HU.out.c9⟩
  go_wp2
  go_cut [44] (fun v wx => v = .bool false ∧ U6 w wx x a s t g4 g6 g7 g8 g9)
  case first =>
    go_region_held3 (fun w' => w'.cell? ⟨g4, 0, none⟩ = some (.pointer a) ∧ w'.cell? ⟨g6, 0, none⟩ = some (.pointer s) ∧ w'.cell? ⟨g7, 0, none⟩ = some (.pointer t) ∧ w'.cell? ⟨g8, 0, none⟩ = some (.pointer a) ∧ w'.cell? ⟨g9, 0, none⟩ = some (.pointer a))
      (exact ⟨HU.out.c4, HU.out.c6, HU.out.c7, HU.out.c8, HU.out.c9⟩)
      (first | (go_at_call 18; refine (zzplain18_any s a none true _ ?hh).mono ?_; (case hh => exact HU.out.vs); rintro e y ⟨rfl, hb⟩; replace HU : Hid (U6 w y x a s t g4 g6 g7 g8 g9) := HU.out.nextD hb ⟨rfl, rfl, rfl, Nat.le_refl _, fun _ _ => rfl⟩; clear hb) | (go_at_call 20; refine (handle20_any a _).mono ?_; rintro e y ⟨rfl, hb⟩; replace HU : Hid (U6 w y x a s t g4 g6 g7 g8 g9) := HU.out.nextD hb ⟨rfl, rfl, rfl, Nat.le_refl _, fun _ _ => rfl⟩; clear hb))
    all_goals
      go_wp2_with fail
      go_meet
      case rel => exact ⟨rfl, HU.out.next ⟨rfl, rfl, rfl, Nat.le_refl _, fun _ _ => rfl⟩⟩
  case rest =>
    obtain ⟨rfl, hU⟩ := hcut
    clear c4 c6 c7 c8 c9 HU
    have HU : Hid (U6 w wc x a s t g4 g6 g7 g8 g9) := hU
    clear hU
    rename World => w15
    obtain ⟨c4, c6, c7, c8, c9⟩ : w15.cell? ⟨g4, 0, none⟩ = some (.pointer a) ∧ w15.cell? ⟨g6, 0, none⟩ = some (.pointer s) ∧ w15.cell? ⟨g7, 0, none⟩ = some (.pointer t) ∧ w15.cell? ⟨g8, 0, none⟩ = some (.pointer a) ∧ w15.cell? ⟨g9, 0, none⟩ = some (.pointer a) := ⟨HU.out.c4, HU.out.c6, HU.out.c7, HU.out.c8, HU.out.c9⟩
    go_wp2
    go_cut [50] (fun v wx => v = .bool false ∧ U6 w wx x a s t g4 g6 g7 g8 g9)
    case first =>
      go_region_held3 (fun w' => w'.cell? ⟨g4, 0, none⟩ = some (.pointer a) ∧ w'.cell? ⟨g6, 0, none⟩ = some (.pointer s) ∧ w'.cell? ⟨g7, 0, none⟩ = some (.pointer t) ∧ w'.cell? ⟨g8, 0, none⟩ = some (.pointer a) ∧ w'.cell? ⟨g9, 0, none⟩ = some (.pointer a))
        (exact ⟨HU.out.c4, HU.out.c6, HU.out.c7, HU.out.c8, HU.out.c9⟩)
        (first | (go_at_call 18; refine (zzplain18_any t a none true _ ?hh).mono ?_; (case hh => exact HU.out.vt); rintro e y ⟨rfl, hb⟩; replace HU : Hid (U6 w y x a s t g4 g6 g7 g8 g9) := HU.out.nextD hb ⟨rfl, rfl, rfl, Nat.le_refl _, fun _ _ => rfl⟩; clear hb) | (go_at_call 20; refine (handle20_any a _).mono ?_; rintro e y ⟨rfl, hb⟩; replace HU : Hid (U6 w y x a s t g4 g6 g7 g8 g9) := HU.out.nextD hb ⟨rfl, rfl, rfl, Nat.le_refl _, fun _ _ => rfl⟩; clear hb))
      all_goals
        go_wp2_with fail
        go_meet
        case rel => exact ⟨rfl, HU.out.next ⟨rfl, rfl, rfl, Nat.le_refl _, fun _ _ => rfl⟩⟩
    case rest =>
      obtain ⟨rfl, hU⟩ := hcut
      clear c4 c6 c7 c8 c9 HU
      have HU : Hid (U6 w wc x a s t g4 g6 g7 g8 g9) := hU
      clear hU
      rename World => w16
      obtain ⟨c4, c6, c7, c8, c9⟩ : w16.cell? ⟨g4, 0, none⟩ = some (.pointer a) ∧ w16.cell? ⟨g6, 0, none⟩ = some (.pointer s) ∧ w16.cell? ⟨g7, 0, none⟩ = some (.pointer t) ∧ w16.cell? ⟨g8, 0, none⟩ = some (.pointer a) ∧ w16.cell? ⟨g9, 0, none⟩ = some (.pointer a) := ⟨HU.out.c4, HU.out.c6, HU.out.c7, HU.out.c8, HU.out.c9⟩
      go_wp2
      go_cut [55] (fun v wx => v = .bool false ∧ U6 w wx x a s t g4 g6 g7 g8 g9)
      case first =>
        go_region_held3 (fun w' => w'.cell? ⟨g4, 0, none⟩ = some (.pointer a) ∧ w'.cell? ⟨g6, 0, none⟩ = some (.pointer s) ∧ w'.cell? ⟨g7, 0, none⟩ = some (.pointer t) ∧ w'.cell? ⟨g8, 0, none⟩ = some (.pointer a) ∧ w'.cell? ⟨g9, 0, none⟩ = some (.pointer a))
          (exact ⟨HU.out.c4, HU.out.c6, HU.out.c7, HU.out.c8, HU.out.c9⟩)
          (((go_at_call 20; refine (handle20_any a _).mono ?_; rintro e y ⟨rfl, hb⟩; replace HU : Hid (U6 w y x a s t g4 g6 g7 g8 g9) := HU.out.nextD hb ⟨rfl, rfl, rfl, Nat.le_refl _, fun _ _ => rfl⟩; clear hb)))
        all_goals
          go_wp2_with fail
          go_meet
          case rel => exact ⟨rfl, HU.out.next ⟨rfl, rfl, rfl, Nat.le_refl _, fun _ _ => rfl⟩⟩
      case rest =>
        obtain ⟨rfl, hU⟩ := hcut
        clear c4 c6 c7 c8 c9 HU
        have HU : Hid (U6 w wc x a s t g4 g6 g7 g8 g9) := hU
        clear hU
        rename World => w17
        obtain ⟨c4, c6, c7, c8, c9⟩ : w17.cell? ⟨g4, 0, none⟩ = some (.pointer a) ∧ w17.cell? ⟨g6, 0, none⟩ = some (.pointer s) ∧ w17.cell? ⟨g7, 0, none⟩ = some (.pointer t) ∧ w17.cell? ⟨g8, 0, none⟩ = some (.pointer a) ∧ w17.cell? ⟨g9, 0, none⟩ = some (.pointer a) := ⟨HU.out.c4, HU.out.c6, HU.out.c7, HU.out.c8, HU.out.c9⟩
        go_wp2
        go_cut [60] (fun v wx => v = .bool false ∧ U6 w wx x a s t g4 g6 g7 g8 g9)
        case first =>
          go_region_held3 (fun w' => w'.cell? ⟨g4, 0, none⟩ = some (.pointer a) ∧ w'.cell? ⟨g6, 0, none⟩ = some (.pointer s) ∧ w'.cell? ⟨g7, 0, none⟩ = some (.pointer t) ∧ w'.cell? ⟨g8, 0, none⟩ = some (.pointer a) ∧ w'.cell? ⟨g9, 0, none⟩ = some (.pointer a))
            (exact ⟨HU.out.c4, HU.out.c6, HU.out.c7, HU.out.c8, HU.out.c9⟩)
            (((go_at_call 20; refine (handle20_any a _).mono ?_; rintro e y ⟨rfl, hb⟩; replace HU : Hid (U6 w y x a s t g4 g6 g7 g8 g9) := HU.out.nextD hb ⟨rfl, rfl, rfl, Nat.le_refl _, fun _ _ => rfl⟩; clear hb)))
          all_goals
            go_wp2_with fail
            go_meet
            case rel => exact ⟨rfl, HU.out.next ⟨rfl, rfl, rfl, Nat.le_refl _, fun _ _ => rfl⟩⟩
        case rest =>
          obtain ⟨rfl, hU⟩ := hcut
          clear c4 c6 c7 c8 c9 HU
          have HU : Hid (U6 w wc x a s t g4 g6 g7 g8 g9) := hU
          clear hU
          rename World => w18
          obtain ⟨c4, c6, c7, c8, c9⟩ : w18.cell? ⟨g4, 0, none⟩ = some (.pointer a) ∧ w18.cell? ⟨g6, 0, none⟩ = some (.pointer s) ∧ w18.cell? ⟨g7, 0, none⟩ = some (.pointer t) ∧ w18.cell? ⟨g8, 0, none⟩ = some (.pointer a) ∧ w18.cell? ⟨g9, 0, none⟩ = some (.pointer a) := ⟨HU.out.c4, HU.out.c6, HU.out.c7, HU.out.c8, HU.out.c9⟩
          go_wp2_with fail
          refine (zzplain18_any s a none true w18 HU.out.vs).mono ?_
          rintro e w19 ⟨rfl, hb⟩
          clear c4 c6 c7 c8 c9
          replace HU : Hid (U6 w w19 x a s t g4 g6 g7 g8 g9) := HU.out.next hb
          clear hb
          go_wp2_with fail
          refine (plainIs17_any a 0 x w19 HU.out.i).mono ?_
          rintro e w20 ⟨rfl, hb⟩
          go_wp2
          go_ret
          exact ⟨rfl, HU.out.below.trans (hb.mono HU.out.below.size)⟩

end Go.Proofs.Qxb6614646a
