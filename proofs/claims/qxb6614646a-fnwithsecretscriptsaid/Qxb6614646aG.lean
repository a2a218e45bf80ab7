/-
  allRead: every value reads as its own float.
-/
import Derived.Test.Qxb6614646aF
namespace Go.Proofs.Qxb6614646a
open Go.RowKit

/-- The pointer a is what a Maker gives for the float x: null where x is not finite. -/
def IsVal (w : World) (F : Nat) (a : Option Addr) (x : Nat) : Prop := (Fl.fin x = false ∧ a = none) ∨ (Fl.fin x = true ∧ ∃ b o, a = some ⟨b, o, none⟩ ∧ F ≤ b ∧ Held w b o (Fl.norm x))

theorem isVal_below {w w' : World} {F x B : Nat} {a : Option Addr} (h : IsVal w F a x) (hb : Below B w w') (hB : w.heap.size ≤ B) : IsVal w' F a x := by
  rcases h with h | ⟨h1, b, o, h2, h3, h4⟩
  · exact Or.inl h
  · exact Or.inr ⟨h1, b, o, h2, h3, held_block (hb.block b (Nat.lt_of_lt_of_le (held_lt h4) hB)) h4⟩

theorem plainIs17_any (a : Option Addr) (F x : Nat) (w : World) (h : IsVal w F a x) : Calls Try.prog 17 #[.agg #[.pointer a], .float .f64 x] w fun e w' => e = .returned (.bool true) ∧ Below w.heap.size w w' := by
  rcases h with ⟨h1, rfl⟩ | ⟨h1, b, o, rfl, _, h4⟩
  · exact plainIs17_inf x h1 w
  · exact plainIs17_fin b o x h1 w h4

set_option maxRecDepth 100000 in
set_option maxHeartbeats 1600000 in
theorem allRead9_any (vb ob n vc oc xc F : Nat) (sa : Option Addr) (X : Nat → Nat) (A : Nat → Option Addr) (w : World) (hn : n ≤ 65536) (hvb : vb < w.heap.size) (hob : ob < w.heap.size)
    (hv : ∀ j, j < n → w.cell? ⟨vb, j, none⟩ = some (.pointer (A j))) (ho : ∀ j, j < n → w.cell? ⟨ob, j, none⟩ = some (.bool (Fl.fin (X j))))
    (hx : 0 < n → ∃ xb xo, sa = some ⟨xb, xo, none⟩ ∧ xb < w.heap.size ∧ ∀ j, j < n → w.cell? ⟨xb, xo + j, none⟩ = some (.float .f64 (X j))) (hval : ∀ j, j < n → IsVal w F (A j) (X j)) :
    Calls Try.prog 9 #[.slice (some ⟨vb, 0, none⟩) n vc, .slice (some ⟨ob, 0, none⟩) n oc, .slice sa n xc] w fun e w' => e = .returned (.bool true) ∧ Below w.heap.size w w' := by
  have HV := show Hid _ from hv
  have HO := show Hid _ from ho
  have HX := show Hid _ from hx
  have HA := show Hid _ from hval
  clear hv ho hx hval
  go_enter Try.func9, Try.ntmps9
  go_wp2
  go_loopw [7] (fun v wr => ∃ k : Nat, k ≤ n ∧ v = .int .i64 k ∧ Below w.heap.size w wr) (fun v _ => n - (intOf v).toNat)
  case atStart => exact ⟨0, by omega, rfl, Below.refl _ _⟩
  case round =>
    obtain ⟨k, hk, rfl, hbel⟩ := hrel
    have HB : Hid (Below w.heap.size w wr) := hbel
    by_cases hlt : k < n
    · obtain ⟨xb, xo, rfl, hxb, hxc⟩ := HX.out (by omega)
      have cv : wr.cell? ⟨vb, k, none⟩ = some (.pointer (A k)) := (hbel.cell (p := ⟨vb, k, none⟩) hvb).trans (HV.out k hlt)
      have co : wr.cell? ⟨ob, k, none⟩ = some (.bool (Fl.fin (X k))) := (hbel.cell (p := ⟨ob, k, none⟩) hob).trans (HO.out k hlt)
      have cx : wr.cell? ⟨xb, xo + k, none⟩ = some (.float .f64 (X k)) := (hbel.cell (p := ⟨xb, xo + k, none⟩) hxb).trans (hxc k hlt)
      have hw : IsVal wr F (A k) (X k) := isVal_below (HA.out k hlt) hbel (Nat.le_refl _)
      have HI := show Hid _ from hw
      have hsz := hbel.size
      clear hw hxc hbel
      generalize A k = ak at *
      generalize X k = x at *
      have HS : Hid (wr.cell? ⟨vb, k, none⟩ = some (.pointer ak) ∧ wr.cell? ⟨ob, k, none⟩ = some (.bool (Fl.fin x)) ∧ wr.cell? ⟨xb, xo + k, none⟩ = some (.float .f64 x)) := ⟨cv, co, cx⟩
      go_wp2
      go_region_held3 (fun w' => w'.cell? ⟨vb, k, none⟩ = some (.pointer ak) ∧ w'.cell? ⟨ob, k, none⟩ = some (.bool (Fl.fin x)) ∧ w'.cell? ⟨xb, xo + k, none⟩ = some (.float .f64 x))
        (exact HS.out)
        ((go_at_call 23; refine (finite23_any x _).mono ?_; rintro e w3 ⟨rfl, q, hq⟩; subst hq))
      all_goals
        go_wp2
        go_region_held3 (fun w' => w'.cell? ⟨vb, k, none⟩ = some (.pointer ak) ∧ w'.cell? ⟨ob, k, none⟩ = some (.bool (Fl.fin x)) ∧ w'.cell? ⟨xb, xo + k, none⟩ = some (.float .f64 x))
          (first | exact HS.out | exact ⟨(HB6.out.cell (p := ⟨vb, k, none⟩) (show vb < wr.heap.size by omega)).trans HS.out.1, (HB6.out.cell (p := ⟨ob, k, none⟩) (show ob < wr.heap.size by omega)).trans HS.out.2.1, (HB6.out.cell (p := ⟨xb, xo + k, none⟩) (show xb < wr.heap.size by omega)).trans HS.out.2.2⟩)
          ((go_at_call 17; refine (plainIs17_any ak F x _ ?hh).mono ?_; (case hh => exact HI.out); rintro e w6 ⟨rfl, hb6⟩; have HB6 := show Hid _ from hb6; clear hb6))
        go_wp2
        go_roundw
        case rel => exact ⟨k + 1, by omega, by go_num, HB.out.trans ((drewN_below _).trans (HB6.out.mono hsz))⟩
        case measure => simp [intOf]; omega
    · have hkn : k = n := by omega
      subst hkn
      go_wp2
      go_ret
      exact ⟨rfl, HB.out⟩

end Go.Proofs.Qxb6614646a
