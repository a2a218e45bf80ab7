/-
  The rows of values and of answers, and one float made into them.
-/
import Derived.Test.Qxb6614646aK
import Derived.Test.Qxb6614646aI
namespace Go.Proofs.Qxb6614646a
open Go.RowKit

/-- Two rows of n: values at vb, answers at ob; their first k are those of the floats X. -/
def Rw (w : World) (vb ob n k : Nat) (X : Nat → Nat) : Prop := ∃ (cs : Array Value) (A : Nat → Option Addr) (ds : Array Value), w.heap[vb]? = some (.cells cs 43 (0, 0)) ∧ cs.size = n ∧ (∀ (j y : Nat), cs[j]? ≠ some (Value.float .f64 y)) ∧ (∀ j, j < k → cs[j]? = some (.pointer (A j)) ∧ IsVal w 0 (A j) (X j)) ∧
  w.heap[ob]? = some (.cells ds 4 (0, 0)) ∧ ds.size = n ∧ (∀ (j y : Nat), ds[j]? ≠ some (Value.float .f64 y)) ∧ ∀ j, j < k → ds[j]? = some (.bool (Fl.fin (X j)))

theorem Rw.noF {w : World} {vb ob n k : Nat} {X : Nat → Nat} (h : Rw w vb ob n k X) : NoF w vb ∧ NoF w ob ∧ vb < w.heap.size ∧ ob < w.heap.size := by
  obtain ⟨cs, A, ds, h1, _, h3, _, h5, _, h7, _⟩ := h
  exact ⟨noF_row h1 h3, noF_row h5 h7, (Array.getElem?_eq_some_iff.1 h1).1, (Array.getElem?_eq_some_iff.1 h5).1⟩

theorem Rw.keep {w w' : World} {F vb ob n k : Nat} {X : Nat → Nat} {ex : Nat → Prop} (h : Rw w vb ob n k X) (st : Stp w w' F ex) (e1 : ¬ ex vb) (e2 : ¬ ex ob) : Rw w' vb ob n k X := by
  obtain ⟨n1, n2, l1, l2⟩ := h.noF
  obtain ⟨cs, A, ds, h1, h2, h3, h4, h5, h6, h7, h8⟩ := h
  exact ⟨cs, A, ds, (st.plain vb l1 e1 n1).trans h1, h2, h3, fun j hj => ⟨(h4 j hj).1, isVal_of (h4 j hj).2 (fun b o y _ hh => st.held b o y hh)⟩, (st.plain ob l2 e2 n2).trans h5, h6, h7, h8⟩

theorem Rw.spot {w : World} {vb ob n k : Nat} {X : Nat → Nat} (h : Rw w vb ob n k X) (j : Nat) (hj : j < n) : (∃ v, w.cell? ⟨vb, j, none⟩ = some v) ∧ w.frozen? ⟨vb, j, none⟩ = false ∧ (∃ v, w.cell? ⟨ob, j, none⟩ = some v) ∧ w.frozen? ⟨ob, j, none⟩ = false := by
  obtain ⟨cs, A, ds, h1, h2, _, _, h5, h6, _, _⟩ := h
  exact ⟨⟨cs[j]'(by omega), by rw [cell_of_row _ _ _ _ _ _ h1, Array.getElem?_eq_getElem (by omega)]⟩, by simp [World.frozen?, h1], ⟨ds[j]'(by omega), by rw [cell_of_row _ _ _ _ _ _ h5, Array.getElem?_eq_getElem (by omega)]⟩, by simp [World.frozen?, h5]⟩

/-- The world behind the laying of one value and one answer. -/
abbrev put2 (w : World) (vb ob k : Nat) (a : Option Addr) (f : Bool) (x : Obj) : World := ((w.setCell ⟨vb, k, none⟩ (.pointer a)).setCell ⟨ob, k, none⟩ (.bool f)).alloc x

theorem Rw.put {w : World} {F vb ob n k : Nat} {X : Nat → Nat} {a : Option Addr} (h : Rw w vb ob n k X) (hk : k < n) (hvo : vb ≠ ob) (hFv : F ≤ vb) (hFo : F ≤ ob) (x : Obj) (hv : IsVal w 0 a (X k)) :
    Stp w (put2 w vb ob k a (Fl.fin (X k)) x) F (fun y => y = vb ∨ y = ob) ∧ Rw (put2 w vb ob k a (Fl.fin (X k)) x) vb ob n (k + 1) X := by
  obtain ⟨n1, n2, l1, l2⟩ := h.noF
  have s1 : Stp w (w.setCell ⟨vb, k, none⟩ (.pointer a)) F (fun y => y = vb) := Stp.set hFv n1
  have n2' : NoF (w.setCell ⟨vb, k, none⟩ (.pointer a)) ob := NoF.block (s1.plain ob l2 (Ne.symm hvo) n2) n2
  have s2 : Stp (w.setCell ⟨vb, k, none⟩ (.pointer a)) ((w.setCell ⟨vb, k, none⟩ (.pointer a)).setCell ⟨ob, k, none⟩ (.bool (Fl.fin (X k)))) F (fun y => y = ob) := Stp.set hFo n2'
  have s3 : Stp ((w.setCell ⟨vb, k, none⟩ (.pointer a)).setCell ⟨ob, k, none⟩ (.bool (Fl.fin (X k)))) (put2 w vb ob k a (Fl.fin (X k)) x) F (fun _ => False) := Stp.alloc x (by rw [setSize, setSize]; omega)
  have st := (s1.trans s2).trans s3
  refine ⟨⟨st.os, st.tape, st.output, st.size, st.held, st.shape, st.low, fun y hy he hn => st.plain y hy (fun h => ?_) hn⟩, ?_⟩
  · rcases h with h | h
    · exact he h
    · exact h
  · obtain ⟨cs, A, ds, h1, h2, h3, h4, h5, h6, h7, h8⟩ := h
    refine ⟨cs.setIfInBounds k (.pointer a), fun j => if j = k then a else A j, ds.setIfInBounds k (.bool (Fl.fin (X k))), ?_, by simpa using h2, set_nof h3 (fun y e => by cases e), fun j hj => ?_, ?_, by simpa using h6, set_nof h7 (fun y e => by cases e), fun j hj => ?_⟩
    · rw [Below.heap_alloc _ _ _ (by rw [setSize, setSize]; exact l1), Below.heap_setCell _ _ _ _ hvo]
      exact blk_set _ h1
    · dsimp only
      rw [Array.getElem?_setIfInBounds]
      by_cases e : j = k
      · subst e
        rw [if_pos rfl, if_pos (by omega), if_pos rfl]
        exact ⟨rfl, isVal_of hv (fun b o y _ hh => st.held b o y hh)⟩
      · rw [if_neg (Ne.symm e), if_neg e]
        exact ⟨(h4 j (by omega)).1, isVal_of (h4 j (by omega)).2 (fun b o y _ hh => st.held b o y hh)⟩
    · rw [Below.heap_alloc _ _ _ (by rw [setSize, setSize]; exact l2)]
      refine blk_set _ ?_
      rw [Below.heap_setCell _ _ _ _ (Ne.symm hvo)]
      exact h5
    · rw [Array.getElem?_setIfInBounds]
      by_cases e : j = k
      · subst e
        rw [if_pos rfl, if_pos (by omega)]
      · rw [if_neg (Ne.symm e)]
        exact h8 j (by omega)

/-- Maker.Number, whatever the float. -/
theorem number8_any2 (g F x : Nat) (w : World) (hx : x < 18446744073709551616) (hFg : F ≤ g) (hmk : MkOk2 w g F) :
    Calls Try.prog 8 #[.pointer (some ⟨g, 0, none⟩), .float .f64 x] w fun e w' => ∃ a, e = .returned (.tuple #[.agg #[.pointer a], .bool (Fl.fin x)]) ∧ IsVal w' 0 a x ∧ Stp w w' F (fun k => k = g) ∧ MkOk2 w' g F := by
  cases hf : Fl.fin x with
  | true =>
    refine (number8_fin2 g F x w hx hf hFg hmk).mono ?_
    rintro e w' ⟨b, o, rfl, hg⟩
    exact ⟨_, rfl, Or.inr ⟨hf, b, o, rfl, Nat.zero_le _, hg.it⟩, hg.stp, hg.maker⟩
  | false =>
    refine (number8_inf _ x w hx hf).mono ?_
    rintro e w' ⟨rfl, hb⟩
    have st := Stp.of_below (F := F) (by have := hmk.lt; omega) hb
    exact ⟨_, rfl, Or.inl ⟨hf, rfl⟩, ⟨st.os, st.tape, st.output, st.size, st.held, st.shape, st.low, fun k hk _ hn => st.plain k hk (fun h => h) hn⟩, st.maker hmk (fun h => h)⟩

/-- allRead over two whole rows. -/
theorem allRead_rw (vb ob n xc : Nat) (sa : Option Addr) (X : Nat → Nat) (w : World) (hn : n ≤ 65536) (h : Rw w vb ob n n X)
    (hx : 0 < n → ∃ xb xo, sa = some ⟨xb, xo, none⟩ ∧ xb < w.heap.size ∧ ∀ j, j < n → w.cell? ⟨xb, xo + j, none⟩ = some (.float .f64 (X j))) :
    Calls Try.prog 9 #[.slice (some ⟨vb, 0, none⟩) n n, .slice (some ⟨ob, 0, none⟩) n n, .slice sa n xc] w fun e w' => e = .returned (.bool true) ∧ Below w.heap.size w w' := by
  obtain ⟨_, _, l1, l2⟩ := h.noF
  obtain ⟨cs, A, ds, h1, h2, h3, h4, h5, h6, h7, h8⟩ := h
  exact allRead9_any vb ob n n n xc 0 sa X A w hn l1 l2 (fun j hj => (cell_of_row _ _ _ _ _ _ h1).trans (h4 j hj).1) (fun j hj => (cell_of_row _ _ _ _ _ _ h5).trans (h8 j hj)) hx (fun j hj => (h4 j hj).2)

end Go.Proofs.Qxb6614646a
