/-
  FnMakerNumberScript: the walk.
-/
import Derived.Test.Qxb6614646aG
namespace Go.Proofs.Qxb6614646a
open Go.RowKit

set_option maxHeartbeats 400000 in
theorem bytes7_any (a : Option Addr) (n c : Nat) (w : World) (hn : n ≤ maxLen) : Calls Try.prog 7 #[.slice a n c] w fun e w' => ∃ z, e = .returned (.bool z) ∧ w' = w := by
  unfold maxLen at hn
  by_cases h : 1048576 < n
  · go_enter Try.func7, Try.ntmps7
    go_wp2
    go_ret
    exact ⟨_, rfl, rfl⟩
  · go_enter Try.func7, Try.ntmps7
    go_wp2
    go_ret
    exact ⟨_, rfl, rfl⟩

def ZM : Array Value := #[.slice none 0 0, .int .i64 0, .slice none 0 0, .int .i64 0, .slice none 0 0, .int .i64 0, .slice none 0 0, .int .i64 0]

/-- The state of the script: k floats made. The Maker lies at g, the values at vb, the answers at ob, the Maker's memory at F and above. -/
structure Sc (w wr : World) (g vb ob F n k : Nat) (X : Nat → Nat) : Prop where
  maker : MkOk wr g F
  size : F ≤ wr.heap.size
  below : Below w.heap.size w wr
  vals : ∃ (cs : Array Value) (A : Nat → Option Addr), wr.heap[vb]? = some (.cells cs 43 (0, 0)) ∧ cs.size = n ∧ ∀ j, j < k → cs[j]? = some (.pointer (A j)) ∧ IsVal wr F (A j) (X j)
  oks : ∃ ds : Array Value, wr.heap[ob]? = some (.cells ds 4 (0, 0)) ∧ ds.size = n ∧ ∀ j, j < k → ds[j]? = some (.bool (Fl.fin (X j)))

theorem isVal_of {w w' : World} {F x : Nat} {a : Option Addr} (h : IsVal w F a x) (hh : ∀ b o y, F ≤ b → Held w b o y → Held w' b o y) : IsVal w' F a x := by
  rcases h with h | ⟨h1, b, o, h2, h3, h4⟩
  · exact Or.inl h
  · exact Or.inr ⟨h1, b, o, h2, h3, hh b o _ h3 h4⟩

/-- One float more: the world w3 behind Number; then the value and the answer are laid into their rows, and a scratch block is added. -/
theorem Sc.next {w wr w3 : World} {g vb ob F n k : Nat} {X : Nat → Nat} {a : Option Addr} (h : Sc w wr g vb ob F n k X) (hk : k < n) (hg : w.heap.size ≤ g) (hgv : g ≠ vb) (hgo : g ≠ ob) (hvo : vb ≠ ob) (hvF : vb < F) (hoF : ob < F) (hgF : g < F) (hwv : w.heap.size ≤ vb) (hwo : w.heap.size ≤ ob) (x : Obj)
    (hs : wr.heap.size ≤ w3.heap.size) (hos : w3.os = wr.os) (htp : w3.tape = wr.tape) (hou : w3.output = wr.output)
    (hbl : ∀ j, j < F → j ≠ g → w3.heap[j]? = wr.heap[j]?) (hhe : ∀ b o y, F ≤ b → Held wr b o y → Held w3 b o y) (hmk : MkOk w3 g F) (hv : IsVal w3 F a (X k)) :
    Sc w (((w3.setCell ⟨vb, k, none⟩ (.pointer a)).setCell ⟨ob, k, none⟩ (.bool (Fl.fin (X k)))).alloc x) g vb ob F n (k + 1) X := by
  obtain ⟨cs, A, hvr, hvs, hva⟩ := h.vals
  obtain ⟨ds, hor, hds, hoa⟩ := h.oks
  have hsz := h.size
  have hsz3 : (((w3.setCell ⟨vb, k, none⟩ (.pointer a)).setCell ⟨ob, k, none⟩ (.bool (Fl.fin (X k)))).heap.size) = w3.heap.size := by rw [setSize, setSize]
  have far : ∀ j, j < w3.heap.size → j ≠ vb → j ≠ ob → (((w3.setCell ⟨vb, k, none⟩ (.pointer a)).setCell ⟨ob, k, none⟩ (.bool (Fl.fin (X k)))).alloc x).heap[j]? = w3.heap[j]? := fun j hj h1 h2 => by
    rw [Below.heap_alloc _ _ _ (by rw [hsz3]; exact hj), Below.heap_setCell _ _ _ _ h2, Below.heap_setCell _ _ _ _ h1]
  have hh : ∀ b o y, F ≤ b → Held w3 b o y → Held (((w3.setCell ⟨vb, k, none⟩ (.pointer a)).setCell ⟨ob, k, none⟩ (.bool (Fl.fin (X k)))).alloc x) b o y := fun b o y hF hl => held_block (far b (held_lt hl) (by omega) (by omega)) hl
  refine ⟨?_, ?_, ⟨hos.trans h.below.os, htp.trans h.below.tape, hou.trans h.below.output, ?_, fun j hj => ?_⟩, ?_, ?_⟩
  · exact mk_block (far g (by omega) hgv hgo) hmk (fun b o hF hl => shape_block (far b (shape_lt hl) (by omega) (by omega)) hl)
  · rw [allocSize, hsz3]; omega
  · have := h.below.size
    rw [allocSize, hsz3]; omega
  · rw [far j (by have := h.below.size; omega) (by omega) (by omega), hbl j (by have := h.below.size; omega) (by omega), h.below.block j hj]
  · refine ⟨cs.setIfInBounds k (.pointer a), fun j => if j = k then a else A j, ?_, by simpa using hvs, fun j hj => ?_⟩
    · rw [Below.heap_alloc _ _ _ (by rw [hsz3]; omega), Below.heap_setCell _ _ _ _ hvo]
      exact blk_set _ ((hbl vb hvF (Ne.symm hgv)).trans hvr)
    · dsimp only
      rw [Array.getElem?_setIfInBounds]
      by_cases e : j = k
      · subst e
        rw [if_pos rfl, if_pos (by omega), if_pos rfl]
        exact ⟨rfl, isVal_of hv hh⟩
      · rw [if_neg (Ne.symm e), if_neg e]
        exact ⟨(hva j (by omega)).1, isVal_of (isVal_of (hva j (by omega)).2 hhe) hh⟩
  · refine ⟨ds.setIfInBounds k (.bool (Fl.fin (X k))), ?_, by simpa using hds, fun j hj => ?_⟩
    · rw [Below.heap_alloc _ _ _ (by rw [hsz3]; omega)]
      refine blk_set _ ?_
      rw [Below.heap_setCell _ _ _ _ (Ne.symm hvo)]
      exact (hbl ob hoF (Ne.symm hgo)).trans hor
    · rw [Array.getElem?_setIfInBounds]
      by_cases e : j = k
      · subst e
        rw [if_pos rfl, if_pos (by omega)]
      · rw [if_neg (Ne.symm e)]
        exact hoa j (by omega)

end Go.Proofs.Qxb6614646a
