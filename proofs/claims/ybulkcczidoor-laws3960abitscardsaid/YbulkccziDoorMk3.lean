import Derived.Test.YbulkccziDoorMk2
namespace Go.Proofs.YbulkccziDoor
open Go.RowKit
/-! The counts of the tokens. -/
def bump (fs : List Nat) (s : Nat) : List Nat := fs.set s (fs.getD s 0 + 1)
def frqK (ts : List Tk) : Nat → List Nat
  | 0 => zeroL
  | k + 1 => bump (frqK ts k) (ts.getD k (0, 0)).1
theorem frqK_len (ts : List Tk) : ∀ k, (frqK ts k).length = 19
  | 0 => rfl
  | k + 1 => by rw [frqK, bump, List.length_set, frqK_len ts k]
theorem frqK_le (ts : List Tk) : ∀ k s, (frqK ts k).getD s 0 ≤ k
  | 0, s => by
    simp only [frqK, zeroL, List.getD, List.getElem?_replicate]
    split <;> simp
  | k + 1, s => by
    have ih := frqK_le ts k
    rw [frqK, bump]
    simp only [List.getD, List.getElem?_set]
    split
    · split
      · have := ih (ts.getD k (0, 0)).1; simp only [List.getD] at this ⊢; simp; omega
      · simp
    · have := ih s; simp only [List.getD] at this; omega
/-- MT, and the block of the counts. -/
structure MF (w : World) (H LB C nl nd : Nat) (ca : Array Value) (vl : Value) (L : List Nat) (vt : Value) (N : Nat) (fs : List Nat) (wr : World) : Prop where
  t : MT w H LB C nl nd ca vl L (tk L) vt wr
  nb : wr.heap[N]? = some (.cells (fA fs) 53 (0, 0))
  lo : w.heap.size ≤ N
section
variable {w : World} {H LB C nl nd : Nat} {ca : Array Value} {vl : Value} {L : List Nat} {vt : Value} {N : Nat} {fs : List Nat} {wr : World}
theorem own_ne53 {base : Nat} {e : TypeId} {z : Nat} {v : Value} {n : Nat} {xs : List Value} (h : wr.ownsRow base e z v n xs) {a : Array Value} {T : TypeId} (hN : wr.heap[N]? = some (.cells a T (0, 0))) (he : e ≠ T) : v.ownBlock = none ∨ v.ownBlock ≠ some N := by
  rcases h.2 with ⟨rfl, _⟩ | ⟨g, cap, cu, rfl, hb, hg, _⟩
  · exact Or.inl rfl
  · refine Or.inr fun e' => ?_
    simp [Value.ownBlock] at e'
    subst e'
    rw [hg] at hN
    simp at hN
    exact he hN.2
theorem MF.alloc (h : MF w H LB C nl nd ca vl L vt N fs wr) (o : Obj) : MF w H LB C nl nd ca vl L vt N fs (wr.alloc o) :=
  ⟨h.t.alloc o, by rw [Below.heap_alloc _ _ _ (Array.getElem?_eq_some_iff.1 h.nb).1]; exact h.nb, h.lo⟩
theorem MF.start (h : MT w H LB C nl nd ca vl L (tk L) vt wr) : MF w H LB C nl nd ca vl L vt wr.heap.size zeroL (wr.alloc (.cells (fA zeroL) 53)) :=
  ⟨h.alloc _, heap_alloc_new wr _, h.k.size⟩
theorem MF.inc (h : MF w H LB C nl nd ca vl L vt N fs wr) (s z : Nat) : MF w H LB C nl nd ca vl L vt N (fs.set s z) (wr.setCell ⟨N, s, none⟩ (.int .i32 (z : Int))) := by
  have hg : wr.grownBy (wr.setCell ⟨N, s, none⟩ (.int .i32 (z : Int))) (some N) := ⟨rfl, rfl, rfl, by simp [World.setCell], fun k _ hr => Below.heap_setCell _ _ _ _ (fun e => hr (by rw [e]))⟩
  refine ⟨⟨h.t.k.grown hg (fun k hk => by simp at hk; have := h.lo; omega), h.t.ll.kept hg (own_ne53 h.t.ll h.nb (by decide)), h.t.tt.kept hg (own_ne53 h.t.tt h.nb (by decide))⟩, ?_, h.lo⟩
  rw [heap_setCell_same' _ _ _ _ _ _ h.nb, fA_set]
end
end Go.Proofs.YbulkccziDoor
