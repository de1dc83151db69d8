import Derived.Test.YbulkccziDoorMk0
namespace Go.Proofs.YbulkccziDoor
open Go.RowKit
theorem OutRow.cap {w0 : World} {H LB C g c : Nat} {l : List Nat} (h : OutRow w0 H LB C g c l) : l.length ≤ c := by
  rcases h.own.2 with ⟨hv, _⟩ | ⟨g', cap, cu, hv, _, _, h2, _⟩
  · simp at hv
  · simp at hv; omega
theorem want_row {w2 : World} {B H : Nat} {va : Option Addr} {vc nl nd : Nat} {a b : List Nat} (h : w2.ownsRow B 5 1 (.slice va (0 + nl + nd) vc) (0 + nl + nd) (([] ++ bL a) ++ bL b)) (hH : H < B) (u : Value) :
    (w2.setCell ⟨H, 3, none⟩ u).ownsRow B 5 1 (.slice va (nl + nd) vc) (nl + nd) (bL (a ++ b)) := by
  have := ownsRow_setCell_below h (a := ⟨H, 3, none⟩) hH u
  simpa [bL] using this
structure MT (w : World) (H LB C nl nd : Nat) (ca : Array Value) (vl : Value) (L : List Nat) (done : List Tk) (vt : Value) (wr : World) : Prop where
  k : MK w H LB C (hcA nl nd 0 0 vl vt) ca wr
  ll : wr.ownsRow w.heap.size 5 1 vl L.length (bL L)
  tt : wr.ownsRow w.heap.size 45 2 vt done.length (tC done)
theorem own_apart {w : World} {base : Nat} {e e' : TypeId} {z z' : Nat} {v v' : Value} {n n' : Nat} {xs xs' : List Value} (h : w.ownsRow base e z v n xs) (h' : w.ownsRow base e' z' v' n' xs') (hne : e ≠ e') : v.ownBlock = none ∨ v.ownBlock ≠ v'.ownBlock := by
  rcases h.2 with ⟨rfl, _⟩ | ⟨g, cap, cu, rfl, hb, hg, _⟩
  · exact Or.inl rfl
  · rcases h'.2 with ⟨rfl, _⟩ | ⟨g', cap', cu', rfl, hb', hg', _⟩
    · exact Or.inr (by simp [Value.ownBlock])
    · refine Or.inr fun he => ?_
      simp [Value.ownBlock] at he
      subst he
      rw [hg] at hg'
      simp at hg'
      exact hne hg'.2
section
variable {w : World} {H LB C nl nd : Nat} {ca : Array Value} {vl : Value} {L : List Nat} {done : List Tk} {vt : Value} {wr : World}
theorem MT.alloc (h : MT w H LB C nl nd ca vl L done vt wr) (o : Obj) : MT w H LB C nl nd ca vl L done vt (wr.alloc o) := ⟨h.k.alloc o, h.ll.alloc o, h.tt.alloc o⟩
theorem MT.app (h : MT w H LB C nl nd ca vl L done vt wr) {v' : Value} {w1 : World} {ob : Obj} {x y : Nat} (ho : w1.ownsRow w.heap.size 45 2 v' (done.length + 1) (tC done ++ [.int .u8 (x : Nat), .int .u8 (y : Nat)])) (hg : (wr.alloc ob).grownBy w1 vt.ownBlock) :
    MT w H LB C nl nd ca vl L (done ++ [(x, y)]) v' (w1.setCell ⟨H, 4, none⟩ v') := by
  have h1 := h.alloc ob
  have hm := h1.k.grown hg (fun k hk => (h1.tt.lt k hk).1)
  refine ⟨hm.seth 4 v', ?_, ?_⟩
  · exact ownsRow_setCell_below (h1.ll.kept hg (own_apart h1.ll h1.tt (by decide))) hm.lt.1 v'
  · rw [tC_app, List.length_append]
    exact ownsRow_setCell_below ho hm.lt.1 v'
theorem MT.q4 (h : MT w H LB C nl nd ca vl L done vt wr) {w1 : World} {ob : Obj} (hg : (wr.alloc ob).grownBy w1 vt.ownBlock) : w1.cell? ⟨H, 4, none⟩ = some vt ∧ w1.frozen? ⟨H, 4, none⟩ = false := by
  have h1 := h.alloc ob
  have hm := h1.k.grown hg (fun k hk => (h1.tt.lt k hk).1)
  exact ⟨cellAt hm.hh 4 _ rfl, frozenAt hm.hh 4⟩
theorem MT.cells (h : MT w H LB C nl nd ca vl L done vt wr) : wr.cell? ⟨H, 3, none⟩ = some vl ∧ wr.cell? ⟨H, 4, none⟩ = some vt ∧ wr.frozen? ⟨H, 4, none⟩ = false := ⟨cellAt h.k.hh 3 _ rfl, cellAt h.k.hh 4 _ rfl, frozenAt h.k.hh 4⟩
end
end Go.Proofs.YbulkccziDoor
