import Derived.Test.YbulkccziDoorHuf0
import Derived.Test.YbulkccziDoorGrow
import Derived.Below
namespace Go.Proofs.YbulkccziDoor
open Go.RowKit
/-- Of w's first B blocks at most two have turned. -/
structure Keep (B LB C : Nat) (w w' : World) : Prop where
  os : w'.os = w.os
  tape : w'.tape = w.tape
  output : w'.output = w.output
  size : w.heap.size ≤ w'.heap.size
  block : ∀ k, k < B → k ≠ LB → k ≠ C → w'.heap[k]? = w.heap[k]?
theorem Keep.refl (B LB C : Nat) (w : World) : Keep B LB C w w := ⟨rfl, rfl, rfl, Nat.le_refl _, fun _ _ _ _ => rfl⟩
theorem Keep.trans {B LB C : Nat} {a b c : World} (h : Keep B LB C a b) (k : Keep B LB C b c) : Keep B LB C a c :=
  ⟨k.os.trans h.os, k.tape.trans h.tape, k.output.trans h.output, Nat.le_trans h.size k.size, fun i h1 h2 h3 => (k.block i h1 h2 h3).trans (h.block i h1 h2 h3)⟩
theorem Keep.drewN {B LB C : Nat} {a b : World} (h : Keep B LB C a b) (q : Nat) : Keep B LB C a (b.drewN q) := ⟨h.os, h.tape, h.output, h.size, h.block⟩
theorem Keep.setCell {B LB C : Nat} {a b : World} (h : Keep B LB C a b) (p : Addr) (v : Value) (hp : B ≤ p.block ∨ p.block = LB ∨ p.block = C) : Keep B LB C a (b.setCell p v) :=
  ⟨h.os, h.tape, h.output, by simpa [World.setCell] using h.size, fun k h1 h2 h3 => (Below.heap_setCell _ _ _ _ (by rcases hp with hp | hp | hp <;> omega)).trans (h.block k h1 h2 h3)⟩
theorem Keep.grown {B LB C : Nat} {a b c : World} (h : Keep B LB C a b) {row : Option Nat} (hg : b.grownBy c row) (hB : B ≤ b.heap.size) (hr : ∀ k, row = some k → B ≤ k) : Keep B LB C a c :=
  ⟨hg.os.trans h.os, hg.tape.trans h.tape, hg.output.trans h.output, Nat.le_trans h.size hg.size, fun k h1 h2 h3 => (hg.block k (by omega) (fun e => by have := hr k e.symm; omega)).trans (h.block k h1 h2 h3)⟩
/-- The code's cells: 19 lengths, and the rest. -/
def clA (ls : List Nat) (rest : List Value) : Array Value := (ls.map (fun z => Value.int .u8 (z : Nat)) ++ rest).toArray
theorem clA_at (ls : List Nat) (rest : List Value) (i : Nat) (h : i < ls.length) : (clA ls rest)[i]? = some (.int .u8 ((ls[i] : Nat) : Int)) := by
  simp [clA, List.getElem?_append_left, h]
theorem clA_set (ls : List Nat) (rest : List Value) (i z : Nat) (h : i < ls.length) : (clA ls rest).setIfInBounds i (.int .u8 (z : Nat)) = clA (ls.set i z) rest := by
  apply Array.ext'
  simp only [clA, List.setIfInBounds_toArray]
  rw [List.set_append_left _ _ (by simpa using h)]
  simp [List.map_set]
theorem heap_setCell_same' (w : World) (g j : Nat) (cur : Array Value) (e : TypeId) (u : Value) (hg : w.heap[g]? = some (.cells cur e (0, 0))) : (w.setCell ⟨g, j, none⟩ u).heap[g]? = some (.cells (cur.setIfInBounds j u) e (0, 0)) := by
  simp [World.setCell, Array.getElem?_modify, hg]
def lbA (gl n cl : Nat) (sv vw vp vd : Value) : Array Value := #[.slice (some ⟨gl, 0, none⟩) n cl, sv, vw, vp, vd]
/-- huffman's memory behind the three Grows. -/
structure HMem (B LB C gl n cl m : Nat) (sv : Value) (zs : List Nat) (tl : List Value) (gw cw gp cp gd cd : Nat) (w0 : World) (ls : List Nat) (rest : List Value) (aw ap ad : Array Value) (w : World) : Prop where
  lb : w.heap[LB]? = some (.cells (lbA gl n cl sv (.slice (some ⟨gw, 0, none⟩) m cw) (.slice (some ⟨gp, 0, none⟩) m cp) (.slice (some ⟨gd, 0, none⟩) m cd)) 34 (0, 0))
  lv : w.heap[gl]? = some (.cells (rowA zs tl) 51 (0, 0))
  co : w.heap[C]? = some (.cells (clA ls rest) 38 (0, 0))
  hw : w.heap[gw]? = some (.cells aw 21 (0, 0))
  hp : w.heap[gp]? = some (.cells ap 67 (0, 0))
  hd : w.heap[gd]? = some (.cells ad 67 (0, 0))
  sw : aw.size = cw
  sp : ap.size = cp
  sd : ad.size = cd
  mw : m ≤ cw ∧ cw ≤ maxLen
  mp : m ≤ cp ∧ cp ≤ maxLen
  md : m ≤ cd ∧ cd ≤ maxLen
  ne : gp ≠ gd
  bw : B ≤ gw
  bp : B ≤ gp
  bd : B ≤ gd
  kp : Keep B LB C w0 w
section
variable {B LB C gl n cl m : Nat} {sv : Value} {zs : List Nat} {tl : List Value} {gw cw gp cp gd cd : Nat} {w0 : World} {ls : List Nat} {rest : List Value} {aw ap ad : Array Value} {w : World}
theorem HMem.apart (h : HMem B LB C gl n cl m sv zs tl gw cw gp cp gd cd w0 ls rest aw ap ad w) :
    (LB ≠ gl ∧ LB ≠ C ∧ LB ≠ gw ∧ LB ≠ gp ∧ LB ≠ gd) ∧ (gl ≠ C ∧ gl ≠ gw ∧ gl ≠ gp ∧ gl ≠ gd) ∧ (C ≠ gw ∧ C ≠ gp ∧ C ≠ gd) ∧ (gw ≠ gp ∧ gw ≠ gd) := by
  have h1 := h.lb; have h2 := h.lv; have h3 := h.co; have h4 := h.hw; have h5 := h.hp; have h6 := h.hd
  refine ⟨⟨?_, ?_, ?_, ?_, ?_⟩, ⟨?_, ?_, ?_, ?_⟩, ⟨?_, ?_, ?_⟩, ⟨?_, ?_⟩⟩ <;> (intro e; subst e; simp_all)
theorem HMem.drewN (h : HMem B LB C gl n cl m sv zs tl gw cw gp cp gd cd w0 ls rest aw ap ad w) (q : Nat) : HMem B LB C gl n cl m sv zs tl gw cw gp cp gd cd w0 ls rest aw ap ad (w.drewN q) :=
  { h with kp := h.kp.drewN q }
theorem HMem.setw (h : HMem B LB C gl n cl m sv zs tl gw cw gp cp gd cd w0 ls rest aw ap ad w) (i : Nat) (v : Value) : HMem B LB C gl n cl m sv zs tl gw cw gp cp gd cd w0 ls rest (aw.setIfInBounds i v) ap ad (w.setCell ⟨gw, i, none⟩ v) := by
  obtain ⟨⟨a1, a2, a3, a4, a5⟩, ⟨b1, b2, b3, b4⟩, ⟨c1, c2, c3⟩, d1, d2⟩ := h.apart
  refine { h with lb := ?_, lv := ?_, co := ?_, hw := heap_setCell_same' _ _ _ _ _ _ h.hw, hp := ?_, hd := ?_, sw := by simpa using h.sw, kp := h.kp.setCell _ _ (Or.inl h.bw) }
  · rw [Below.heap_setCell _ _ _ _ (by simpa using a3)]; exact h.lb
  · rw [Below.heap_setCell _ _ _ _ (by simpa using b2)]; exact h.lv
  · rw [Below.heap_setCell _ _ _ _ (by simpa using c1)]; exact h.co
  · rw [Below.heap_setCell _ _ _ _ (by simpa using (Ne.symm d1))]; exact h.hp
  · rw [Below.heap_setCell _ _ _ _ (by simpa using (Ne.symm d2))]; exact h.hd
theorem HMem.setp (h : HMem B LB C gl n cl m sv zs tl gw cw gp cp gd cd w0 ls rest aw ap ad w) (i : Nat) (v : Value) : HMem B LB C gl n cl m sv zs tl gw cw gp cp gd cd w0 ls rest aw (ap.setIfInBounds i v) ad (w.setCell ⟨gp, i, none⟩ v) := by
  obtain ⟨⟨a1, a2, a3, a4, a5⟩, ⟨b1, b2, b3, b4⟩, ⟨c1, c2, c3⟩, d1, d2⟩ := h.apart
  refine { h with lb := ?_, lv := ?_, co := ?_, hw := ?_, hp := heap_setCell_same' _ _ _ _ _ _ h.hp, hd := ?_, sp := by simpa using h.sp, kp := h.kp.setCell _ _ (Or.inl h.bp) }
  · rw [Below.heap_setCell _ _ _ _ (by simpa using a4)]; exact h.lb
  · rw [Below.heap_setCell _ _ _ _ (by simpa using b3)]; exact h.lv
  · rw [Below.heap_setCell _ _ _ _ (by simpa using c2)]; exact h.co
  · rw [Below.heap_setCell _ _ _ _ (by simpa using d1)]; exact h.hw
  · rw [Below.heap_setCell _ _ _ _ (by simpa using (Ne.symm h.ne))]; exact h.hd
theorem HMem.setd (h : HMem B LB C gl n cl m sv zs tl gw cw gp cp gd cd w0 ls rest aw ap ad w) (i : Nat) (v : Value) : HMem B LB C gl n cl m sv zs tl gw cw gp cp gd cd w0 ls rest aw ap (ad.setIfInBounds i v) (w.setCell ⟨gd, i, none⟩ v) := by
  obtain ⟨⟨a1, a2, a3, a4, a5⟩, ⟨b1, b2, b3, b4⟩, ⟨c1, c2, c3⟩, d1, d2⟩ := h.apart
  refine { h with lb := ?_, lv := ?_, co := ?_, hw := ?_, hp := ?_, hd := heap_setCell_same' _ _ _ _ _ _ h.hd, sd := by simpa using h.sd, kp := h.kp.setCell _ _ (Or.inl h.bd) }
  · rw [Below.heap_setCell _ _ _ _ (by simpa using a5)]; exact h.lb
  · rw [Below.heap_setCell _ _ _ _ (by simpa using b4)]; exact h.lv
  · rw [Below.heap_setCell _ _ _ _ (by simpa using c3)]; exact h.co
  · rw [Below.heap_setCell _ _ _ _ (by simpa using d2)]; exact h.hw
  · rw [Below.heap_setCell _ _ _ _ (by simpa using h.ne)]; exact h.hp
theorem HMem.setc (h : HMem B LB C gl n cl m sv zs tl gw cw gp cp gd cd w0 ls rest aw ap ad w) (i z : Nat) (hi : i < ls.length) : HMem B LB C gl n cl m sv zs tl gw cw gp cp gd cd w0 (ls.set i z) rest aw ap ad (w.setCell ⟨C, i, none⟩ (.int .u8 (z : Nat))) := by
  obtain ⟨⟨a1, a2, a3, a4, a5⟩, ⟨b1, b2, b3, b4⟩, ⟨c1, c2, c3⟩, d1, d2⟩ := h.apart
  refine { h with lb := ?_, lv := ?_, co := ?_, hw := ?_, hp := ?_, hd := ?_, kp := h.kp.setCell _ _ (Or.inr (Or.inr rfl)) }
  · rw [Below.heap_setCell _ _ _ _ (by simpa using a2)]; exact h.lb
  · rw [Below.heap_setCell _ _ _ _ (by simpa using b1)]; exact h.lv
  · rw [heap_setCell_same' _ _ _ _ _ _ h.co, clA_set _ _ _ _ hi]
  · rw [Below.heap_setCell _ _ _ _ (by simpa using (Ne.symm c1))]; exact h.hw
  · rw [Below.heap_setCell _ _ _ _ (by simpa using (Ne.symm c2))]; exact h.hp
  · rw [Below.heap_setCell _ _ _ _ (by simpa using (Ne.symm c3))]; exact h.hd
theorem HMem.lbc (h : HMem B LB C gl n cl m sv zs tl gw cw gp cp gd cd w0 ls rest aw ap ad w) :
    w.cell? ⟨LB, 0, none⟩ = some (.slice (some ⟨gl, 0, none⟩) n cl) ∧ w.cell? ⟨LB, 2, none⟩ = some (.slice (some ⟨gw, 0, none⟩) m cw) ∧ w.cell? ⟨LB, 3, none⟩ = some (.slice (some ⟨gp, 0, none⟩) m cp) ∧ w.cell? ⟨LB, 4, none⟩ = some (.slice (some ⟨gd, 0, none⟩) m cd) := by
  refine ⟨?_, ?_, ?_, ?_⟩ <;> simp [World.cell?, h.lb, lbA]
theorem cellAt {w : World} {g : Nat} {a : Array Value} {e : TypeId} (h : w.heap[g]? = some (.cells a e (0, 0))) (i : Nat) (v : Value) (hv : a[i]? = some v) : w.cell? ⟨g, i, none⟩ = some v := by
  simp [World.cell?, h, hv]
theorem frozenAt {w : World} {g : Nat} {a : Array Value} {e : TypeId} (h : w.heap[g]? = some (.cells a e (0, 0))) (i : Nat) : w.frozen? ⟨g, i, none⟩ = false := by
  simp [World.frozen?, h]
theorem cellEx {w : World} {g : Nat} {a : Array Value} {e : TypeId} (h : w.heap[g]? = some (.cells a e (0, 0))) (i : Nat) (hi : i < a.size) : ∃ v, w.cell? ⟨g, i, none⟩ = some v := by
  exact ⟨a[i], by simp [World.cell?, h, hi]⟩
end
end Go.Proofs.YbulkccziDoor
