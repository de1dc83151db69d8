import Derived.Test.YbulkccziDoorHuf1
import Derived.Deep.CutBlock
import Derived.Deep.CutRange
import Derived.Deep.DeepCutAuto
import Derived.Deep.LoopGhost
namespace Go.Proofs.YbulkccziDoor
open Go.RowKit
/-- A room: nil, or a block's head with m cells and more. -/
def Rm (w : World) (B : Nat) (e : TypeId) (m : Nat) (v : Value) : Prop :=
  v = .slice none 0 0 ∨ ∃ g l c cur, v = .slice (some ⟨g, 0, none⟩) l c ∧ l ≤ c ∧ m ≤ c ∧ c ≤ maxLen ∧ B ≤ g ∧ w.heap[g]? = some (.cells cur e (0, 0)) ∧ cur.size = c
structure HG (B LB C gl n cl m : Nat) (sv : Value) (zs : List Nat) (tl : List Value) (w0 : World) (ls : List Nat) (rest : List Value) (vw vp vd : Value) (w : World) : Prop where
  lb : w.heap[LB]? = some (.cells (lbA gl n cl sv vw vp vd) 34 (0, 0))
  lv : w.heap[gl]? = some (.cells (rowA zs tl) 51 (0, 0))
  co : w.heap[C]? = some (.cells (clA ls rest) 38 (0, 0))
  kp : Keep B LB C w0 w
  hB : B ≤ w.heap.size
  rw : Rm w B 21 m vw
  rp : Rm w B 67 m vp
  rd : Rm w B 67 m vd
  ne : vp.ownBlock = none ∨ vp.ownBlock ≠ vd.ownBlock
theorem Rm.kept {w w' : World} {B : Nat} {e : TypeId} {m : Nat} {v : Value} (h : Rm w B e m v) (hg : w.grownBy w' none) : Rm w' B e m v := by
  rcases h with h | ⟨g, l, c, cur, h1, h2, h3, h4, h5, h6, h7⟩
  · exact Or.inl h
  · exact Or.inr ⟨g, l, c, cur, h1, h2, h3, h4, h5, by rw [hg.block g (Array.getElem?_eq_some_iff.1 h6).1 (by simp)]; exact h6, h7⟩
theorem Rm.set {w : World} {B : Nat} {e : TypeId} {m LB : Nat} {v : Value} (h : Rm w B e m v) {a : Array Value} (hl : w.heap[LB]? = some (.cells a 34 (0, 0))) (he : e ≠ 34) (i : Nat) (u : Value) : Rm (w.setCell ⟨LB, i, none⟩ u) B e m v := by
  rcases h with h | ⟨g, l, c, cur, h1, h2, h3, h4, h5, h6, h7⟩
  · exact Or.inl h
  · refine Or.inr ⟨g, l, c, cur, h1, h2, h3, h4, h5, ?_, h7⟩
    rw [Below.heap_setCell _ _ _ _ ?_]
    · exact h6
    · rintro rfl
      rw [hl] at h6
      simp at h6
      exact he h6.2.symm
theorem Rm.lt {w : World} {B : Nat} {e : TypeId} {m : Nat} {v : Value} (h : Rm w B e m v) (k : Nat) (hk : v.ownBlock = some k) : k < w.heap.size := by
  rcases h with h | ⟨g, l, c, cur, h1, h2, h3, h4, h5, h6, h7⟩
  · subst h; simp [Value.ownBlock] at hk
  · subst h1
    simp [Value.ownBlock] at hk
    subst hk
    exact (Array.getElem?_eq_some_iff.1 h6).1
section
variable {B LB C gl n cl m : Nat} {sv : Value} {zs : List Nat} {tl : List Value} {w0 : World} {ls : List Nat} {rest : List Value} {vw vp vd : Value} {w : World}
theorem HG.grown (h : HG B LB C gl n cl m sv zs tl w0 ls rest vw vp vd w) {w' : World} (hg : w.grownBy w' none) : HG B LB C gl n cl m sv zs tl w0 ls rest vw vp vd w' :=
  ⟨by rw [hg.block _ (Array.getElem?_eq_some_iff.1 h.lb).1 (by simp)]; exact h.lb, by rw [hg.block _ (Array.getElem?_eq_some_iff.1 h.lv).1 (by simp)]; exact h.lv, by rw [hg.block _ (Array.getElem?_eq_some_iff.1 h.co).1 (by simp)]; exact h.co,
    h.kp.grown hg h.hB (by simp), Nat.le_trans h.hB hg.size, h.rw.kept hg, h.rp.kept hg, h.rd.kept hg, h.ne⟩
theorem HG.ne1 (h : HG B LB C gl n cl m sv zs tl w0 ls rest vw vp vd w) : gl ≠ LB ∧ C ≠ LB := by
  have h1 := h.lb; have h2 := h.lv; have h3 := h.co
  constructor <;> (intro e; subst e; simp_all)
theorem HG.setW (h : HG B LB C gl n cl m sv zs tl w0 ls rest vw vp vd w) (v : Value) (hv : Rm w B 21 m v) : HG B LB C gl n cl m sv zs tl w0 ls rest v vp vd (w.setCell ⟨LB, 2, none⟩ v) := by
  obtain ⟨n1, n2⟩ := h.ne1
  exact ⟨heap_setCell_same' _ _ _ _ _ _ h.lb, by rw [Below.heap_setCell _ _ _ _ (by simpa using n1)]; exact h.lv, by rw [Below.heap_setCell _ _ _ _ (by simpa using n2)]; exact h.co, h.kp.setCell _ _ (Or.inr (Or.inl rfl)), by simpa [World.setCell] using h.hB,
    hv.set h.lb (by decide) _ _, h.rp.set h.lb (by decide) _ _, h.rd.set h.lb (by decide) _ _, h.ne⟩
theorem HG.setP (h : HG B LB C gl n cl m sv zs tl w0 ls rest vw vp vd w) (v : Value) (hv : Rm w B 67 m v) (hne : v.ownBlock = none ∨ v.ownBlock ≠ vd.ownBlock) : HG B LB C gl n cl m sv zs tl w0 ls rest vw v vd (w.setCell ⟨LB, 3, none⟩ v) := by
  obtain ⟨n1, n2⟩ := h.ne1
  exact ⟨heap_setCell_same' _ _ _ _ _ _ h.lb, by rw [Below.heap_setCell _ _ _ _ (by simpa using n1)]; exact h.lv, by rw [Below.heap_setCell _ _ _ _ (by simpa using n2)]; exact h.co, h.kp.setCell _ _ (Or.inr (Or.inl rfl)), by simpa [World.setCell] using h.hB,
    h.rw.set h.lb (by decide) _ _, hv.set h.lb (by decide) _ _, h.rd.set h.lb (by decide) _ _, hne⟩
theorem HG.setD (h : HG B LB C gl n cl m sv zs tl w0 ls rest vw vp vd w) (v : Value) (hv : Rm w B 67 m v) (hne : vp.ownBlock = none ∨ vp.ownBlock ≠ v.ownBlock) : HG B LB C gl n cl m sv zs tl w0 ls rest vw vp v (w.setCell ⟨LB, 4, none⟩ v) := by
  obtain ⟨n1, n2⟩ := h.ne1
  exact ⟨heap_setCell_same' _ _ _ _ _ _ h.lb, by rw [Below.heap_setCell _ _ _ _ (by simpa using n1)]; exact h.lv, by rw [Below.heap_setCell _ _ _ _ (by simpa using n2)]; exact h.co, h.kp.setCell _ _ (Or.inr (Or.inl rfl)), by simpa [World.setCell] using h.hB,
    h.rw.set h.lb (by decide) _ _, h.rp.set h.lb (by decide) _ _, hv.set h.lb (by decide) _ _, hne⟩
/-- A set room. -/
def St (m : Nat) (v : Value) : Prop := ∃ g c, v = .slice (some ⟨g, 0, none⟩) m c
theorem HG.mem (h : HG B LB C gl n cl m sv zs tl w0 ls rest vw vp vd w) (s1 : St m vw) (s2 : St m vp) (s3 : St m vd) : ∃ gw cw gp cp gd cd aw ap ad, HMem B LB C gl n cl m sv zs tl gw cw gp cp gd cd w0 ls rest aw ap ad w := by
  obtain ⟨gw, cw, rfl⟩ := s1
  obtain ⟨gp, cp, rfl⟩ := s2
  obtain ⟨gd, cd, rfl⟩ := s3
  rcases h.rw with e | ⟨g, l, c, aw, e, p1, p2, p3, p4, p5, p6⟩
  · simp at e
  rcases h.rp with e' | ⟨g', l', c', ap, e', p1', p2', p3', p4', p5', p6'⟩
  · simp at e'
  rcases h.rd with e'' | ⟨g'', l'', c'', ad, e'', p1'', p2'', p3'', p4'', p5'', p6''⟩
  · simp at e''
  simp at e e' e''
  obtain ⟨rfl, rfl, rfl⟩ := e
  obtain ⟨rfl, rfl, rfl⟩ := e'
  obtain ⟨rfl, _, rfl⟩ := e''
  have hne : gp ≠ gd := by
    have := h.ne
    simpa [Value.ownBlock] using this
  exact ⟨gw, cw, gp, cp, gd, cd, aw, ap, ad, ⟨h.lb, h.lv, h.co, p5, p5', p5'', p6, p6', p6'', ⟨p2, p3⟩, ⟨p2', p3'⟩, ⟨p2'', p3''⟩, hne, p4, p4', p4'', h.kp⟩⟩
end
end Go.Proofs.YbulkccziDoor
