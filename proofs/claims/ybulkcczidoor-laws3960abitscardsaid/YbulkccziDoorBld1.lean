import Derived.Test.YbulkccziDoorBld0
import Derived.Test.YbulkccziDoorPdq
namespace Go.Proofs.YbulkccziDoor
open Go.RowKit
theorem Rm.row {w w' : World} {B : Nat} {e : TypeId} {m gl : Nat} {v : Value} (h : Rm w B e m v) {a : Array Value} (hl : w.heap[gl]? = some (.cells a 51 (0, 0))) (he : e ≠ 51) (hg : w.grownBy w' (some gl)) : Rm w' B e m v := by
  rcases h with h | ⟨g, l, c, cur, h1, h2, h3, h4, h5, h6, h7⟩
  · exact Or.inl h
  · refine Or.inr ⟨g, l, c, cur, h1, h2, h3, h4, h5, ?_, h7⟩
    rw [hg.block g (Array.getElem?_eq_some_iff.1 h6).1 ?_]
    · exact h6
    · intro e'
      simp at e'
      subst e'
      rw [hl] at h6
      simp at h6
      exact he h6.2.symm
/-- The leaves' row turned, nothing else. -/
theorem HPre.row {B LB C gl n cl m : Nat} {sv : Value} {zs us : List Nat} {tl : List Value} {w0 : World} {ls : List Nat} {rest : List Value} {w w' : World} (h : HPre B LB C gl n cl m sv zs tl w0 ls rest w) (hgl : B ≤ gl)
    (hg : w.grownBy w' (some gl)) (hnew : w'.heap[gl]? = some (.cells (rowA us tl) 51 (0, 0))) : HPre B LB C gl n cl m sv us tl w0 ls rest w' := by
  obtain ⟨vw, vp, vd, h⟩ := h
  have h1 := h.lb; have h2 := h.lv; have h3 := h.co
  have n1 : LB ≠ gl := by intro e; subst e; simp_all
  have n2 : C ≠ gl := by intro e; subst e; simp_all
  exact ⟨vw, vp, vd, ⟨by rw [hg.block _ (Array.getElem?_eq_some_iff.1 h1).1 (by simpa using n1)]; exact h1, hnew, by rw [hg.block _ (Array.getElem?_eq_some_iff.1 h3).1 (by simpa using n2)]; exact h3,
    h.kp.grown hg h.hB (by intro k hk; simp at hk; omega), Nat.le_trans h.hB hg.size, h.rw.row h2 (by decide) hg, h.rp.row h2 (by decide) hg, h.rd.row h2 (by decide) hg, h.ne⟩⟩
theorem HPre.lvs {B LB C gl n cl m : Nat} {sv : Value} {zs : List Nat} {tl : List Value} {w0 : World} {ls : List Nat} {rest : List Value} {w : World} (h : HPre B LB C gl n cl m sv zs tl w0 ls rest w) :
    w.heap[gl]? = some (.cells (rowA zs tl) 51 (0, 0)) ∧ w.cell? ⟨LB, 0, none⟩ = some (.slice (some ⟨gl, 0, none⟩) n cl) ∧ LB ≠ gl := by
  obtain ⟨vw, vp, vd, h⟩ := h
  have h1 := h.lb; have h2 := h.lv
  exact ⟨h.lv, by simp [World.cell?, h.lb, lbA], by intro e; subst e; simp_all⟩
theorem HPre.sorted {B LB C gl n cl m : Nat} {sv : Value} {zs us : List Nat} {tl : List Value} {w0 : World} {ls : List Nat} {rest : List Value} {w w' : World} (h : HPre B LB C gl n cl m sv zs tl w0 ls rest w) (hgl : B ≤ gl) (hp : PR w gl zs tl w' us) :
    HPre B LB C gl n cl m sv us tl w0 ls rest w' := h.row hgl hp.gr hp.blk
set_option maxHeartbeats 2000000 in
theorem sl_any (B LB C gl n cl m : Nat) (sv : Value) (zs : List Nat) (tl : List Value) (w0 : World) (ls : List Nat) (rest : List Value) (w : World) (h : HPre B LB C gl n cl m sv zs tl w0 ls rest w) (hn : zs.length = n) (hn9 : n ≤ 19) (hgl : B ≤ gl) :
    Calls Ybad.prog 15 #[.pointer (some ⟨LB, 0, none⟩)] w fun e w' => e = .returned (.tuple #[]) ∧ ∃ us, us.Perm zs ∧ HPre B LB C gl n cl m sv us tl w0 ls rest w' := by
  obtain ⟨h1, h2, h3⟩ := h.lvs
  have HS : Hid (Calls Ybad.prog 17 _ _ _) := sort_any gl n cl 0 zs tl w h1 hn hn9 rfl
  have H : Hid (HPre B LB C gl n cl m sv zs tl w0 ls rest w) := h
  have hle : (n : Int) ≤ 64 := by omega
  clear h h1
  go_enter Ybad.func15, Ybad.ntmps15
  go_wp2_with fail
  refine HS.out.mono ?_
  rintro e w1 ⟨rfl, us, hp⟩
  have HE : Hid (∃ us, us.Perm zs ∧ HPre B LB C gl n cl m sv us tl w0 ls rest w1) := ⟨us, hp.perm, H.out.sorted hgl hp⟩
  clear hp HS
  go_wp2
  exact bodyPost_ret (v := .tuple #[]) (by simp [results, Ybad.results15, go_sem]) rfl ⟨rfl, HE.out⟩
end Go.Proofs.YbulkccziDoor
