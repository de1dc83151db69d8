import Derived.Test.YbulkccziDoorRows
import Derived.WalkKit
import Derived.WalkSpells
import Derived.WalkLawsBesides
import Derived.WalkSmall
import Derived.LoopN
import Derived.Deep.QuietTactic
import Derived.BigQuiet
import Derived.CellFam
namespace Go.Proofs.YbulkccziDoor
open Go.RowKit
def rowA (zs : List Nat) (tl : List Value) : Array Value := (zs.map (fun z => Value.int .u32 (z : Nat)) ++ tl).toArray
theorem rowA_at (zs : List Nat) (tl : List Value) (i : Nat) (h : i < zs.length) : (rowA zs tl)[i]? = some (.int .u32 ((zs[i] : Nat) : Int)) := by
  simp [rowA, List.getElem?_append_left, h]
theorem rowA_set (zs : List Nat) (tl : List Value) (i z : Nat) (h : i < zs.length) : (rowA zs tl).setIfInBounds i (.int .u32 (z : Nat)) = rowA (zs.set i z) tl := by
  apply Array.ext'
  simp only [rowA, List.setIfInBounds_toArray]
  rw [List.set_append_left _ _ (by simpa using h)]
  simp [List.map_set]
/-- The row at block g holds zs (a permutation of ys), tl behind it; of w0 nothing else has turned. -/
structure PR (w0 : World) (g : Nat) (ys : List Nat) (tl : List Value) (w : World) (zs : List Nat) : Prop where
  blk : w.heap[g]? = some (.cells (rowA zs tl) 51 (0, 0))
  perm : zs.Perm ys
  gr : w0.grownBy w (some g)
theorem PR.refl {w : World} {g : Nat} {zs : List Nat} {tl : List Value} (h : w.heap[g]? = some (.cells (rowA zs tl) 51 (0, 0))) : PR w g zs tl w zs := ⟨h, List.Perm.refl _, ⟨rfl, rfl, rfl, Nat.le_refl _, fun _ _ _ => rfl⟩⟩
theorem PR.trans {w0 w1 w2 : World} {g : Nat} {ys zs us : List Nat} {tl : List Value} (h : PR w0 g ys tl w1 zs) (h' : PR w1 g zs tl w2 us) : PR w0 g ys tl w2 us :=
  ⟨h'.blk, h'.perm.trans h.perm, ⟨h'.gr.os.trans h.gr.os, h'.gr.tape.trans h.gr.tape, h'.gr.output.trans h.gr.output, Nat.le_trans h.gr.size h'.gr.size, fun k hk hr => (h'.gr.block k (Nat.lt_of_lt_of_le hk h.gr.size) hr).trans (h.gr.block k hk hr)⟩⟩
theorem PR.len {w0 w : World} {g : Nat} {ys zs : List Nat} {tl : List Value} (h : PR w0 g ys tl w zs) : zs.length = ys.length := h.perm.length_eq
theorem PR.cell {w0 w : World} {g : Nat} {ys zs : List Nat} {tl : List Value} (h : PR w0 g ys tl w zs) (i : Nat) (hi : i < zs.length) : w.cell? ⟨g, i, none⟩ = some (.int .u32 ((zs[i] : Nat) : Int)) := by
  simp [World.cell?, h.blk, rowA_at zs tl i hi]
theorem PR.frozen {w0 w : World} {g : Nat} {ys zs : List Nat} {tl : List Value} (h : PR w0 g ys tl w zs) (i : Nat) : w.frozen? ⟨g, i, none⟩ = false := by simp [World.frozen?, h.blk]
theorem PR.drewN {w0 w : World} {g : Nat} {ys zs : List Nat} {tl : List Value} (h : PR w0 g ys tl w zs) (n : Nat) : PR w0 g ys tl (w.drewN n) zs := ⟨h.blk, h.perm, ⟨h.gr.os, h.gr.tape, h.gr.output, h.gr.size, h.gr.block⟩⟩
theorem PR.swap {w0 w : World} {g : Nat} {ys zs : List Nat} {tl : List Value} (h : PR w0 g ys tl w zs) (i j : Nat) (hi : i < zs.length) (hj : j < zs.length) :
    PR w0 g ys tl ((w.setCell ⟨g, i, none⟩ (.int .u32 ((zs[j] : Nat) : Int))).setCell ⟨g, j, none⟩ (.int .u32 ((zs[i] : Nat) : Int))) ((zs.set i zs[j]).set j zs[i]) := by
  refine ⟨?_, (List.set_set_perm hi hj).trans h.perm, ⟨h.gr.os, h.gr.tape, h.gr.output, by simpa [World.setCell] using h.gr.size, fun k hk hr => ?_⟩⟩
  · have e1 := rowA_set zs tl i zs[j] hi
    have e2 := rowA_set (zs.set i zs[j]) tl j zs[i] (by simpa using hj)
    simp [World.setCell, Array.getElem?_modify, h.blk, e1, e2]
  · rw [Below.heap_setCell _ _ _ _ (by simpa using hr), Below.heap_setCell _ _ _ _ (by simpa using hr)]
    exact h.gr.block k hk hr
/-- The row's cells as the walk takes them: contents under a name, and what a swap leaves. -/
theorem PR.fam {w0 w : World} {g n off : Nat} {ys zs : List Nat} {tl : List Value} (h : PR w0 g ys tl w zs) (hz : zs.length = n) (ho : off = 0) :
    ∃ G : Nat → Int, (∀ t, t < n → w.cell? ⟨g, off + t, none⟩ = some (.int .u32 (G t))) ∧ (∀ t, t < n → w.frozen? ⟨g, off + t, none⟩ = false) ∧
      Hid (∀ q i j, i < n → j < n → ∃ us : List Nat, us.length = n ∧ PR w0 g ys tl (((w.setCell ⟨g, off + i, none⟩ (.int .u32 (G j))).setCell ⟨g, off + j, none⟩ (.int .u32 (G i))).drewN q) us) := by
  subst ho
  refine ⟨fun t => ((zs.getD t 0 : Nat) : Int), fun t ht => ?_, fun t _ => ?_, fun q i j hi hj => ?_⟩
  · rw [Nat.zero_add, h.cell t (by omega)]
    simp [List.getD, show t < zs.length by omega]
  · rw [Nat.zero_add]; exact h.frozen t
  · have := (h.swap i j (by omega) (by omega)).drewN q
    refine ⟨_, (by simp [hz] : ((zs.set i zs[j]).set j zs[i]).length = n), ?_⟩
    simp only [Nat.zero_add, List.getD, List.getElem?_eq_getElem (show i < zs.length by omega), List.getElem?_eq_getElem (show j < zs.length by omega), Option.getD_some]
    exact this
set_option maxHeartbeats 400000 in
theorem nan_any (x : Int) (w : World) : Calls Ybad.prog 40 #[.int .u32 x] w fun e w' => e = .returned (.bool false) ∧ w' = w := by
  go_enter Ybad.func40, Ybad.ntmps40
  go_wp2
  go_ret
  exact ⟨by simp, rfl⟩
set_option maxHeartbeats 400000 in
theorem less_any (x y : Int) (w : World) : Calls Ybad.prog 30 #[.int .u32 x, .int .u32 y] w fun e w' => e = .returned (.bool (decide (x < y))) ∧ w' = w := by
  go_enter Ybad.func30, Ybad.ntmps30
  go_wp2
  go_ret
  exact ⟨by simp, rfl⟩
end Go.Proofs.YbulkccziDoor
