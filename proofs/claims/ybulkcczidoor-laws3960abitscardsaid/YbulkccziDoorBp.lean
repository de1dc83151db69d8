import Derived.Test.YbulkccziDoorLen
namespace Go.Proofs.YbulkccziDoor
open Go.RowKit
set_option maxHeartbeats 4000000 in
theorem pow2_any (L : Nat) (h1 : 13 ≤ L) (h2 : L ≤ 19) (w : World) : Calls Ybad.prog 36 #[.int .i64 (L : Int)] w fun e w' => e = .returned (.int .u64 (if L < 16 then 16 else 32)) ∧ w' = w := by
  have H : Hid (Calls Ybad.prog 23 #[.int .u64 (L : Int)] w fun e w' => e = .returned (.int .i64 (lenN L : Nat)) ∧ w' = w) := len_any L h2 w
  by_cases h : L < 16
  · have hl : lenN L = 4 := by unfold lenN; split <;> (try split) <;> (try split) <;> (try split) <;> (try split) <;> omega
    rw [hl] at H
    rw [if_pos h]
    clear hl
    go_enter Ybad.func36, Ybad.ntmps36
    go_wp2_with fail
    refine H.out.mono ?_
    rintro e w1 ⟨rfl, hw⟩
    rw [hw]
    go_wp2
    go_ret
    exact ⟨rfl, rfl⟩
  · have hl : lenN L = 5 := by unfold lenN; split <;> (try split) <;> (try split) <;> (try split) <;> (try split) <;> omega
    rw [hl] at H
    rw [if_neg h]
    clear hl
    go_enter Ybad.func36, Ybad.ntmps36
    go_wp2_with fail
    refine H.out.mono ?_
    rintro e w1 ⟨rfl, hw⟩
    rw [hw]
    go_wp2
    go_ret
    exact ⟨rfl, rfl⟩
theorem and64 (z M : Int) (hz : 0 ≤ z ∧ z < 18446744073709551616) (hM : M = 15 ∨ M = 31) : ∃ y : Nat, bits .and .u64 z M = (y : Int) ∧ (y : Int) ≤ M := by
  refine ⟨_, u64_and z M hz.1 hz.2 (by omega) (by omega), ?_⟩
  have : z.toNat &&& M.toNat ≤ M.toNat := Nat.and_le_right
  omega
theorem PR.aside {w0 w w1 : World} {g R : Nat} {ys zs : List Nat} {tl : List Value} (h : PR w0 g ys tl w zs) (hg : w.grownBy w1 (some R)) (hR : w0.heap.size ≤ R) (hgR : g ≠ R) : PR w0 g ys tl w1 zs := by
  refine ⟨?_, h.perm, ⟨hg.os.trans h.gr.os, hg.tape.trans h.gr.tape, hg.output.trans h.gr.output, Nat.le_trans h.gr.size hg.size, fun k hk hr => ?_⟩⟩
  · rw [hg.block g (Array.getElem?_eq_some_iff.1 h.blk).1 (by simpa using hgR)]; exact h.blk
  · rw [hg.block k (Nat.lt_of_lt_of_le hk h.gr.size) (by simp; omega)]; exact h.gr.block k hk hr
/-- The generator's cell. -/
structure Rnd (R : Nat) (w : World) : Prop where
  c : ∃ z : Int, (0 ≤ z ∧ z < 18446744073709551616) ∧ w.cell? ⟨R, 0, none⟩ = some (.int .u64 z)
  f : w.frozen? ⟨R, 0, none⟩ = false
theorem Rnd.swap {R g : Nat} {w : World} (h : Rnd R w) (hne : g ≠ R) (i j q : Nat) (u v : Value) : Rnd R (((w.setCell ⟨g, i, none⟩ u).setCell ⟨g, j, none⟩ v).drewN q) := by
  obtain ⟨z, hz, hc⟩ := h.c
  refine ⟨⟨z, hz, ?_⟩, ?_⟩
  · show ((w.setCell ⟨g, i, none⟩ u).setCell ⟨g, j, none⟩ v).cell? _ = _
    rw [World.cell?_of_block (Below.heap_setCell _ _ _ _ (by simpa using Ne.symm hne)), World.cell?_of_block (Below.heap_setCell _ _ _ _ (by simpa using Ne.symm hne)), hc]
  · show ((w.setCell ⟨g, i, none⟩ u).setCell ⟨g, j, none⟩ v).frozen? _ = _
    rw [World.frozen?_of_block (Below.heap_setCell _ _ _ _ (by simpa using Ne.symm hne)), World.frozen?_of_block (Below.heap_setCell _ _ _ _ (by simpa using Ne.symm hne)), h.f]
end Go.Proofs.YbulkccziDoor
