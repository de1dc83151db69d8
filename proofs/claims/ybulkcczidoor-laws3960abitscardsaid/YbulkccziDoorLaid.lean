import Derived.Test.YbulkccziDoorLw0
import Derived.Test.YbulkccziDoorTie
import Derived.Test.YbulkccziDoorCards
import Derived.ProofKit
import Derived.LaidMore
import Derived.LaidLaws
import Derived.OpenShut
import Derived.OpenVars
import Derived.ChangeOld
import Derived.Carry
import Derived.Stop.Joined
import Derived.Lib.LaidU8
import Derived.Lib.LaidTab
import Derived.MakeChecks
import Derived.SevenTiedAt
namespace Go.Proofs.YbulkccziDoor
open Go.ChangeShapes Go.WideShapes Go.ChangeAt Go.RowKit
theorem own : ownKnob Ybad.prog.godebug = none := by kernel_rfl
theorem laidOut : laidOutB Ybad.prog = true := by kernel_rfl
theorem gOrd : Ybad.prog.globalNamed (Rows.lawS3960ATokensSpec.vars.headD default) = some 0 := by kernel_rfl
theorem tOrd : (Ybad.prog.globals[0]?).map (·.type) = some 52 := by kernel_rfl
theorem cells52 : Ybad.prog.cellsOf 52 = 19 := by kernel_rfl
theorem cells5 : Ybad.prog.cellsOf 5 = 1 := by kernel_rfl
theorem ordData : (Rows.laid_example_com_palimpsest_palimpsest_deflate_codeLenOrder : DataW Unit) = Lib.tabData .u8 (ordL.map Int.ofNat) := by kernel_rfl
/-- What the listed variable holds. -/
theorem ord_of_laid {W : World} (h : laidMetH Ybad.prog Rows.lawS3960ATokensRow.laid W) : (∀ t, t < 19 → W.cell? ⟨0, t, none⟩ = some (.int .u8 ((ordL.getD t 0 : Nat) : Int))) ∧ 0 < W.heap.size := by
  rw [MakeChecks.laidMetH_plain _ _ _ (by kernel_rfl)] at h
  have h1 := Lib.laidMet.reads h (n := Rows.lawS3960ATokensSpec.vars.headD default) (d := Rows.laid_example_com_palimpsest_palimpsest_deflate_codeLenOrder) (by simp [Rows.lawS3960ATokensRow, Rows.lawS3960ATokensSpec])
  obtain ⟨g, t, cs, fuel, p, hg, ht, hv, hd⟩ := h1
  obtain rfl := Option.some.inj (gOrd.symm.trans hg)
  obtain rfl := Option.some.inj (tOrd.symm.trans ht)
  rw [ordData] at hd
  have hcs := Lib.cells_of_tab Ybad.underlying52 Ybad.underlying5 cells5 cells52 hd
  have hc : ∀ t, t < 19 → W.cell? ⟨0, t, none⟩ = some (.int .u8 ((ordL.getD t 0 : Nat) : Int)) := fun t ht => by
    have h2 := World.var?_cell gOrd hv t
    rw [h2]
    have h3 : cs[t]? = cs.toList[t]? := by simp
    have hl : t < ordL.length := ht
    rw [h3, hcs]
    simp [List.getD, hl]
  exact ⟨hc, World.block_lt_of_cell? W _ (hc 0 (by omega))⟩
/-- The door's own heap meets the condition. -/
theorem door_met (os : Os) (args : Array Value) : laidMetH Ybad.prog Rows.lawS3960ATokensRow.laid ((World.doorLaid Ybad.prog 400 os).forCall (fun _ _ => 0) ⟨#[], args, []⟩).memory :=
  laidMetH_of_parts3 (fuel := 8) (laidMet_of_run' 8 (by kernel_rfl) (by kernel_rfl)) (by kernel_rfl) (by kernel_rfl)
theorem src_read {H : Type} {W : World} {enc : TypeId × Value → H} {fuel n c : Nat} {a0 : Option Addr} {x : DataW H × List MemPlace} (h : DataW.trod enc Ybad.prog W 0 (fun _ => true) true fuel 22 [.slice a0 n c] = some x) :
    n ≤ maxLen ∧ ∃ zs : List Int, Src W a0 n zs ∧ ∀ j, 0 ≤ zs.getD j 0 ∧ zs.getD j 0 ≤ 255 := by
  rcases open_ints Ybad.underlying22 Ybad.underlying5 cells5 h with ⟨hcs, hx⟩ | ⟨a, len', cap', zs, hcs, _, hl, hm, hz, hx, hcell, hwz⟩
  · simp at hcs
    obtain ⟨rfl, rfl, rfl⟩ := hcs
    exact ⟨by unfold maxLen; omega, [], ⟨rfl, fun j hj => by omega⟩, fun j => by simp⟩
  · simp at hcs
    obtain ⟨rfl, rfl, rfl⟩ := hcs
    simp only [if_true] at hz
    have hbd : ∀ x ∈ zs, 0 ≤ x ∧ x ≤ 255 := fun x hx => by have := bounds_u8 (hwz x hx); omega
    refine ⟨by omega, zs.take n, ⟨by simp; omega, fun j hj => ?_⟩, fun j => ?_⟩
    · have h0c := hcell 0 (by omega)
      have hjc := hcell j (by omega)
      obtain ⟨b, off, spot⟩ := a
      have hspot : spot = none := by simpa [Addr.add] using World.cell?_spot h0c
      subst hspot
      rw [Addr.add_lit] at hjc
      refine ⟨b, off, rfl, World.block_lt_of_cell? W _ hjc, ?_⟩
      rw [hjc]
      simp [List.getD, hj]
    · rcases Nat.lt_or_ge j n with h | h
      · have hjs : j < zs.length := by omega
        have := hbd zs[j] (List.getElem_mem hjs)
        simpa [List.getD, List.getElem?_take, h, hjs] using this
      · rw [List.getD, List.getElem?_eq_none (by simp; omega)]
        simp
end Go.Proofs.YbulkccziDoor
