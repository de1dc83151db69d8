import Derived.Test.YbulkcdcaDoorRows
import Derived.Test.YbulkcdcaDoorTie
import Derived.Test.YbulkcdcaDoorCards
import Derived.ProofKit
import Derived.LaidMore
import Derived.LaidLaws
import Derived.OpenShut
import Derived.OpenVars
import Derived.ChangeOld
import Derived.Carry
import Derived.Stop.Joined
import Derived.Lib.LaidU8
import Derived.MakeChecks
import Derived.SevenTiedAt
import Derived.SliceStrings
namespace Go.Proofs.YbulkcdcaDoor
open Go.ChangeShapes Go.WideShapes Go.ChangeAt Go.RowKit
theorem own : ownKnob Ybad.prog.godebug = none := by kernel_rfl
theorem laidOut : laidOutB Ybad.prog = true := by kernel_rfl
theorem gErr : Ybad.prog.globalNamed (Rows.lawS3965CRoundTripSpec.vars.headD default) = some 0 := by kernel_rfl
theorem tErr : (Ybad.prog.globals[0]?).map (·.type) = some 31 := by kernel_rfl
theorem cells9 : Ybad.prog.cellsOf 9 = 1 := by kernel_rfl
theorem cells78 : Ybad.prog.cellsOf 78 = 1 := by kernel_rfl
theorem cells26 : Ybad.prog.cellsOf 26 = 1 := by kernel_rfl
theorem cells5 : Ybad.prog.cellsOf 5 = 1 := by kernel_rfl
theorem name58 (u : TypeId) (h : Ybad.prog.typeName? 3 u = Ybad.prog.typeName? 3 58) : u = 58 :=
  typeName_ptr_named (nm := "errors.errorString") (by kernel_rfl) (by kernel_rfl) (by decide) u (h.trans (by kernel_rfl))
/-- What the sentinel's variable holds. -/
theorem err_of_laid {W : World} (h : laidMetH Ybad.prog Rows.lawS3965CRoundTripRow.laid W) : (∃ a, W.cell? ⟨0, 0, none⟩ = some (.iface 58 (.pointer (some a)))) ∧ 0 < W.heap.size := by
  rw [MakeChecks.laidMetH_plain _ _ _ (by kernel_rfl)] at h
  obtain ⟨ps, ⟨g0, t0, cs0, f0, p0, q0, hg0, ht0, hv0, hd0, hq, e0⟩, hnd, hrows⟩ := h
  obtain rfl := Option.some.inj (gErr.symm.trans hg0)
  obtain rfl := Option.some.inj (tErr.symm.trans ht0)
  subst e0
  obtain ⟨l0⟩ := cs0
  have ok0 : ∀ u v, l0 = [.iface u v] → Value.okWide Ybad.prog W .any 0 u v := fun u v e => by
    subst e
    exact (hrows 0 0 (by simp [MemPlace.row])).2 u v (by simpa using World.var?_cell hg0 hv0 0)
  obtain ⟨a0, s0, rfl, -, -, -, -⟩ := errorString_of_trod Ybad.underlying31 (fun u hu => name58 u (hu.trans (by kernel_rfl))) Ybad.underlying58 Ybad.underlying78 rfl rfl Ybad.underlying9 cells78 cells9 hd0 ok0
  have hc1 : W.cell? ⟨0, 0, none⟩ = some (.iface 58 (.pointer (some a0))) := by simpa using World.var?_cell hg0 hv0 0
  exact ⟨⟨a0, hc1⟩, World.block_lt_of_cell? W _ hc1⟩
/-- The door's own heap meets the condition. -/
theorem door_met (os : Os) (args : Array Value) : laidMetH Ybad.prog Rows.lawS3965CRoundTripRow.laid ((World.doorLaid Ybad.prog 400 os).forCall (fun _ _ => 0) ⟨#[], args, []⟩).memory :=
  laidMetH_of_parts3 (fuel := 8) (laidMet_of_run' 8 (by kernel_rfl) (by kernel_rfl)) (by kernel_rfl) (by kernel_rfl)
end Go.Proofs.YbulkcdcaDoor
