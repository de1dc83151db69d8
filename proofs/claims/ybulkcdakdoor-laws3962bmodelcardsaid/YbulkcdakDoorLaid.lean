import Derived.Test.YbulkcdakDoorExt
import Derived.Test.YbulkcdakDoorTie
import Derived.Test.YbulkcdakDoorCards
import Derived.ProofKit
import Derived.LaidMore
import Derived.OpenShut
import Derived.Stop.Joined
import Derived.Lib.LaidU8
import Derived.MakeChecks
import Derived.SevenTiedAt
namespace Go.Proofs.YbulkcdakDoor
open Go.ChangeShapes Go.WideShapes Go.ChangeAt Go.RowKit
theorem own : ownKnob Ybad.prog.godebug = none := by kernel_rfl
theorem laidOut : laidOutB Ybad.prog = true := by kernel_rfl
theorem gSyn : Ybad.prog.globalNamed "strconv.ErrSyntax" = some 2 := by kernel_rfl
theorem gRan : Ybad.prog.globalNamed "strconv.ErrRange" = some 3 := by kernel_rfl
theorem gAsc : Ybad.prog.globalNamed "strings.asciiSpace" = some 0 := by kernel_rfl
theorem tSyn : (Ybad.prog.globals[2]?).map (·.type) = some 41 := by kernel_rfl
theorem tRan : (Ybad.prog.globals[3]?).map (·.type) = some 41 := by kernel_rfl
theorem tAsc : (Ybad.prog.globals[0]?).map (·.type) = some 44 := by kernel_rfl
theorem cells44 : Ybad.prog.cellsOf 44 = 256 := by kernel_rfl
theorem cells5 : Ybad.prog.cellsOf 5 = 1 := by kernel_rfl
theorem ascData : (Rows.laid_strings_asciiSpace : DataW Unit) = Lib.tabData .u8 Lib.asciiSpaceTab := by kernel_rfl
/-- What the listed variables give the walks. -/
theorem glob_of_laid {W : World} (h : laidMetH Ybad.prog Rows.lawS3962BRoundTripRow.laid W) : Glob W := by
  rw [MakeChecks.laidMetH_plain _ _ _ (by kernel_rfl)] at h
  have h1 := Lib.laidMet.reads h (n := "strings.asciiSpace") (d := Rows.laid_strings_asciiSpace) (by simp [Rows.lawS3962BRoundTripRow])
  have h2 := Lib.laidMet.reads h (n := "strconv.ErrSyntax") (d := Rows.laid_strconv_ErrSyntax) (by simp [Rows.lawS3962BRoundTripRow])
  have h3 := Lib.laidMet.reads h (n := "strconv.ErrRange") (d := Rows.laid_strconv_ErrRange) (by simp [Rows.lawS3962BRoundTripRow])
  refine ⟨?_, ?_, ?_⟩
  · obtain ⟨g, t, cs, fuel, p, hg, ht, hv, hd⟩ := h1
    obtain rfl := Option.some.inj (gAsc.symm.trans hg)
    obtain rfl := Option.some.inj (tAsc.symm.trans ht)
    rw [ascData] at hd
    unfold Lib.TabIs
    rw [hv, ← Lib.cells_of_tab Ybad.underlying44 Ybad.underlying5 cells5 cells44 hd]
  · obtain ⟨g, t, cs, fuel, p, hg, ht, hv, hd⟩ := h2
    obtain rfl := Option.some.inj (gSyn.symm.trans hg)
    obtain rfl := Option.some.inj (tSyn.symm.trans ht)
    obtain ⟨f1, u, v, hcs, hn, hq⟩ := iface_of_trod Ybad.underlying41 hd
    have := World.var?_cell gSyn hv 0
    refine ⟨u, v, ?_⟩
    rw [this]
    have : cs = #[.iface u v] := by cases cs; simp at hcs; simp [hcs]
    rw [this]; rfl
  · obtain ⟨g, t, cs, fuel, p, hg, ht, hv, hd⟩ := h3
    obtain rfl := Option.some.inj (gRan.symm.trans hg)
    obtain rfl := Option.some.inj (tRan.symm.trans ht)
    obtain ⟨f1, u, v, hcs, hn, hq⟩ := iface_of_trod Ybad.underlying41 hd
    have := World.var?_cell gRan hv 0
    refine ⟨u, v, ?_⟩
    rw [this]
    have : cs = #[.iface u v] := by cases cs; simp at hcs; simp [hcs]
    rw [this]; rfl
/-- The door's own heap meets the condition. -/
theorem door_met (os : Os) (args : Array Value) : laidMetH Ybad.prog Rows.lawS3962BRoundTripRow.laid ((World.doorLaid Ybad.prog 400 os).forCall (fun _ _ => 0) ⟨#[], args, []⟩).memory :=
  laidMetH_of_parts3 (fuel := 8) (laidMet_of_run' 8 (by kernel_rfl) (by kernel_rfl)) (by kernel_rfl) (by kernel_rfl)
end Go.Proofs.YbulkcdakDoor
