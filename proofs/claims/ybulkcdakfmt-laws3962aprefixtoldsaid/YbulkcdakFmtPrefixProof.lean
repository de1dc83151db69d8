import Derived.Test.YbulkcdakFmtPrefix
import Derived.Test.YbulkcdakFmtEsc
import Derived.Test.YbulkcdakFmtCards
import Derived.ProofKit
import Derived.OpenShut
import Derived.ChangeOld
import Derived.Carry
import Derived.SevenToldRow
namespace Go.Proofs.YbulkcdakFmt
open Go.ChangeShapes Go.WideShapes Go.ChangeAt Go.RowKit Go.Kit
open Go.Extern.Stop Go.Stop Go.Extern
namespace PrefixP
theorem own : ownKnob Ybaf.prog.godebug = none := by kernel_rfl
theorem laidOut : laidOutB Ybaf.pinned.checked.prog = true := by kernel_rfl
theorem cells5 : Ybaf.prog.cellsOf 5 = 1 := by kernel_rfl
theorem stops : Ybaf.pinned.checked.prog.stops = ["fmt.Sprintf"] := by kernel_rfl
theorem stopKnobs : Ybaf.pinned.checked.prog.stopKnobs = [] := by kernel_rfl
theorem quiet (os : Os) : Stop.quiet Ybaf.pinned.checked.prog os := by
  intro k hk
  rw [stopKnobs] at hk
  cases hk

set_option maxHeartbeats 400000 in
/-- More than 1024 elements: the law answers at once. -/
theorem long_walk (a0 : Option Addr) (n cap : Nat) (w : World) (hn : 1024 < n) (hm : n ≤ maxLen) :
    Calls Ybaf.prog 4 #[.slice a0 n cap] w fun e w' => e = .returned (.bool true) ∧ Below w.heap.size w w' := by
  unfold maxLen at hm
  have hd : (1024 : Int) < (n : Int) := by omega
  go_enter Ybaf.func4, Ybaf.ntmps4
  go_wp2
  go_ret
  exact ⟨rfl, Below.refl _ _⟩

set_option maxRecDepth 100000 in
theorem lifted (os : Os) (started : os.Started) (H : Type) (enc : TypeId × Value → H) :
    ReturnsInTold none {} Ybaf.checked os 4 .any Input.okWide ((OpenSpec.ofChange Rows.lawS3962APrefixSpec).preRow enc Ybaf.prog Ybaf.f4 [] false []) (fun F => ((OpenSpec.ofChange Rows.lawS3962APrefixSpec).at F).post enc Ybaf.prog Ybaf.f4 false true false false) (aloneAtReturn Ybaf.prog) nothingAlways := by
  refine returnsInTold_of_row (C := Ybaf.checked) (s := OpenSpec.ofChange Rows.lawS3962APrefixSpec) (by kernel_rfl) own started (by kernel_rfl) Ybaf.func4
    (OpenSpec.witness_stopped (enc := enc) (C := Ybaf.checked) false ⟨#[], #[.slice none 0 0], []⟩ 8 (by kernel_rfl) (by kernel_rfl) (by kernel_rfl) (by kernel_rfl)) ?_
  intro F W base args ds gs before _ hF hval0 hW _ _ hsz _ _
  have hval : ∀ (j : Nat) t v, Ybaf.f4.params[j]? = some t → args[j]? = some v → Value.okWide Ybaf.prog W .any base t v := hval0
  have hW' := hW
  obtain ⟨p, q, hA0, hV, rfl, _, _⟩ := hW
  have hA : DataW.TrodAll enc Ybaf.prog W 0 (fun _ => true) true Ybaf.f4.params.toList args.toList ds p := hA0
  rw [Ybaf.params4] at hA hval
  obtain ⟨v0, d0, rfl, rfl, h0⟩ := trodAll_one hA
  obtain ⟨rfl, rfl⟩ := trodVars_none hV
  obtain ⟨a0, len, cap, rfl⟩ := okWide_slice Ybaf.underlying22 (hval 0 22 v0 rfl rfl)
  have h0k := h0
  obtain ⟨fuel, hf⟩ := h0
  clear hA0 hval0
  simp only [List.append_nil] at hW'
  have hlt : ∀ x ∈ p, x.block < W.heap.size := fun x hx => by simpa using hW'.lt x hx
  have hargs : ∀ (W' : World), Below W.heap.size W W' → DataW.Trod enc Ybaf.prog W' 0 (fun b => decide (b < W.heap.size)) true 22 (.slice a0 len cap) d0 p :=
    fun W' hn => Below.trod laidOut (by kernel_rfl) (of_decide_eq_true (by kernel_rfl)) h0k hn hlt
  have fin : ∀ (e : Ending) (W' : World), (e = .returned (.bool true) ∧ Below W.heap.size W W') →
      ∃ v, e = .returned v ∧ ((OpenSpec.ofChange Rows.lawS3962APrefixSpec).at F.told).post enc Ybaf.prog Ybaf.f4 false true false false W #[.slice a0 len cap] v W' := by
    rintro e W' ⟨rfl, hnx⟩
    exact ⟨_, rfl, _, _, _, [], p, [], hW', trodAll_mk1 (shut_bool Ybaf.underlying4 _), trodAll_mk1 (hargs _ hnx), rfl, hnx.frame _, fun h => by cases h⟩
  have hfinal : Calls Ybaf.prog 4 #[.slice a0 len cap] W fun e W' => e = .returned (.bool true) ∧ Below W.heap.size W W' := by
    rcases open_ints Ybaf.underlying22 Ybaf.underlying5 cells5 hf with ⟨hcs, hx⟩ | ⟨a, len', cap', zs, hcs, _, hl, hm, hz, hx, hcell, hwz⟩
    · simp [Value.cells] at hcs
      obtain ⟨rfl, rfl, rfl⟩ := hcs
      exact prefix_walk escape_any F none 0 0 [] W hF (by omega) rfl (fun j hj => by omega) (fun x hx => by cases hx)
    · simp [Value.cells] at hcs
      obtain ⟨rfl, rfl, rfl⟩ := hcs
      simp only [if_true] at hz
      by_cases hbig : 1024 < len
      · exact long_walk _ _ _ _ hbig (by omega)
      · have hc : ∀ j, j < len → ∃ b off, some a = some (⟨b, off, none⟩ : Addr) ∧ b < W.heap.size ∧ W.cell? ⟨b, off + j, none⟩ = some (.int .u8 (zs.getD j 0)) := by
          intro j hj
          have h0c := hcell 0 (by omega)
          have hjc := hcell j (by omega)
          obtain ⟨b, off, spot⟩ := a
          have hspot : spot = none := by simpa [Addr.add] using World.cell?_spot h0c
          subst hspot
          rw [Addr.add_lit] at hjc
          exact ⟨b, off, rfl, World.block_lt_of_cell? W _ hjc, hjc⟩
        have hbd : ∀ x ∈ zs, 0 ≤ x ∧ x ≤ 255 := fun x hx => by have := bounds_u8 (hwz x hx); omega
        refine prefix_walk escape_any F (some a) len cap (zs.take len) W hF (by omega) (by simp; omega) (fun j hj => ?_) (fun x hx => hbd x (List.mem_of_mem_take hx))
        obtain ⟨b, off, e, hb, h⟩ := hc j hj
        exact ⟨b, off, e, hb, by rw [h]; simp [hj]⟩
  exact hfinal.mono fin

theorem proved : Rows.LawS3962APrefixToldSaid :=
  Claim7.holds_of_told_any 4 Ybaf.f4 "fmt.Sprintf" [] [] _ _ _ (by kernel_rfl) rfl rfl rfl laidOut (by kernel_rfl) rfl ⟨rfl, rfl, rfl, rfl, rfl, rfl, rfl⟩ rfl rfl (by kernel_rfl) (by kernel_rfl) Ybaf.func4 (by kernel_rfl)
    (of_decide_eq_true (by kernel_rfl)) (of_decide_eq_true (by kernel_rfl)) stops.symm rfl stopKnobs.symm (by kernel_rfl)
    (by kernel_rfl) (by kernel_rfl) (by kernel_rfl) (by kernel_rfl) (by kernel_rfl) (by kernel_rfl) (by kernel_rfl) (by kernel_rfl) (by kernel_rfl) rfl (by kernel_rfl) rfl rfl
    rfl rfl
    rfl (by kernel_rfl) (by kernel_rfl) (by kernel_rfl) (by decide) (by kernel_rfl)
    (OpenClaim.moreEntering_of (by kernel_rfl) (by kernel_rfl) (by kernel_rfl) (by kernel_rfl) (by kernel_rfl) (by kernel_rfl) (by kernel_rfl) (by kernel_rfl) (by kernel_rfl) (by kernel_rfl))
    ⟨_, WideRow.started_initial, quiet _⟩
    (fun os started _ H enc _ => lifted os started H enc)
end PrefixP
theorem lawS3962APrefix_told : Rows.LawS3962APrefixToldSaid := PrefixP.proved
end Go.Proofs.YbulkcdakFmt
