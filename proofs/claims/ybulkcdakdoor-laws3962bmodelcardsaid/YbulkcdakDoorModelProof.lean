import Derived.Test.YbulkcdakDoorModel
import Derived.Test.YbulkcdakDoorLaid
import Derived.ChangeOld
import Derived.Carry
namespace Go.Proofs.YbulkcdakDoor
open Go.ChangeShapes Go.WideShapes Go.ChangeAt Go.RowKit
namespace ModelP
set_option maxRecDepth 8000 in
set_option maxHeartbeats 1000000 in
/-- More than 1024 elements: the law answers at once. -/
theorem long_walk (a0 : Option Addr) (n cap : Nat) (w : World) (hn : 1024 < n) (hm : n ≤ maxLen) :
    Calls Ybad.prog 4 #[.slice a0 n cap] w fun e w' => e = .returned (.bool true) ∧ Below w.heap.size w w' := by
  unfold maxLen at hm
  have hd : (1024 : Int) < (n : Int) := by omega
  go_enter Ybad.func4, Ybad.ntmps4
  go_wp2
  go_ret
  exact ⟨rfl, Below.refl _ _⟩
set_option maxRecDepth 100000 in
theorem lifted (os : Os) (started : os.Started) (H : Type) (enc : TypeId × Value → H) :
    ReturnsInHanded {} Ybad.checked os 4 .any (fun w args => (Rows.lawS3962BModelSpec.pre enc Ybad.prog Ybad.f4 [] false w args ∧ laidMetH Ybad.prog Rows.lawS3962BModelRow.laid w) ∧ sizedMet enc Ybad.prog Ybad.f4 (OpenSpec.ofChange Rows.lawS3962BModelSpec) false w args)
      (Rows.lawS3962BModelSpec.post enc Ybad.prog Ybad.f4 false true false false) := by
  refine returnsInHanded_of_change_and (C := Ybad.checked) (X := fun w _ => laidMetH Ybad.prog Rows.lawS3962BModelRow.laid w) (fun _ _ _ hh h => h.of_heap hh) own started (by kernel_rfl) Ybad.func4
    (ChangeSpec.witness_shaped (enc := enc) (C := Ybad.checked) (os := os) (X := fun w _ => laidMetH Ybad.prog Rows.lawS3962BModelRow.laid w) false (World.doorLaid Ybad.prog 400 os) #[.slice none 0 0] 8 rfl (World.shaped_of_RefB (by kernel_rfl) (by kernel_rfl)) (by kernel_rfl) (by kernel_rfl) (by kernel_rfl) (door_met os _)) ?_
  intro W base args ds gs before hval0 hW _ _ hL _
  have hval : ∀ (j : Nat) t v, Ybad.f4.params[j]? = some t → args[j]? = some v → Value.okWide Ybad.prog W .any base t v := hval0
  have hW' := hW
  obtain ⟨p, q, hA0, hV, rfl, hfz, hnd⟩ := hW
  have hA : DataW.TrodAll enc Ybad.prog W 0 (fun _ => true) true Ybad.f4.params.toList args.toList ds p := hA0
  rw [Ybad.params4] at hA hval
  obtain ⟨v0, d0, rfl, rfl, h0⟩ := trodAll_one hA
  obtain ⟨rfl, rfl⟩ := trodVars_none hV
  obtain ⟨a0, len, cap, rfl⟩ := okWide_slice Ybad.underlying30 (hval 0 30 v0 rfl rfl)
  have h0k := h0
  obtain ⟨fuel, hf⟩ := h0
  clear hA0 hval0
  simp only [List.append_nil] at hW'
  have hg := glob_of_laid hL
  have hlt : ∀ x ∈ p, x.block < W.heap.size := fun x hx => by simpa using hW'.lt x hx
  have hargs : ∀ (W' : World), Below W.heap.size W W' → DataW.Trod enc Ybad.prog W' 0 (fun b => decide (b < W.heap.size)) true 30 (.slice a0 len cap) d0 p :=
    fun W' hn => Below.trod laidOut (by kernel_rfl) (of_decide_eq_true (by kernel_rfl)) h0k hn hlt
  have hfinal : Calls Ybad.prog 4 #[.slice a0 len cap] W fun e W' => e = .returned (.bool true) ∧ Below W.heap.size W W' := by
    rcases open_ints Ybad.underlying30 Ybad.underlying5 cells5 hf with ⟨hcs, hx⟩ | ⟨a, len', cap', zs, hcs, _, hl, hm, hz, hx, hcell, hwz⟩
    · simp [Value.cells] at hcs
      obtain ⟨rfl, rfl, rfl⟩ := hcs
      exact model_walk none 0 0 [] W (by omega) hg (fun j hj => by omega) (fun j => by simp)
    · simp [Value.cells] at hcs
      obtain ⟨rfl, rfl, rfl⟩ := hcs
      simp only [if_true] at hz
      by_cases hbig : 1024 < len
      · exact long_walk _ _ _ _ hbig (by omega)
      · have hc : ∀ j, j < len → ∃ b off, some a = some (⟨b, off, none⟩ : Addr) ∧ b < W.heap.size ∧ W.cell? ⟨b, off + j, none⟩ = some (.int .u8 (zs.getD j 0)) := by
          intro j hj
          have h0c := hcell 0 (by omega)
          have hjc := hcell j (by omega)
          obtain ⟨b, off, spot⟩ := a
          have hspot : spot = none := by simpa [Addr.add] using World.cell?_spot h0c
          subst hspot
          rw [Addr.add_lit] at hjc
          exact ⟨b, off, rfl, World.block_lt_of_cell? W _ hjc, hjc⟩
        have hbd : ∀ x ∈ zs, 0 ≤ x ∧ x ≤ 255 := fun x hx => by have := bounds_u8 (hwz x hx); omega
        exact model_walk (some a) len cap zs W (by omega) hg hc (fun j => by
          rcases Nat.lt_or_ge j zs.length with h | h
          · rw [List.getElem?_eq_getElem h]; exact hbd _ (List.getElem_mem h)
          · rw [List.getElem?_eq_none h]; simp)
  refine hfinal.mono fun e W' ⟨he, hb⟩ => ?_
  subst he
  exact ⟨_, rfl, _, _, _, [], p, [], hW', trodAll_mk1 (shut_bool Ybad.underlying4 _), trodAll_mk1 (hargs _ hb), rfl, hb.frame _, fun h => by cases h⟩

theorem row_holds : Rows.LawS3962BModelSaid :=
  OpenClaim.holds_of_wide 4 Ybad.f4 rfl rfl rfl rfl rfl rfl rfl ⟨rfl, rfl, rfl, rfl, rfl⟩ rfl rfl rfl rfl rfl (by kernel_rfl) Ybad.func4 (by kernel_rfl)
    (of_decide_eq_true (by kernel_rfl)) (by unfold Func.isWrapper; first | (rw [if_pos (by decide +kernel)]; kernel_rfl) | (rw [if_neg (by decide +kernel)]; exact ⟨rfl, rfl⟩))
    (fun os started H enc _ => lifted os started H enc)
end ModelP

theorem lawS3962BModel_card : Rows.LawS3962BModelCardSaid :=
  Claim7.holds_tied_plain_at .later [] [.data, .data, .data, .sentinel, .sentinel, .listed, .data] true (true, "b36a81da6370ddba066f4a13953dcecde17ed4d7d75fe60ac6ae924fda3051fe") true
    ModelP.row_holds (fun _ h => by cases h) (by kernel_rfl) (fun _ h => by cases h) lawS3962BModel_row_tie rfl ⟨rfl, rfl⟩ (by kernel_rfl) rfl
    (fun f fn hf hfn => by
      obtain rfl : f = 4 := Option.some.inj ((show Ybad.prog.funcNamed Rows.lawS3962BModelRow.func = some 4 by kernel_rfl).symm.trans hf) |>.symm
      obtain rfl : fn = Ybad.f4 := (Option.some.inj (Ybad.func4.symm.trans hfn)).symm
      exact ⟨by kernel_rfl, fun j t ht => by
        rw [Ybad.params4] at ht
        have hm : t ∈ [30] := by simpa using Array.mem_of_getElem? ht
        have hall : ([30].all fun u => !Ybad.prog.wantsStandIn u) = true := by kernel_rfl
        exact (show Ybad.prog.wantsStandIn t = false by simpa using List.all_eq_true.1 hall t hm)⟩)
    (by kernel_rfl)
end Go.Proofs.YbulkcdakDoor
