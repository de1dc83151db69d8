import Derived.Test.YbulkcdakDoorTrip
import Derived.Test.YbulkcdakDoorLaid
namespace Go.Proofs.YbulkcdakDoor
open Go.ChangeShapes Go.WideShapes Go.ChangeAt Go.RowKit
namespace RoundTripP
set_option maxRecDepth 100000 in
theorem lifted (os : Os) (started : os.Started) (H : Type) (enc : TypeId × Value → H) :
    ReturnsInHanded {} Ybad.checked os 3 .any (fun w args => (Rows.lawS3962BRoundTripSpec.pre enc Ybad.prog Ybad.f3 [] false w args ∧ laidMetH Ybad.prog Rows.lawS3962BRoundTripRow.laid w) ∧ sizedMet enc Ybad.prog Ybad.f3 (OpenSpec.ofChange Rows.lawS3962BRoundTripSpec) false w args)
      (Rows.lawS3962BRoundTripSpec.post enc Ybad.prog Ybad.f3 false true false false) := by
  refine returnsInHanded_of_change_and (C := Ybad.checked) (X := fun w _ => laidMetH Ybad.prog Rows.lawS3962BRoundTripRow.laid w) (fun _ _ _ hh h => h.of_heap hh) own started (by kernel_rfl) Ybad.func3
    (ChangeSpec.witness_shaped (enc := enc) (C := Ybad.checked) (os := os) (X := fun w _ => laidMetH Ybad.prog Rows.lawS3962BRoundTripRow.laid w) false (World.doorLaid Ybad.prog 400 os) #[.int .u32 0, .int .u32 0, .int .u32 0, .int .u8 0, .int .u8 0, .int .u8 0, .int .u8 0, .int .u8 0, .int .u8 0, .int .u8 0] 8 rfl (World.shaped_of_RefB (by kernel_rfl) (by kernel_rfl)) (by kernel_rfl) (by kernel_rfl) (by kernel_rfl) (door_met os _)) ?_
  intro W base args ds gs before hval0 hW _ _ hL _
  have hval : ∀ (j : Nat) t v, Ybad.f3.params[j]? = some t → args[j]? = some v → Value.okWide Ybad.prog W .any base t v := hval0
  have hW' := hW
  obtain ⟨p, q, hA0, hV, rfl, hfz, hnd⟩ := hW
  have hA : DataW.TrodAll enc Ybad.prog W 0 (fun _ => true) true Ybad.f3.params.toList args.toList ds p := hA0
  rw [Ybad.params3] at hA hval
  obtain ⟨v0, vs0, d0, ds0, p0, q0, hargs, rfl, rfl, h0, r0⟩ := trodAll_cons hA
  obtain ⟨v1, vs1, d1, ds1, p1, q1, rfl, rfl, rfl, h1, r1⟩ := trodAll_cons r0
  obtain ⟨v2, vs2, d2, ds2, p2, q2, rfl, rfl, rfl, h2, r2⟩ := trodAll_cons r1
  obtain ⟨v3, vs3, d3, ds3, p3, q3, rfl, rfl, rfl, h3, r3⟩ := trodAll_cons r2
  obtain ⟨v4, vs4, d4, ds4, p4, q4, rfl, rfl, rfl, h4, r4⟩ := trodAll_cons r3
  obtain ⟨v5, vs5, d5, ds5, p5, q5, rfl, rfl, rfl, h5, r5⟩ := trodAll_cons r4
  obtain ⟨v6, vs6, d6, ds6, p6, q6, rfl, rfl, rfl, h6, r6⟩ := trodAll_cons r5
  obtain ⟨v7, vs7, d7, ds7, p7, q7, rfl, rfl, rfl, h7, r7⟩ := trodAll_cons r6
  obtain ⟨v8, vs8, d8, ds8, p8, q8, rfl, rfl, rfl, h8, r8⟩ := trodAll_cons r7
  obtain ⟨v9, vs9, d9, ds9, p9, q9, rfl, rfl, rfl, h9, r9⟩ := trodAll_cons r8
  obtain ⟨rfl, rfl, rfl⟩ := trodAll_nil r9
  obtain rfl : args = #[v0, v1, v2, v3, v4, v5, v6, v7, v8, v9] := by cases args; simp_all
  obtain ⟨rfl, rfl⟩ := trodVars_none hV
  obtain ⟨x0, rfl, rfl, rfl, w0⟩ := open_int Ybad.underlying22 (hval 0 22 v0 rfl rfl) h0
  have b0 := bounds_u32 w0
  obtain ⟨x1, rfl, rfl, rfl, w1⟩ := open_int Ybad.underlying22 (hval 1 22 v1 rfl rfl) h1
  have b1 := bounds_u32 w1
  obtain ⟨x2, rfl, rfl, rfl, w2⟩ := open_int Ybad.underlying22 (hval 2 22 v2 rfl rfl) h2
  have b2 := bounds_u32 w2
  obtain ⟨x3, rfl, rfl, rfl, w3⟩ := open_int Ybad.underlying5 (hval 3 5 v3 rfl rfl) h3
  have b3 := bounds_u8 w3
  obtain ⟨x4, rfl, rfl, rfl, w4⟩ := open_int Ybad.underlying5 (hval 4 5 v4 rfl rfl) h4
  have b4 := bounds_u8 w4
  obtain ⟨x5, rfl, rfl, rfl, w5⟩ := open_int Ybad.underlying5 (hval 5 5 v5 rfl rfl) h5
  have b5 := bounds_u8 w5
  obtain ⟨x6, rfl, rfl, rfl, w6⟩ := open_int Ybad.underlying5 (hval 6 5 v6 rfl rfl) h6
  have b6 := bounds_u8 w6
  obtain ⟨x7, rfl, rfl, rfl, w7⟩ := open_int Ybad.underlying5 (hval 7 5 v7 rfl rfl) h7
  have b7 := bounds_u8 w7
  obtain ⟨x8, rfl, rfl, rfl, w8⟩ := open_int Ybad.underlying5 (hval 8 5 v8 rfl rfl) h8
  have b8 := bounds_u8 w8
  obtain ⟨x9, rfl, rfl, rfl, w9⟩ := open_int Ybad.underlying5 (hval 9 5 v9 rfl rfl) h9
  have b9 := bounds_u8 w9
  clear hA0 hval0
  simp only [List.append_nil] at hW'
  have hg := glob_of_laid hL
  obtain ⟨a, rfl⟩ := Int.eq_ofNat_of_zero_le b0.1
  obtain ⟨b, rfl⟩ := Int.eq_ofNat_of_zero_le b1.1
  obtain ⟨c, rfl⟩ := Int.eq_ofNat_of_zero_le b2.1
  refine (trip_walk a b c x3 x4 x5 x6 x7 x8 x9 (by omega) (by omega) (by omega) b3 b4 b5 b6 b7 b8 b9 W hg).mono fun e W' ⟨he, hb⟩ => ?_
  subst he
  exact ⟨_, rfl, _, _, _, [], [], [], hW', trodAll_mk1 (shut_bool Ybad.underlying4 _), (trodAll_cons_mk (shut_int Ybad.underlying22 w0) (trodAll_cons_mk (shut_int Ybad.underlying22 w1) (trodAll_cons_mk (shut_int Ybad.underlying22 w2) (trodAll_cons_mk (shut_int Ybad.underlying5 w3) (trodAll_cons_mk (shut_int Ybad.underlying5 w4) (trodAll_cons_mk (shut_int Ybad.underlying5 w5) (trodAll_cons_mk (shut_int Ybad.underlying5 w6) (trodAll_cons_mk (shut_int Ybad.underlying5 w7) (trodAll_cons_mk (shut_int Ybad.underlying5 w8) (trodAll_cons_mk (shut_int Ybad.underlying5 w9) trodAll_mk0)))))))))), rfl, hb.frame _, fun h => by cases h⟩

theorem row_holds : Rows.LawS3962BRoundTripSaid :=
  OpenClaim.holds_of_wide 3 Ybad.f3 rfl rfl rfl rfl rfl rfl rfl ⟨rfl, rfl, rfl, rfl, rfl⟩ rfl rfl rfl rfl rfl (by kernel_rfl) Ybad.func3 (by kernel_rfl)
    (of_decide_eq_true (by kernel_rfl)) (by unfold Func.isWrapper; first | (rw [if_pos (by decide +kernel)]; kernel_rfl) | (rw [if_neg (by decide +kernel)]; exact ⟨rfl, rfl⟩))
    (fun os started H enc _ => lifted os started H enc)
end RoundTripP

theorem lawS3962BRoundTrip_card : Rows.LawS3962BRoundTripCardSaid :=
  Claim7.holds_tied_plain_at .later [] [.data, .data, .data, .sentinel, .sentinel, .listed, .data] true (true, "b36a81da6370ddba066f4a13953dcecde17ed4d7d75fe60ac6ae924fda3051fe") true
    RoundTripP.row_holds (fun _ h => by cases h) (by kernel_rfl) (fun _ h => by cases h) lawS3962BRoundTrip_row_tie rfl ⟨rfl, rfl⟩ (by kernel_rfl) rfl
    (fun f fn hf hfn => by
      obtain rfl : f = 3 := Option.some.inj ((show Ybad.prog.funcNamed Rows.lawS3962BRoundTripRow.func = some 3 by kernel_rfl).symm.trans hf) |>.symm
      obtain rfl : fn = Ybad.f3 := (Option.some.inj (Ybad.func3.symm.trans hfn)).symm
      exact ⟨by kernel_rfl, fun j t ht => by
        rw [Ybad.params3] at ht
        have hm : t ∈ [22, 22, 22, 5, 5, 5, 5, 5, 5, 5] := by simpa using Array.mem_of_getElem? ht
        have hall : ([22, 22, 22, 5, 5, 5, 5, 5, 5, 5].all fun u => !Ybad.prog.wantsStandIn u) = true := by kernel_rfl
        exact (show Ybad.prog.wantsStandIn t = false by simpa using List.all_eq_true.1 hall t hm)⟩)
    (by kernel_rfl)
end Go.Proofs.YbulkcdakDoor
