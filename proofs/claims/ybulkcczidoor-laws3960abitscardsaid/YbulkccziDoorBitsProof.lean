import Derived.Test.YbulkccziDoorB4
import Derived.Test.YbulkccziDoorLaid
namespace Go.Proofs.YbulkccziDoor
open Go.ChangeShapes Go.WideShapes Go.ChangeAt Go.RowKit
namespace BitsP
set_option maxRecDepth 8000 in
set_option maxHeartbeats 1000000 in
/-- One of the lists is longer than 1024: the law answers at once. -/
theorem long_walk (a b : Option Addr) (n n' m m' P : Nat) (w : World) (h : 1024 < n ∨ 1024 < m) (hn : n ≤ maxLen) (hm : m ≤ maxLen) :
    Calls Ybad.prog 4 #[.slice a n n', .slice b m m', .int .u16 (P : Int)] w fun e w' => e = .returned (.bool true) ∧ Below w.heap.size w w' := by
  unfold maxLen at hn hm
  rcases Nat.lt_or_ge 1024 n with h1 | h1
  · have k1 : (1024 : Int) < (n : Int) := by omega
    clear h
    go_enter Ybad.func4, Ybad.ntmps4
    go_wp2
    go_ret
    exact ⟨rfl, Below.refl _ _⟩
  · have k1 : decide ((1024 : Int) < (n : Int)) = false := decide_eq_false (by omega)
    have k2 : (1024 : Int) < (m : Int) := by omega
    clear h
    go_enter Ybad.func4, Ybad.ntmps4
    go_wp2
    go_ret
    exact ⟨rfl, Below.refl _ _⟩
set_option maxRecDepth 100000 in
theorem lifted (os : Os) (started : os.Started) (H : Type) (enc : TypeId × Value → H) :
    ReturnsInHanded {} Ybad.checked os 4 .any (fun w args => (Rows.lawS3960ABitsSpec.pre enc Ybad.prog Ybad.f4 [] false w args ∧ laidMetH Ybad.prog Rows.lawS3960ABitsRow.laid w) ∧ sizedMet enc Ybad.prog Ybad.f4 (OpenSpec.ofChange Rows.lawS3960ABitsSpec) false w args)
      (Rows.lawS3960ABitsSpec.post enc Ybad.prog Ybad.f4 false true false false) := by
  refine returnsInHanded_of_change_and (C := Ybad.checked) (X := fun w _ => laidMetH Ybad.prog Rows.lawS3960ABitsRow.laid w) (fun _ _ _ hh h => h.of_heap hh) own started (by kernel_rfl) Ybad.func4
    (ChangeSpec.witness_shaped (enc := enc) (C := Ybad.checked) (os := os) (X := fun w _ => laidMetH Ybad.prog Rows.lawS3960ABitsRow.laid w) false (World.doorLaid Ybad.prog 400 os) #[.slice none 0 0, .slice none 0 0, .int .u16 0] 8 rfl (World.shaped_of_RefB (by kernel_rfl) (by kernel_rfl)) (by kernel_rfl) (by kernel_rfl) (by kernel_rfl) (door_met os _)) ?_
  intro W base args ds gs before hval0 hW _ _ hL _
  have hval : ∀ (j : Nat) t v, Ybad.f4.params[j]? = some t → args[j]? = some v → Value.okWide Ybad.prog W .any base t v := hval0
  have hW' := hW
  obtain ⟨p, q, hA0, hV, rfl, hfz, hnd⟩ := hW
  have hA : DataW.TrodAll enc Ybad.prog W 0 (fun _ => true) true Ybad.f4.params.toList args.toList ds p := hA0
  rw [Ybad.params4] at hA hval
  obtain ⟨v0, vs0, d0, ds0, p0, q0, hargs, rfl, rfl, h0, r0⟩ := trodAll_cons hA
  obtain ⟨v1, vs1, d1, ds1, p1, q1, rfl, rfl, rfl, h1, r1⟩ := trodAll_cons r0
  obtain ⟨v2, vs2, d2, ds2, p2, q2, rfl, rfl, rfl, h2, r2⟩ := trodAll_cons r1
  obtain ⟨rfl, rfl, rfl⟩ := trodAll_nil r2
  obtain rfl : args = #[v0, v1, v2] := by cases args; simp_all
  have hV1 := hV
  obtain ⟨gg, tt, csg, fg, dg, pg, rfl, -, -, -, -, -⟩ := trodVars_one hV1
  obtain ⟨a0, n0, c0, rfl⟩ := okWide_slice Ybad.underlying22 (hval 0 22 v0 rfl rfl)
  obtain ⟨a1, n1, c1, rfl⟩ := okWide_slice Ybad.underlying22 (hval 1 22 v1 rfl rfl)
  have h2k := h2
  obtain ⟨z2, rfl, rfl, rfl, hw2⟩ := open_int Ybad.underlying23 (hval 2 23 v2 rfl rfl) h2
  clear hA0 hval0
  have hlt : ∀ x ∈ p0 ++ (p1 ++ ([] ++ [])) ++ q, x.block < W.heap.size := fun x hx => hW'.lt x hx
  obtain ⟨hord, hpos⟩ := ord_of_laid hL
  obtain ⟨m0, zs, hZS, hZb⟩ := h0.elim fun fuel hf => src_read hf
  obtain ⟨m1, ys, hYS, hYb⟩ := h1.elim fun fuel hf => src_read hf
  have hb2 := bounds_u16 hw2
  obtain ⟨P, hP⟩ : ∃ P : Nat, z2 = (P : Int) := ⟨z2.toNat, by omega⟩
  have hfinal : Calls Ybad.prog 4 #[.slice a0 n0 c0, .slice a1 n1 c1, .int .u16 z2] W fun e W' => e = .returned (.bool true) ∧ Below W.heap.size W W' := by
    rw [hP]
    by_cases hbig : 1024 < n0 ∨ 1024 < n1
    · exact long_walk _ _ _ _ _ _ _ W hbig m0 m1
    · exact law4 a0 a1 n0 n1 c0 c1 P zs ys W hZS hYS (by omega) (by omega) (by omega) hZb hYb hpos hord
  refine hfinal.mono fun e W' ⟨he, hb⟩ => ?_
  subst he
  have k0 : DataW.Trod enc Ybad.prog W' 0 (fun b => decide (b < W.heap.size)) true 22 (.slice a0 n0 c0) d0 p0 := Below.trod laidOut (by kernel_rfl) (of_decide_eq_true (by kernel_rfl)) h0 hb (fun x hx => hlt x (by simp [hx]))
  have k1 : DataW.Trod enc Ybad.prog W' 0 (fun b => decide (b < W.heap.size)) true 22 (.slice a1 n1 c1) d1 p1 := Below.trod laidOut (by kernel_rfl) (of_decide_eq_true (by kernel_rfl)) h1 hb (fun x hx => hlt x (by simp [hx]))
  have k2 : DataW.Trod enc Ybad.prog W' 0 (fun b => decide (b < W.heap.size)) true 23 (.int .u16 z2) (.lit (.int .u16 z2)) [] := Below.trod laidOut (by kernel_rfl) (of_decide_eq_true (by kernel_rfl)) h2k hb (fun x hx => by cases hx)
  have kv := Below.trodVars laidOut hb (by kernel_rfl) hV
  exact ⟨_, rfl, _, _, _, [], _, _, hW', trodAll_mk1 (shut_bool Ybad.underlying4 _), (trodAll_cons_mk k0 (trodAll_cons_mk k1 (trodAll_cons_mk k2 trodAll_mk0))), kv, hb.frame _, fun h => by cases h⟩

theorem row_holds : Rows.LawS3960ABitsSaid :=
  OpenClaim.holds_of_wide 4 Ybad.f4 rfl rfl rfl rfl rfl rfl rfl ⟨rfl, rfl, rfl, rfl, rfl⟩ rfl rfl rfl rfl rfl (by kernel_rfl) Ybad.func4 (by kernel_rfl)
    (of_decide_eq_true (by kernel_rfl)) (by unfold Func.isWrapper; first | (rw [if_pos (by decide +kernel)]; kernel_rfl) | (rw [if_neg (by decide +kernel)]; exact ⟨rfl, rfl⟩))
    (fun os started H enc _ => lifted os started H enc)
end BitsP

theorem lawS3960ABits_card : Rows.LawS3960ABitsCardSaid :=
  Claim7.holds_tied_plain_at .later [] [.widerDeep] true (true, "9d6fb796174f7817e66d10bfce553a82ccfcd4fbb754b232efc7598db4f66f36") false
    BitsP.row_holds (fun _ h => by cases h) (by kernel_rfl) (fun _ h => by cases h) lawS3960ABits_row_tie rfl ⟨rfl, rfl⟩ (by kernel_rfl) rfl
    (fun f fn hf hfn => by
      obtain rfl : f = 4 := Option.some.inj ((show Ybad.prog.funcNamed Rows.lawS3960ABitsRow.func = some 4 by kernel_rfl).symm.trans hf) |>.symm
      obtain rfl : fn = Ybad.f4 := (Option.some.inj (Ybad.func4.symm.trans hfn)).symm
      exact ⟨by kernel_rfl, fun j t ht => by
        rw [Ybad.params4] at ht
        have hm : t ∈ [22, 22, 23] := by simpa using Array.mem_of_getElem? ht
        have hall : ([22, 22, 23].all fun u => !Ybad.prog.wantsStandIn u) = true := by kernel_rfl
        exact (show Ybad.prog.wantsStandIn t = false by simpa using List.all_eq_true.1 hall t hm)⟩)
    (by kernel_rfl)
end Go.Proofs.YbulkccziDoor
