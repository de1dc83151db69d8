import Derived.Test.YbulkcdcaDoorLaw
import Derived.Test.YbulkcdcaDoorLaid
namespace Go.Proofs.YbulkcdcaDoor
open Go.ChangeShapes Go.WideShapes Go.ChangeAt Go.RowKit
namespace WireP
set_option maxRecDepth 8000 in
set_option maxHeartbeats 1000000 in
/-- One of the lists is longer than 1024: the law answers at once. -/
theorem long_walk (a b c d : Option Addr) (n n' m m' q q' t t' : Nat) (w : World) (h : 1024 < n ∨ 1024 < q ∨ 1024 < t ∨ 1024 < m) (hn : n ≤ maxLen) (hm : m ≤ maxLen) (hq : q ≤ maxLen) (ht : t ≤ maxLen) :
    Calls Ybad.prog 3 #[.slice a n n', .slice b m m', .slice c q q', .slice d t t'] w fun e w' => e = .returned (.bool true) ∧ Below w.heap.size w w' := by
  unfold maxLen at hn hm hq ht
  have hb : (decide ((1024 : Int) < (n : Int)) || decide ((1024 : Int) < (q : Int)) || decide ((1024 : Int) < (t : Int)) || decide ((1024 : Int) < (m : Int))) = true := by
    simp
    omega
  have HH : Hid (1024 < n ∨ 1024 < q ∨ 1024 < t ∨ 1024 < m) := h
  rcases Nat.lt_or_ge 1024 n with h1 | h1
  · have k1 : (1024 : Int) < (n : Int) := by omega
    clear h hb
    go_enter Ybad.func3, Ybad.ntmps3
    go_wp2
    go_ret
    exact ⟨rfl, Below.refl _ _⟩
  · have k1 : decide ((1024 : Int) < (n : Int)) = false := decide_eq_false (by omega)
    rcases Nat.lt_or_ge 1024 q with h2 | h2
    · have k2 : (1024 : Int) < (q : Int) := by omega
      clear h hb
      go_enter Ybad.func3, Ybad.ntmps3
      go_wp2
      go_ret
      exact ⟨rfl, Below.refl _ _⟩
    · have k2 : decide ((1024 : Int) < (q : Int)) = false := decide_eq_false (by omega)
      rcases Nat.lt_or_ge 1024 t with h3 | h3
      · have k3 : (1024 : Int) < (t : Int) := by omega
        clear h hb
        go_enter Ybad.func3, Ybad.ntmps3
        go_wp2
        go_ret
        exact ⟨rfl, Below.refl _ _⟩
      · have k3 : decide ((1024 : Int) < (t : Int)) = false := decide_eq_false (by omega)
        have k4 : (1024 : Int) < (m : Int) := by omega
        clear h hb
        go_enter Ybad.func3, Ybad.ntmps3
        go_wp2
        go_ret
        exact ⟨rfl, Below.refl _ _⟩

theorem strs_read {H : Type} {W : World} {enc : TypeId × Value → H} {fuel n c : Nat} {a0 : Option Addr} {x : DataW H × List MemPlace} (h : DataW.trod enc Ybad.prog W 0 (fun _ => true) true fuel 22 [.slice a0 n c] = some x) :
    n ≤ maxLen ∧ (a0 = none → n = 0 ∧ c = 0) ∧ ∃ NS : List (List UInt8), StrsAt W a0 n NS ∧ ∀ j : Nat, (NS.getD j []).length ≤ 9223372036854775807 := by
  rcases open_strings Ybad.underlying22 Ybad.underlying9 cells9 h with ⟨hcs, hx⟩ | ⟨a, len', cap', ss, hcs, _, hl, hm, hz, hx, hcell, hsz⟩
  · simp at hcs
    obtain ⟨rfl, rfl, rfl⟩ := hcs
    exact ⟨by unfold maxLen; omega, fun _ => ⟨rfl, rfl⟩, [], fun j hj => by omega, fun j => by simp⟩
  · simp at hcs
    obtain ⟨rfl, rfl, rfl⟩ := hcs
    simp only [if_true] at hz
    refine ⟨by omega, (fun h => by cases h), ss.map (·.data.toList), fun j hj => ?_, fun j => ?_⟩
    · have h0c := hcell 0 (by omega)
      have hjc := hcell j (by omega)
      obtain ⟨b, off, spot⟩ := a
      have hspot : spot = none := by simpa [Addr.add] using World.cell?_spot h0c
      subst hspot
      rw [Addr.add_lit] at hjc
      refine ⟨b, off, rfl, World.block_lt_of_cell? W _ hjc, ?_⟩
      rw [hjc]
      have hjs : j < ss.length := by omega
      simp [List.getD, hjs]
    · rcases Nat.lt_or_ge j ss.length with h | h
      · have := hsz ss[j] (List.getElem_mem h)
        unfold maxLen at this
        simp [List.getD, h]
        have e : ss[j].data.size = ss[j].size := rfl
        omega
      · simp [List.getD, h]
theorem nums_read {H : Type} {W : World} {enc : TypeId × Value → H} {fuel n c : Nat} {a0 : Option Addr} {x : DataW H × List MemPlace} (h : DataW.trod enc Ybad.prog W 0 (fun _ => true) true fuel 23 [.slice a0 n c] = some x) :
    n ≤ maxLen ∧ ∃ IS : List Nat, IS.length = n ∧ NumsAt W a0 n IS ∧ ∀ j : Nat, IS.getD j 0 < 18446744073709551616 := by
  rcases open_ints Ybad.underlying23 Ybad.underlying26 cells26 h with ⟨hcs, hx⟩ | ⟨a, len', cap', zs, hcs, _, hl, hm, hz, hx, hcell, hwz⟩
  · simp at hcs
    obtain ⟨rfl, rfl, rfl⟩ := hcs
    exact ⟨by unfold maxLen; omega, [], rfl, fun j hj => by omega, fun j => by simp⟩
  · simp at hcs
    obtain ⟨rfl, rfl, rfl⟩ := hcs
    simp only [if_true] at hz
    have hbd : ∀ x ∈ zs, 0 ≤ x ∧ x < 18446744073709551616 := fun x hx => by have := bounds_u64 (hwz x hx); omega
    refine ⟨by omega, (zs.take n).map Int.toNat, by simp; omega, fun j hj => ?_, fun j => ?_⟩
    · have h0c := hcell 0 (by omega)
      have hjc := hcell j (by omega)
      obtain ⟨b, off, spot⟩ := a
      have hspot : spot = none := by simpa [Addr.add] using World.cell?_spot h0c
      subst hspot
      rw [Addr.add_lit] at hjc
      refine ⟨b, off, rfl, World.block_lt_of_cell? W _ hjc, ?_⟩
      rw [hjc]
      have hjs : j < zs.length := by omega
      have := hbd zs[j] (List.getElem_mem hjs)
      simp [List.getD, hjs, hj]
      omega
    · rcases Nat.lt_or_ge j n with h | h
      · have hjs : j < zs.length := by omega
        have := hbd zs[j] (List.getElem_mem hjs)
        simp [List.getD, hjs, h]
        omega
      · rw [List.getD, List.getElem?_eq_none (by simp; omega)]
        simp
theorem bytes_read {H : Type} {W : World} {enc : TypeId × Value → H} {fuel n c : Nat} {a0 : Option Addr} {x : DataW H × List MemPlace} (h : DataW.trod enc Ybad.prog W 0 (fun _ => true) true fuel 24 [.slice a0 n c] = some x) :
    n ≤ maxLen ∧ (a0 = none → n = 0 ∧ c = 0) ∧ ∃ TL : List UInt8, TL.length = n ∧ BytesAt W a0 n TL := by
  rcases open_ints Ybad.underlying24 Ybad.underlying5 cells5 h with ⟨hcs, hx⟩ | ⟨a, len', cap', zs, hcs, _, hl, hm, hz, hx, hcell, hwz⟩
  · simp at hcs
    obtain ⟨rfl, rfl, rfl⟩ := hcs
    exact ⟨by unfold maxLen; omega, fun _ => ⟨rfl, rfl⟩, [], rfl, fun j hj => by omega⟩
  · simp at hcs
    obtain ⟨rfl, rfl, rfl⟩ := hcs
    simp only [if_true] at hz
    have hbd : ∀ x ∈ zs, 0 ≤ x ∧ x ≤ 255 := fun x hx => by have := bounds_u8 (hwz x hx); omega
    refine ⟨by omega, (fun h => by cases h), (zs.take n).map fun z => UInt8.ofNat z.toNat, by simp; omega, fun j hj => ?_⟩
    have h0c := hcell 0 (by omega)
    have hjc := hcell j (by omega)
    obtain ⟨b, off, spot⟩ := a
    have hspot : spot = none := by simpa [Addr.add] using World.cell?_spot h0c
    subst hspot
    rw [Addr.add_lit] at hjc
    refine ⟨b, off, rfl, World.block_lt_of_cell? W _ hjc, ?_⟩
    rw [hjc]
    have hjs : j < zs.length := by omega
    have := hbd zs[j] (List.getElem_mem hjs)
    simp [List.getD, hjs, hj]
    omega

set_option maxRecDepth 100000 in
theorem lifted (os : Os) (started : os.Started) (H : Type) (enc : TypeId × Value → H) :
    ReturnsInHanded {} Ybad.checked os 3 .any (fun w args => (Rows.lawS3965CRoundTripSpec.pre enc Ybad.prog Ybad.f3 [] false w args ∧ laidMetH Ybad.prog Rows.lawS3965CRoundTripRow.laid w) ∧ sizedMet enc Ybad.prog Ybad.f3 (OpenSpec.ofChange Rows.lawS3965CRoundTripSpec) false w args)
      (Rows.lawS3965CRoundTripSpec.post enc Ybad.prog Ybad.f3 false true false false) := by
  refine returnsInHanded_of_change_and (C := Ybad.checked) (X := fun w _ => laidMetH Ybad.prog Rows.lawS3965CRoundTripRow.laid w) (fun _ _ _ hh h => h.of_heap hh) own started (by kernel_rfl) Ybad.func3
    (ChangeSpec.witness_shaped (enc := enc) (C := Ybad.checked) (os := os) (X := fun w _ => laidMetH Ybad.prog Rows.lawS3965CRoundTripRow.laid w) false (World.doorLaid Ybad.prog 400 os) #[.slice none 0 0, .slice none 0 0, .slice none 0 0, .slice none 0 0] 8 rfl (World.shaped_of_RefB (by kernel_rfl) (by kernel_rfl)) (by kernel_rfl) (by kernel_rfl) (by kernel_rfl) (door_met os _)) ?_
  intro W base args ds gs before hval0 hW _ _ hL _
  have hval : ∀ (j : Nat) t v, Ybad.f3.params[j]? = some t → args[j]? = some v → Value.okWide Ybad.prog W .any base t v := hval0
  have hW' := hW
  obtain ⟨p, q, hA0, hV, rfl, hfz, hnd⟩ := hW
  have hA : DataW.TrodAll enc Ybad.prog W 0 (fun _ => true) true Ybad.f3.params.toList args.toList ds p := hA0
  rw [Ybad.params3] at hA hval
  obtain ⟨v0, vs0, d0, ds0, p0, q0, hargs, rfl, rfl, h0, r0⟩ := trodAll_cons hA
  obtain ⟨v1, vs1, d1, ds1, p1, q1, rfl, rfl, rfl, h1, r1⟩ := trodAll_cons r0
  obtain ⟨v2, vs2, d2, ds2, p2, q2, rfl, rfl, rfl, h2, r2⟩ := trodAll_cons r1
  obtain ⟨v3, vs3, d3, ds3, p3, q3, rfl, rfl, rfl, h3, r3⟩ := trodAll_cons r2
  obtain ⟨rfl, rfl, rfl⟩ := trodAll_nil r3
  obtain rfl : args = #[v0, v1, v2, v3] := by cases args; simp_all
  have hV1 := hV
  obtain ⟨gg, tt, csg, fg, dg, pg, rfl, -, -, -, -, -⟩ := trodVars_one hV1
  obtain ⟨a0, n0, c0, rfl⟩ := okWide_slice Ybad.underlying22 (hval 0 22 v0 rfl rfl)
  obtain ⟨a1, n1, c1, rfl⟩ := okWide_slice Ybad.underlying23 (hval 1 23 v1 rfl rfl)
  obtain ⟨a2, n2, c2, rfl⟩ := okWide_slice Ybad.underlying22 (hval 2 22 v2 rfl rfl)
  obtain ⟨a3, n3, c3, rfl⟩ := okWide_slice Ybad.underlying24 (hval 3 24 v3 rfl rfl)
  clear hA0 hval0
  have hlt : ∀ x ∈ p0 ++ (p1 ++ (p2 ++ (p3 ++ []))) ++ q, x.block < W.heap.size := fun x hx => hW'.lt x hx
  obtain ⟨⟨ae, hcell⟩, hpos⟩ := err_of_laid hL
  obtain ⟨m0, -, NS, hNS, hNl⟩ := h0.elim fun fuel hf => strs_read hf
  obtain ⟨m1, IS, hIm, hIS, hIl⟩ := h1.elim fun fuel hf => nums_read hf
  obtain ⟨m2, -, AS, hAS, hAl⟩ := h2.elim fun fuel hf => strs_read hf
  obtain ⟨m3, hTn, TL, hTl, hTL⟩ := h3.elim fun fuel hf => bytes_read hf
  have hfinal : Calls Ybad.prog 3 #[.slice a0 n0 c0, .slice a1 n1 c1, .slice a2 n2 c2, .slice a3 n3 c3] W fun e W' => e = .returned (.bool true) ∧ Below W.heap.size W W' := by
    by_cases hbig : 1024 < n0 ∨ 1024 < n2 ∨ 1024 < n3 ∨ 1024 < n1
    · exact long_walk _ _ _ _ _ _ _ _ _ _ _ _ W hbig m0 m1 m2 m3
    · exact law_walk a0 a1 a2 a3 n0 c0 n1 c1 n2 c2 n3 c3 NS IS AS TL W 58 (.pointer (some ae)) (by omega) (by omega) (by omega) (by omega) hIm hTl hNS hIS hAS hTL hNl hAl hIl hTn hcell hpos (eq_err ae)
  refine hfinal.mono fun e W' ⟨he, hb⟩ => ?_
  subst he
  have k0 : DataW.Trod enc Ybad.prog W' 0 (fun b => decide (b < W.heap.size)) true 22 (.slice a0 n0 c0) d0 p0 := Below.trod laidOut (by kernel_rfl) (of_decide_eq_true (by kernel_rfl)) h0 hb (fun x hx => hlt x (by simp [hx]))
  have k1 : DataW.Trod enc Ybad.prog W' 0 (fun b => decide (b < W.heap.size)) true 23 (.slice a1 n1 c1) d1 p1 := Below.trod laidOut (by kernel_rfl) (of_decide_eq_true (by kernel_rfl)) h1 hb (fun x hx => hlt x (by simp [hx]))
  have k2 : DataW.Trod enc Ybad.prog W' 0 (fun b => decide (b < W.heap.size)) true 22 (.slice a2 n2 c2) d2 p2 := Below.trod laidOut (by kernel_rfl) (of_decide_eq_true (by kernel_rfl)) h2 hb (fun x hx => hlt x (by simp [hx]))
  have k3 : DataW.Trod enc Ybad.prog W' 0 (fun b => decide (b < W.heap.size)) true 24 (.slice a3 n3 c3) d3 p3 := Below.trod laidOut (by kernel_rfl) (of_decide_eq_true (by kernel_rfl)) h3 hb (fun x hx => hlt x (by simp [hx]))
  have kv := Below.trodVars laidOut hb (by kernel_rfl) hV
  exact ⟨_, rfl, _, _, _, [], _, _, hW', trodAll_mk1 (shut_bool Ybad.underlying4 _), (trodAll_cons_mk k0 (trodAll_cons_mk k1 (trodAll_cons_mk k2 (trodAll_cons_mk k3 trodAll_mk0)))), kv, hb.frame _, fun h => by cases h⟩

theorem row_holds : Rows.LawS3965CRoundTripSaid :=
  OpenClaim.holds_of_wide 3 Ybad.f3 rfl rfl rfl rfl rfl rfl rfl ⟨rfl, rfl, rfl, rfl, rfl⟩ rfl rfl rfl rfl rfl (by kernel_rfl) Ybad.func3 (by kernel_rfl)
    (of_decide_eq_true (by kernel_rfl)) (by unfold Func.isWrapper; first | (rw [if_pos (by decide +kernel)]; kernel_rfl) | (rw [if_neg (by decide +kernel)]; exact ⟨rfl, rfl⟩))
    (fun os started H enc _ => lifted os started H enc)
end WireP

theorem lawS3965CRoundTrip_card : Rows.LawS3965CRoundTripCardSaid :=
  Claim7.holds_tied_plain_at .later [] [.sentinel] true (true, "642a6216cab095e653d4a694329f85e964f512ff0ce9c25a7779d44a59c525de") true
    WireP.row_holds (fun _ h => by cases h) (by kernel_rfl) (fun _ h => by cases h) lawS3965CRoundTrip_row_tie rfl ⟨rfl, rfl⟩ (by kernel_rfl) rfl
    (fun f fn hf hfn => by
      obtain rfl : f = 3 := Option.some.inj ((show Ybad.prog.funcNamed Rows.lawS3965CRoundTripRow.func = some 3 by kernel_rfl).symm.trans hf) |>.symm
      obtain rfl : fn = Ybad.f3 := (Option.some.inj (Ybad.func3.symm.trans hfn)).symm
      exact ⟨by kernel_rfl, fun j t ht => by
        rw [Ybad.params3] at ht
        have hm : t ∈ [22, 23, 22, 24] := by simpa using Array.mem_of_getElem? ht
        have hall : ([22, 23, 22, 24].all fun u => !Ybad.prog.wantsStandIn u) = true := by kernel_rfl
        exact (show Ybad.prog.wantsStandIn t = false by simpa using List.all_eq_true.1 hall t hm)⟩)
    (by kernel_rfl)
end Go.Proofs.YbulkcdcaDoor
