import Derived.Test.YbulkccziDoorReg
import Derived.Test.YbulkccziDoorMk2
namespace Go.Proofs.YbulkccziDoor
open Go.RowKit
/-! make's region 6: h.lengths = append(append(h.lengths[:0], lit[:h.numLit]...), dist[:h.numDist]...). -/
theorem Slots.change {listed : Array Bool} {a : Act} {lo n : Nat} {val val' : Nat → Value} (h : Slots listed a lo n val) (he : ∀ j, listed[j]?.getD false = true → val j = val' j) : Slots listed a lo n val' := fun j hj hl => by rw [h j hj hl, he j hl]
def val6 (H g1 c1 g2 c2 n1 n2 nl nd : Nat) (v12 v19 : Value) : Nat → Value
  | 0 => .pointer (some ⟨H, 0, none⟩)
  | 1 => .pointer (some ⟨H, 0, none⟩)
  | 2 => .pointer (some ⟨H, 0, none⟩)
  | 3 => .pointer (some ⟨H, 3, none⟩)
  | 4 => .slice none 0 0
  | 5 => .slice none 0 0
  | 6 => .slice (some ⟨g1, 0, none⟩) n1 c1
  | 7 => .pointer (some ⟨H, 0, none⟩)
  | 8 => .pointer (some ⟨H, 0, none⟩)
  | 9 => .pointer (some ⟨H, 0, none⟩)
  | 10 => .int .i64 (nl : Int)
  | 11 => .slice (some ⟨g1, 0, none⟩) nl c1
  | 12 => v12
  | 13 => .slice (some ⟨g2, 0, none⟩) n2 c2
  | 14 => .pointer (some ⟨H, 0, none⟩)
  | 15 => .pointer (some ⟨H, 0, none⟩)
  | 16 => .pointer (some ⟨H, 1, none⟩)
  | 17 => .int .i64 (nd : Int)
  | 18 => .slice (some ⟨g2, 0, none⟩) nd c2
  | 19 => v19
  | 20 => .pointer (some ⟨H, 0, none⟩)
  | _ => .pointer (some ⟨H, 3, none⟩)
theorem val6_12 (H g1 c1 g2 c2 n1 n2 nl nd : Nat) (v12 v12' v19 : Value) (j : Nat) (h : j ≠ 12) : val6 H g1 c1 g2 c2 n1 n2 nl nd v12 v19 j = val6 H g1 c1 g2 c2 n1 n2 nl nd v12' v19 j := by
  unfold val6
  split <;> first | rfl | omega
theorem val6_19 (H g1 c1 g2 c2 n1 n2 nl nd : Nat) (v12 v19 v19' : Value) (j : Nat) (h : j ≠ 19) : val6 H g1 c1 g2 c2 n1 n2 nl nd v12 v19 j = val6 H g1 c1 g2 c2 n1 n2 nl nd v12 v19' j := by
  unfold val6
  split <;> first | rfl | omega
structure I6 (a0 : Act) (w : World) (H LB C nl nd : Nat) (l1 l2 : List Nat) (ca : Array Value) (val : Value → Value → Nat → Value) (v12 v19 : Value) (listed : Array Bool) (a : Act) (wr : World) : Prop where
  same : Same a0 a 76 22
  slots : Slots listed a 76 22 (val v12 v19)
  mm : listed[22]?.getD false = false → MK w H LB C (hcA nl nd 0 0 (.slice none 0 0) (.slice none 0 0)) ca wr
  r12 : listed[12]?.getD false = true → listed[19]?.getD false = false → wr.ownsRow w.heap.size 5 1 v12 (0 + nl) ([] ++ bL (l1.take nl))
  r19 : listed[19]?.getD false = true → listed[22]?.getD false = false → wr.ownsRow w.heap.size 5 1 v19 (nl + nd) (bL (l1.take nl ++ l2.take nd))
  fin : listed[22]?.getD false = true → (∀ j, j < 22 → listed[j]?.getD false = true) ∧ MK w H LB C (hcA nl nd 0 0 v19 (.slice none 0 0)) ca wr ∧ wr.ownsRow w.heap.size 5 1 v19 (nl + nd) (bL (l1.take nl ++ l2.take nd))
section
variable {a0 : Act} {w : World} {H LB C nl nd : Nat} {l1 l2 : List Nat} {ca : Array Value} {val : Value → Value → Nat → Value} {v12 v19 : Value} {listed : Array Bool} {a : Act} {wr : World}
theorem listed_mono {i j : Nat} (hi : i < listed.size) (h : listed[j]?.getD false = true) : (listed.setIfInBounds i true)[j]?.getD false = true := by
  by_cases he : i = j
  · subst he; exact listed_same hi
  · rw [listed_ne he]; exact h
theorem I6.put (h : I6 a0 w H LB C nl nd l1 l2 ca val v12 v19 listed a wr) (hz : a0.tmps.size = 332) (hs : listed.size = 23) {i : Nat} (hi : i < 22) (h12 : i ≠ 12) (h19 : i ≠ 19) {d : Nat} (hd : d = 76 + i) {v : Value} (hv : v = val v12 v19 i) : I6 a0 w H LB C nl nd l1 l2 ca val v12 v19 (listed.setIfInBounds i true) (a.put (some d) v) wr := by
  subst hd
  refine ⟨h.same.put hi v, h.slots.put (by have := h.same.2.1; omega) hv, ?_, ?_, ?_, ?_⟩
  · rw [listed_ne (by omega)]; exact h.mm
  · rw [listed_ne h12, listed_ne h19]; exact h.r12
  · rw [listed_ne h19, listed_ne (by omega)]; exact h.r19
  · rw [listed_ne (by omega)]
    intro hl
    obtain ⟨h1, h2, h3⟩ := h.fin hl
    exact ⟨fun j hj => listed_mono (by omega) (h1 j hj), h2, h3⟩
theorem I6.app1 (h : I6 a0 w H LB C nl nd l1 l2 ca val v12 v19 listed a wr) (hz : a0.tmps.size = 332) (h12 : listed[12]?.getD false = false) (h19 : listed[19]?.getD false = false) (h22 : listed[22]?.getD false = false) {v : Value} {w1 : World}
    (hval : ∀ j, j ≠ 12 → val v12 v19 j = val v v19 j) (hv12 : val v v19 12 = v) (ho : w1.ownsRow w.heap.size 5 1 v (0 + nl) ([] ++ bL (l1.take nl))) (hg : wr.grownBy w1 (Value.slice none 0 0).ownBlock) : I6 a0 w H LB C nl nd l1 l2 ca val v v19 (listed.setIfInBounds 12 true) (a.put (some 88) v) w1 := by
  have hsl : Slots listed a 76 22 (val v v19) := h.slots.change fun j hl => hval j (by rintro rfl; rw [h12] at hl; cases hl)
  refine ⟨h.same.put (i := 12) (by omega) v, hsl.put (i := 12) (by have := h.same.2.1; omega) hv12.symm, fun _ => (h.mm h22).grown hg (by simp [Value.ownBlock]), fun _ _ => ho, ?_, ?_⟩
  · rw [listed_ne (by omega), h19]; intro e; cases e
  · rw [listed_ne (by omega), h22]; intro e; cases e
theorem I6.app2 (h : I6 a0 w H LB C nl nd l1 l2 ca val v12 v19 listed a wr) (hz : a0.tmps.size = 332) (hs : listed.size = 23) (h12 : listed[12]?.getD false = true) (h19 : listed[19]?.getD false = false) (h22 : listed[22]?.getD false = false) {v : Value} {w1 : World}
    (hval : ∀ j, j ≠ 19 → val v12 v19 j = val v12 v j) (hv19 : val v12 v 19 = v) (ho : w1.ownsRow w.heap.size 5 1 v (0 + nl + nd) (([] ++ bL (l1.take nl)) ++ bL (l2.take nd))) (hg : wr.grownBy w1 v12.ownBlock) : I6 a0 w H LB C nl nd l1 l2 ca val v12 v (listed.setIfInBounds 19 true) (a.put (some 95) v) w1 := by
  have hsl : Slots listed a 76 22 (val v12 v) := h.slots.change fun j hl => hval j (by rintro rfl; rw [h19] at hl; cases hl)
  refine ⟨h.same.put (i := 19) (by omega) v, hsl.put (i := 19) (by have := h.same.2.1; omega) hv19.symm, fun _ => (h.mm h22).grown hg (fun k hk => ((h.r12 h12 h19).lt k hk).1), ?_, fun _ _ => by simpa [bL] using ho, ?_⟩
  · rw [listed_same (by omega)]; intro _ e; cases e
  · rw [listed_ne (by omega), h22]; intro e; cases e
theorem I6.last (h : I6 a0 w H LB C nl nd l1 l2 ca val v12 v19 listed a wr) (hs : listed.size = 23) (h19 : listed[19]?.getD false = true) (h22 : listed[22]?.getD false = false) (hall : ∀ j, j < 22 → listed[j]?.getD false = true) : I6 a0 w H LB C nl nd l1 l2 ca val v12 v19 (listed.setIfInBounds 22 true) a (wr.setCell ⟨H, 3, none⟩ v19) := by
  have hm := h.mm h22
  refine ⟨h.same, h.slots.skip (Nat.le_refl _), ?_, ?_, ?_, fun _ => ⟨fun j hj => listed_mono (by omega) (hall j hj), hm.seth 3 v19, ?_⟩⟩
  · rw [listed_same (by omega)]; intro e; cases e
  · rw [listed_ne (by omega), listed_ne (by omega), h19]; intro _ e; cases e
  · rw [listed_same (by omega)]; intro _ e; cases e
  · exact ownsRow_setCell_below (h.r19 h19 h22) (a := ⟨H, 3, none⟩) hm.lt.1 v19
end
set_option maxRecDepth 8000 in
set_option maxHeartbeats 32000000 in
theorem reg6 (a0 : Act) (H LB C g1 c1 g2 c2 n1 n2 nl nd : Nat) (l1 l2 : List Nat) (ca : Array Value) (w wr : World) (h1 : OutRow w H LB C g1 c1 l1) (h2 : OutRow w H LB C g2 c2 l2) (hn1 : n1 = l1.length) (hn2 : n2 = l2.length) (hl1 : n1 ≤ 2000) (hl2 : n2 ≤ 1024) (hgk : nl ≤ n1) (hgk2 : nd ≤ n2)
    (hm : MK w H LB C (hcA nl nd 0 0 (.slice none 0 0) (.slice none 0 0)) ca wr)
    (hz : a0.tmps.size = 332) (a00 : a0.tmps[0]? = some (.pointer (some ⟨H, 0, none⟩))) (a01 : a0.tmps[1]? = some (.slice (some ⟨g1, 0, none⟩) n1 c1)) (a02 : a0.tmps[2]? = some (.slice (some ⟨g2, 0, none⟩) n2 c2)) :
    Code.wp Ybad.prog (regOf 6 Ybad.f6) (onlyN fun a' w' => Same a0 a' 76 22 ∧ ∃ vl, MK w H LB C (hcA nl nd 0 0 vl (.slice none 0 0)) ca w' ∧ w'.ownsRow w.heap.size 5 1 vl (nl + nd) (bL (l1.take nl ++ l2.take nd))) a0 wr := by
  conv => arg 2; whnf
  have hm0 := hm.drewN 1
  have hnlb : nl ≤ c1 := by have := h1.cap; omega
  have hndb : nd ≤ c2 := by have := h2.cap; omega
  have HN3 : Hid (∀ wr, MK w H LB C (hcA nl nd 0 0 (.slice none 0 0) (.slice none 0 0)) ca wr → _) := fun wr hm => h1.news hm nl (by omega)
  have HN4 : Hid (∀ wr, MK w H LB C (hcA nl nd 0 0 (.slice none 0 0) (.slice none 0 0)) ca wr → _) := fun wr hm => h2.news hm nd (by omega)
  obtain ⟨iv, hiv, hz0, hz1, hz2⟩ := info_parts infoU8
  have HV : Hid (_ ∧ _ ∧ _ ∧ _) := ⟨hiv, hz0, hz1, hz2⟩
  clear hiv hz0 hz1 hz2 h1 h2 hm hn1 hn2
  refine wp_region_inv (by kernel_rfl) (fun listed a wx => ∃ v12 v19, I6 a0 w H LB C nl nd l1 l2 ca (val6 H g1 c1 g2 c2 n1 n2 nl nd) v12 v19 listed a wx) ?_ ?_ ?_
  · rintro listed a wx ⟨v12, v19, h⟩ hs hr
    have hall := ready_nil' (by kernel_rfl) hs hr
    obtain ⟨_, h2, h3⟩ := h.fin (hall 22 (by show 22 < 23; omega))
    exact ⟨h.same, v19, h2, h3⟩
  · rintro listed a wx i ⟨v12, v19, h⟩ hs hcl hm
    have hs' : listed.size = 23 := hs
    obtain ⟨hi, hn, hd⟩ := ready_mem hm
    have hi' : i < 23 := hi
    have hn' := listed_not hn
    clear hi
    have hcase : i = 0 ∨ i = 1 ∨ i = 2 ∨ i = 3 ∨ i = 4 ∨ i = 5 ∨ i = 6 ∨ i = 7 ∨ i = 8 ∨ i = 9 ∨ i = 10 ∨ i = 11 ∨ i = 12 ∨ i = 13 ∨ i = 14 ∨ i = 15 ∨ i = 16 ∨ i = 17 ∨ i = 18 ∨ i = 19 ∨ i = 20 ∨ i = 21 ∨ i = 22 := by omega
    have h22 : listed[22]?.getD false = false := by
      cases hl : listed[22]?.getD false with
      | false => rfl
      | true =>
        exfalso
        obtain ⟨h2, _⟩ := h.fin hl
        rcases Nat.lt_or_ge i 22 with hlt | hge
        · rw [h2 i hlt] at hn'; cases hn'
        · have : i = 22 := by omega
          subst this
          rw [hl] at hn'; cases hn'
    have b0 : a.tmps[0]? = some (.pointer (some ⟨H, 0, none⟩)) := by rw [h.same.2.2 0 (by omega)]; exact a00
    have b1 : a.tmps[1]? = some (.slice (some ⟨g1, 0, none⟩) n1 c1) := by rw [h.same.2.2 1 (by omega)]; exact a01
    have b2 : a.tmps[2]? = some (.slice (some ⟨g2, 0, none⟩) n2 c2) := by rw [h.same.2.2 2 (by omega)]; exact a02
    have HI : Hid (I6 a0 w H LB C nl nd l1 l2 ca (val6 H g1 c1 g2 c2 n1 n2 nl nd) v12 v19 listed a wx) := h
    have HS : Hid (Slots listed a 76 22 (val6 H g1 c1 g2 c2 n1 n2 nl nd v12 v19)) := h.slots
    have HZ : Hid (a0.tmps.size = 332 ∧ listed.size = 23) := ⟨hz, hs'⟩
    have HNI : Hid (listed[i]?.getD false = false) := hn'
    have H22 : Hid (listed[22]?.getD false = false) := h22
    have hmx := h.mm h22
    have HM : Hid (MK w H LB C (hcA nl nd 0 0 (.slice none 0 0) (.slice none 0 0)) ca wx) := hmx
    have q0 := cellAt hmx.hh 0 (.int .i64 (nl : Int)) rfl
    have q1 := cellAt hmx.hh 1 (.int .i64 (nd : Int)) rfl
    have q3 := cellAt hmx.hh 3 (.slice none 0 0) rfl
    have q3f := frozenAt hmx.hh 3
    have H19 : Hid (i = 12 → listed[19]?.getD false = false) := fun e => by
      subst e
      cases hl : listed[19]?.getD false with
      | false => rfl
      | true =>
        have := hcl 19 _ rfl hl ⟨12, .data⟩ (by simp) rfl
        rw [this] at hn'; cases hn'
    have HALL : Hid (i = 22 → ∀ j, j < 22 → listed[j]?.getD false = true) := fun e => by
      subst e
      intro j hj
      have hcase : j = 0 ∨ j = 1 ∨ j = 2 ∨ j = 3 ∨ j = 4 ∨ j = 5 ∨ j = 6 ∨ j = 7 ∨ j = 8 ∨ j = 9 ∨ j = 10 ∨ j = 11 ∨ j = 12 ∨ j = 13 ∨ j = 14 ∨ j = 15 ∨ j = 16 ∨ j = 17 ∨ j = 18 ∨ j = 19 ∨ j = 20 ∨ j = 21 := by omega
      have d := hd _ rfl
      rcases hcase with rfl | rfl | rfl | rfl | rfl | rfl | rfl | rfl | rfl | rfl | rfl | rfl | rfl | rfl | rfl | rfl | rfl | rfl | rfl | rfl | rfl | rfl
      · exact d ⟨_, .phase⟩ (by simp) rfl
      · exact d ⟨_, .phase⟩ (by simp) rfl
      · exact d ⟨_, .phase⟩ (by simp) rfl
      · exact d ⟨_, .phase⟩ (by simp) rfl
      · exact d ⟨_, .phase⟩ (by simp) rfl
      · exact d ⟨_, .phase⟩ (by simp) rfl
      · exact d ⟨_, .phase⟩ (by simp) rfl
      · exact d ⟨_, .phase⟩ (by simp) rfl
      · exact d ⟨_, .phase⟩ (by simp) rfl
      · exact d ⟨_, .phase⟩ (by simp) rfl
      · exact d ⟨_, .phase⟩ (by simp) rfl
      · exact d ⟨_, .phase⟩ (by simp) rfl
      · exact d ⟨_, .phase⟩ (by simp) rfl
      · exact d ⟨_, .phase⟩ (by simp) rfl
      · exact d ⟨_, .phase⟩ (by simp) rfl
      · exact d ⟨_, .phase⟩ (by simp) rfl
      · exact d ⟨_, .phase⟩ (by simp) rfl
      · exact d ⟨_, .phase⟩ (by simp) rfl
      · exact d ⟨_, .phase⟩ (by simp) rfl
      · exact d ⟨_, .phase⟩ (by simp) rfl
      · exact hcl 21 _ rfl (d ⟨21, .data⟩ (by simp) rfl) ⟨20, .data⟩ (by simp) rfl
      · exact d ⟨_, .data⟩ (by simp) rfl
    clear hm0 hcl h a00 a01 a02 hz hm hs hs' hn hn' h22 hmx
    rcases hcase with rfl | rfl | rfl | rfl | rfl | rfl | rfl | rfl | rfl | rfl | rfl | rfl | rfl | rfl | rfl | rfl | rfl | rfl | rfl | rfl | rfl | rfl | rfl
    · clear hd
      refine wpOp_step rfl (fun K' hK => ?_)
      go_simp
      exact hK _ _ ⟨v12, v19, HI.out.put HZ.out.1 HZ.out.2 (i := 0) (by omega) (by omega) (by omega) rfl rfl⟩
    · clear hd
      refine wpOp_step rfl (fun K' hK => ?_)
      go_simp
      exact hK _ _ ⟨v12, v19, HI.out.put HZ.out.1 HZ.out.2 (i := 1) (by omega) (by omega) (by omega) rfl rfl⟩
    · have l1 := hd _ rfl ⟨1, .data⟩ (by simp) rfl
      have e1 := HS.out 1 (by omega) l1
      simp only [val6, Nat.reduceAdd] at e1
      clear hd
      refine wpOp_step rfl (fun K' hK => ?_)
      go_simp
      exact hK _ _ ⟨v12, v19, HI.out.put HZ.out.1 HZ.out.2 (i := 2) (by omega) (by omega) (by omega) rfl rfl⟩
    · have l2 := hd _ rfl ⟨2, .data⟩ (by simp) rfl
      have e2 := HS.out 2 (by omega) l2
      simp only [val6, Nat.reduceAdd] at e2
      clear hd
      refine wpOp_step rfl (fun K' hK => ?_)
      go_simp
      exact hK _ _ ⟨v12, v19, HI.out.put HZ.out.1 HZ.out.2 (i := 3) (by omega) (by omega) (by omega) rfl rfl⟩
    · have l3 := hd _ rfl ⟨3, .data⟩ (by simp) rfl
      have e3 := HS.out 3 (by omega) l3
      simp only [val6, Nat.reduceAdd] at e3
      clear hd
      refine wpOp_step rfl (fun K' hK => ?_)
      go_simp
      exact hK _ _ ⟨v12, v19, HI.out.put HZ.out.1 HZ.out.2 (i := 4) (by omega) (by omega) (by omega) rfl rfl⟩
    · have l4 := hd _ rfl ⟨4, .data⟩ (by simp) rfl
      have e4 := HS.out 4 (by omega) l4
      simp only [val6, Nat.reduceAdd] at e4
      clear hd
      refine wpOp_step rfl (fun K' hK => ?_)
      go_simp
      exact hK _ _ ⟨v12, v19, HI.out.put HZ.out.1 HZ.out.2 (i := 5) (by omega) (by omega) (by omega) rfl rfl⟩
    · clear hd
      refine wpOp_step rfl (fun K' hK => ?_)
      go_simp
      exact hK _ _ ⟨v12, v19, HI.out.put HZ.out.1 HZ.out.2 (i := 6) (by omega) (by omega) (by omega) rfl rfl⟩
    · clear hd
      refine wpOp_step rfl (fun K' hK => ?_)
      go_simp
      exact hK _ _ ⟨v12, v19, HI.out.put HZ.out.1 HZ.out.2 (i := 7) (by omega) (by omega) (by omega) rfl rfl⟩
    · have l7 := hd _ rfl ⟨7, .data⟩ (by simp) rfl
      have e7 := HS.out 7 (by omega) l7
      simp only [val6, Nat.reduceAdd] at e7
      clear hd
      refine wpOp_step rfl (fun K' hK => ?_)
      go_simp
      exact hK _ _ ⟨v12, v19, HI.out.put HZ.out.1 HZ.out.2 (i := 8) (by omega) (by omega) (by omega) rfl rfl⟩
    · have l8 := hd _ rfl ⟨8, .data⟩ (by simp) rfl
      have e8 := HS.out 8 (by omega) l8
      simp only [val6, Nat.reduceAdd] at e8
      clear hd
      refine wpOp_step rfl (fun K' hK => ?_)
      go_simp
      exact hK _ _ ⟨v12, v19, HI.out.put HZ.out.1 HZ.out.2 (i := 9) (by omega) (by omega) (by omega) rfl rfl⟩
    · have l9 := hd _ rfl ⟨9, .data⟩ (by simp) rfl
      have e9 := HS.out 9 (by omega) l9
      simp only [val6, Nat.reduceAdd] at e9
      clear hd
      refine wpOp_step rfl (fun K' hK => ?_)
      go_simp
      exact hK _ _ ⟨v12, v19, HI.out.put HZ.out.1 HZ.out.2 (i := 10) (by omega) (by omega) (by omega) rfl rfl⟩
    · have l6 := hd _ rfl ⟨6, .data⟩ (by simp) rfl
      have e6 := HS.out 6 (by omega) l6
      simp only [val6, Nat.reduceAdd] at e6
      have l10 := hd _ rfl ⟨10, .data⟩ (by simp) rfl
      have e10 := HS.out 10 (by omega) l10
      simp only [val6, Nat.reduceAdd] at e10
      clear hd
      refine wpOp_step rfl (fun K' hK => ?_)
      go_simp
      exact hK _ _ ⟨v12, v19, HI.out.put HZ.out.1 HZ.out.2 (i := 11) (by omega) (by omega) (by omega) rfl rfl⟩
    · have l5 := hd _ rfl ⟨5, .data⟩ (by simp) rfl
      have e5 := HS.out 5 (by omega) l5
      simp only [val6, Nat.reduceAdd] at e5
      have l11 := hd _ rfl ⟨11, .data⟩ (by simp) rfl
      have e11 := HS.out 11 (by omega) l11
      simp only [val6, Nat.reduceAdd] at e11
      clear hd
      refine wpOp_step rfl (fun K' hK => ?_)
      obtain ⟨n1, n2, n3⟩ := HN3.out _ HM.out
      refine step_append_own rfl _ _ 22 rfl w.heap.size 5 iv (.int .u8 0) 1 1 Ybad.underlying22 HV.out.1 HV.out.2.1 HV.out.2.2.1 HV.out.2.2.2 rfl (by decide) (.slice none 0 0) 0 [] (by simp [Act.eval, e5]) (World.ownsRow_nil _ _ _ _) ⟨g1, 0, none⟩ nl c1 (bL (l1.take nl)) (by simp [Act.eval, e11]) n1 n2 n3 (by unfold maxLen; omega) (by omega) HM.out.size ?_
      intro v' w' ho hg
      exact hK _ _ ⟨v', v19, HI.out.app1 HZ.out.1 HNI.out (H19.out rfl) H22.out (fun j hj => val6_12 _ _ _ _ _ _ _ _ _ _ _ _ _ hj) rfl ho hg⟩
    · clear hd
      refine wpOp_step rfl (fun K' hK => ?_)
      go_simp
      exact hK _ _ ⟨v12, v19, HI.out.put HZ.out.1 HZ.out.2 (i := 13) (by omega) (by omega) (by omega) rfl rfl⟩
    · clear hd
      refine wpOp_step rfl (fun K' hK => ?_)
      go_simp
      exact hK _ _ ⟨v12, v19, HI.out.put HZ.out.1 HZ.out.2 (i := 14) (by omega) (by omega) (by omega) rfl rfl⟩
    · have l14 := hd _ rfl ⟨14, .data⟩ (by simp) rfl
      have e14 := HS.out 14 (by omega) l14
      simp only [val6, Nat.reduceAdd] at e14
      clear hd
      refine wpOp_step rfl (fun K' hK => ?_)
      go_simp
      exact hK _ _ ⟨v12, v19, HI.out.put HZ.out.1 HZ.out.2 (i := 15) (by omega) (by omega) (by omega) rfl rfl⟩
    · have l15 := hd _ rfl ⟨15, .data⟩ (by simp) rfl
      have e15 := HS.out 15 (by omega) l15
      simp only [val6, Nat.reduceAdd] at e15
      clear hd
      refine wpOp_step rfl (fun K' hK => ?_)
      go_simp
      exact hK _ _ ⟨v12, v19, HI.out.put HZ.out.1 HZ.out.2 (i := 16) (by omega) (by omega) (by omega) rfl rfl⟩
    · have l16 := hd _ rfl ⟨16, .data⟩ (by simp) rfl
      have e16 := HS.out 16 (by omega) l16
      simp only [val6, Nat.reduceAdd] at e16
      clear hd
      refine wpOp_step rfl (fun K' hK => ?_)
      go_simp
      exact hK _ _ ⟨v12, v19, HI.out.put HZ.out.1 HZ.out.2 (i := 17) (by omega) (by omega) (by omega) rfl rfl⟩
    · have l13 := hd _ rfl ⟨13, .data⟩ (by simp) rfl
      have e13 := HS.out 13 (by omega) l13
      simp only [val6, Nat.reduceAdd] at e13
      have l17 := hd _ rfl ⟨17, .data⟩ (by simp) rfl
      have e17 := HS.out 17 (by omega) l17
      simp only [val6, Nat.reduceAdd] at e17
      clear hd
      refine wpOp_step rfl (fun K' hK => ?_)
      go_simp
      exact hK _ _ ⟨v12, v19, HI.out.put HZ.out.1 HZ.out.2 (i := 18) (by omega) (by omega) (by omega) rfl rfl⟩
    · have l12 := hd _ rfl ⟨12, .data⟩ (by simp) rfl
      have e12 := HS.out 12 (by omega) l12
      simp only [val6, Nat.reduceAdd] at e12
      have l18 := hd _ rfl ⟨18, .data⟩ (by simp) rfl
      have e18 := HS.out 18 (by omega) l18
      simp only [val6, Nat.reduceAdd] at e18
      clear hd
      refine wpOp_step rfl (fun K' hK => ?_)
      obtain ⟨n1, n2, n3⟩ := HN4.out _ HM.out
      refine step_append_own rfl _ _ 22 rfl w.heap.size 5 iv (.int .u8 0) 1 1 Ybad.underlying22 HV.out.1 HV.out.2.1 HV.out.2.2.1 HV.out.2.2.2 rfl (by decide) v12 _ _ (by simp [Act.eval, e12]) (HI.out.r12 l12 HNI.out) ⟨g2, 0, none⟩ nd c2 (bL (l2.take nd)) (by simp [Act.eval, e18]) n1 n2 n3 (by unfold maxLen; omega) (by omega) HM.out.size ?_
      intro v' w' ho hg
      exact hK _ _ ⟨v12, v', HI.out.app2 HZ.out.1 HZ.out.2 l12 HNI.out H22.out (fun j hj => val6_19 _ _ _ _ _ _ _ _ _ _ _ _ _ hj) rfl ho hg⟩
    · have l0 := hd _ rfl ⟨0, .data⟩ (by simp) rfl
      have e0 := HS.out 0 (by omega) l0
      simp only [val6, Nat.reduceAdd] at e0
      clear hd
      refine wpOp_step rfl (fun K' hK => ?_)
      go_simp
      exact hK _ _ ⟨v12, v19, HI.out.put HZ.out.1 HZ.out.2 (i := 20) (by omega) (by omega) (by omega) rfl rfl⟩
    · have l20 := hd _ rfl ⟨20, .data⟩ (by simp) rfl
      have e20 := HS.out 20 (by omega) l20
      simp only [val6, Nat.reduceAdd] at e20
      clear hd
      refine wpOp_step rfl (fun K' hK => ?_)
      go_simp
      exact hK _ _ ⟨v12, v19, HI.out.put HZ.out.1 HZ.out.2 (i := 21) (by omega) (by omega) (by omega) rfl rfl⟩
    · have l21 := hd _ rfl ⟨21, .data⟩ (by simp) rfl
      have e21 := HS.out 21 (by omega) l21
      simp only [val6, Nat.reduceAdd] at e21
      have l19 := hd _ rfl ⟨19, .data⟩ (by simp) rfl
      have e19 := HS.out 19 (by omega) l19
      simp only [val6, Nat.reduceAdd] at e19
      obtain ⟨va, vc, hv⟩ := own_slice2 (HI.out.r19 l19 H22.out)
      subst hv
      clear hd
      refine wpOp_step rfl (fun K' hK => ?_)
      go_simp
      exact hK _ _ ⟨v12, _, HI.out.last HZ.out.2 l19 H22.out (HALL.out rfl)⟩
  · refine ⟨undef, undef, Same.refl _ _ _, fun j hj hl => by (exfalso; revert hl; simp [Array.getElem?_replicate]; split <;> simp), fun _ => hm0, ?_, ?_, ?_⟩
    all_goals (intro hl; exfalso; revert hl; simp)
end Go.Proofs.YbulkccziDoor
