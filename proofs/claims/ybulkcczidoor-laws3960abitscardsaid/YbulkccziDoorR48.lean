import Derived.Test.YbulkccziDoorReg
import Derived.Test.YbulkccziDoorExt
namespace Go.Proofs.YbulkccziDoor
open Go.RowKit
structure I48 (a0 : Act) (w0 w1 : World) (val : Nat → Value) (listed : Array Bool) (a : Act) (w : World) : Prop where
  same : Same a0 a 311 20
  slots : Slots listed a 311 20 val
  world : (listed[20]?.getD false = false ∧ w = w0) ∨ (listed[20]?.getD false = true ∧ (∀ j, j < 20 → listed[j]?.getD false = true) ∧ w = w1)
theorem I48.put {a0 : Act} {w0 w1 : World} {val : Nat → Value} {listed : Array Bool} {a : Act} {w : World} (h : I48 a0 w0 w1 val listed a w) (hz : a0.tmps.size = 332) {i : Nat} (hi : i < 20) {d : Nat} (hd : d = 311 + i) {v : Value} (hv : v = val i) : I48 a0 w0 w1 val (listed.setIfInBounds i true) (a.put (some d) v) w := by
  subst hd
  refine ⟨h.same.put hi v, h.slots.put (by have := h.same.2.1; omega) hv, ?_⟩
  rcases h.world with ⟨h1, h2⟩ | ⟨h1, h2, h3⟩
  · exact .inl ⟨by rw [listed_ne (by omega)]; exact h1, h2⟩
  · refine .inr ⟨by rw [listed_ne (by omega)]; exact h1, fun j hj => ?_, h3⟩
    by_cases he : i = j
    · subst he; apply listed_same; have := h2 i hi
      rcases Nat.lt_or_ge i listed.size with hl | hl
      · exact hl
      · simp [Nat.not_lt.2 hl] at this
    · rw [listed_ne he]; exact h2 j hj
theorem I48.last {a0 : Act} {w0 w1 : World} {val : Nat → Value} {listed : Array Bool} {a : Act} {w : World} (h : I48 a0 w0 w1 val listed a w) (hl : listed.size = 21 ∧ ∀ j, j < 20 → listed[j]?.getD false = true) : I48 a0 w0 w1 val (listed.setIfInBounds 20 true) a w1 :=
  ⟨h.same, h.slots.skip (Nat.le_refl _), .inr ⟨listed_same (by omega), fun j hj => by rw [listed_ne (by omega)]; exact hl.2 j hj, rfl⟩⟩
theorem wrap64 {x : Int} (h1 : 0 ≤ x) (h2 : x < 9223372036854775808) : IntKind.i64.wrap x = x := by simp only [IntKind.wrap, IntKind.bits, IntKind.signed]; simp; omega
def val48 (H C T s b y ex : Nat) : Nat → Value
  | 0 => .pointer (some ⟨H, 0, none⟩)
  | 1 => .pointer (some ⟨H, 0, none⟩)
  | 2 => .pointer (some ⟨H, 5, none⟩)
  | 3 => .int .i64 (b : Int)
  | 4 => .pointer (some ⟨C, 0, none⟩)
  | 5 => .pointer (some ⟨T, 0, none⟩)
  | 6 => .int .u8 (s : Int)
  | 7 => .pointer (some ⟨C, 0, none⟩)
  | 8 => .pointer (some ⟨C, 0, none⟩)
  | 9 => .pointer (some ⟨C, s, none⟩)
  | 10 => .int .u8 (y : Int)
  | 11 => .int .i64 (y : Int)
  | 12 => .pointer (some ⟨T, 0, none⟩)
  | 13 => .int .u8 (s : Int)
  | 14 => .int .u64 (ex : Int)
  | 15 => .int .i64 (ex : Int)
  | 16 => .int .i64 ((y : Int) + (ex : Int))
  | 17 => .int .i64 ((b : Int) + ((y : Int) + (ex : Int)))
  | 18 => .pointer (some ⟨H, 0, none⟩)
  | _ => .pointer (some ⟨H, 5, none⟩)
set_option maxRecDepth 8000 in
set_option maxHeartbeats 32000000 in
theorem reg48 (a0 : Act) (wr : World) (H C T s b y ex : Nat) (hs : s ≤ 18) (hy : y ≤ 7) (hex : ex ≤ 7) (hb : b ≤ 50000) (HEX : Hid (ex = exN s))
   (hz : a0.tmps.size = 332) (a00 : a0.tmps[0]? = some (.pointer (some ⟨H, 0, none⟩))) (a04 : a0.tmps[4]? = some (.pointer (some ⟨C, 0, none⟩))) (a019 : a0.tmps[19]? = some (.pointer (some ⟨T, 0, none⟩)))
   (q5r : wr.cell? ⟨H, 5, none⟩ = some (.int .i64 (b : Int))) (q5fr : wr.frozen? ⟨H, 5, none⟩ = false) (t0r : wr.cell? ⟨T, 0, none⟩ = some (.int .u8 (s : Int))) (hcyr : wr.cell? ⟨C, s, none⟩ = some (.int .u8 (y : Int))) (hs8 : (s : Int) < 288) :
   Code.wp Ybad.prog (regOf 48 Ybad.f6) (onlyN fun a' w' => Same a0 a' 311 20 ∧ w' = (wr.drew.setCell ⟨H, 5, none⟩ (.int .i64 ((b : Int) + ((y : Int) + (ex : Int)))))) a0 wr := by
  conv => arg 2; whnf
  have q5 : wr.drew.cell? ⟨H, 5, none⟩ = some (.int .i64 (b : Int)) := q5r
  have q5f : wr.drew.frozen? ⟨H, 5, none⟩ = false := q5fr
  have t0 : wr.drew.cell? ⟨T, 0, none⟩ = some (.int .u8 (s : Int)) := t0r
  have hcy : wr.drew.cell? ⟨C, s, none⟩ = some (.int .u8 (y : Int)) := hcyr
  clear q5r q5fr t0r hcyr
  generalize hw0 : wr.drew = w0 at *
  refine wp_region_inv (by kernel_rfl) (I48 a0 w0 (w0.setCell ⟨H, 5, none⟩ (.int .i64 ((b : Int) + ((y : Int) + (ex : Int))))) (val48 H C T s b y ex)) ?_ ?_ ?_
  · intro listed a w h hs hr
    have hall := ready_nil' (by kernel_rfl) hs hr
    rcases h.world with ⟨h1, h2⟩ | ⟨h1, h2, h3⟩
    · have := hall 20 (by show 20 < 21; omega)
      rw [this] at h1
      cases h1
    · exact ⟨h.same, h3⟩
  · intro listed a w i h hs hcl hm
    obtain ⟨hi, hn, hd⟩ := ready_mem hm
    have hi' : i < 21 := hi
    clear hi
    have hcase : i = 0 ∨ i = 1 ∨ i = 2 ∨ i = 3 ∨ i = 4 ∨ i = 5 ∨ i = 6 ∨ i = 7 ∨ i = 8 ∨ i = 9 ∨ i = 10 ∨ i = 11 ∨ i = 12 ∨ i = 13 ∨ i = 14 ∨ i = 15 ∨ i = 16 ∨ i = 17 ∨ i = 18 ∨ i = 19 ∨ i = 20 := by omega
    have hw : w = w0 := by
      rcases h.world with ⟨h1, h2⟩ | ⟨h1, h2, h3⟩
      · exact h2
      · exfalso
        have h4 := listed_not hn
        rcases Nat.lt_or_ge i 20 with hlt | hge
        · rw [h2 i hlt] at h4; cases h4
        · have : i = 20 := by omega
          subst this
          rw [h1] at h4; cases h4
    subst hw
    have b0 : a.tmps[0]? = some (.pointer (some ⟨H, 0, none⟩)) := by rw [h.same.2.2 0 (by omega)]; exact a00
    have b4 : a.tmps[4]? = some (.pointer (some ⟨C, 0, none⟩)) := by rw [h.same.2.2 4 (by omega)]; exact a04
    have b19 : a.tmps[19]? = some (.pointer (some ⟨T, 0, none⟩)) := by rw [h.same.2.2 19 (by omega)]; exact a019
    have HI : Hid (I48 a0 w (w.setCell ⟨H, 5, none⟩ (.int .i64 ((b : Int) + ((y : Int) + (ex : Int))))) (val48 H C T s b y ex) listed a w) := h
    have HS : Hid (Slots listed a 311 20 (val48 H C T s b y ex)) := h.slots
    have HZ : Hid (a0.tmps.size = 332) := hz
    have HS20 : Hid (i = 20 → listed.size = 21 ∧ ∀ j, j < 20 → listed[j]?.getD false = true) := fun e => by
      subst e
      refine ⟨hs, fun j hj => ?_⟩
      have hcase : j = 0 ∨ j = 1 ∨ j = 2 ∨ j = 3 ∨ j = 4 ∨ j = 5 ∨ j = 6 ∨ j = 7 ∨ j = 8 ∨ j = 9 ∨ j = 10 ∨ j = 11 ∨ j = 12 ∨ j = 13 ∨ j = 14 ∨ j = 15 ∨ j = 16 ∨ j = 17 ∨ j = 18 ∨ j = 19 := by omega
      have d := hd _ rfl
      rcases hcase with rfl | rfl | rfl | rfl | rfl | rfl | rfl | rfl | rfl | rfl | rfl | rfl | rfl | rfl | rfl | rfl | rfl | rfl | rfl | rfl
      · exact d ⟨_, .phase⟩ (by simp) rfl
      · exact d ⟨_, .phase⟩ (by simp) rfl
      · exact d ⟨_, .phase⟩ (by simp) rfl
      · exact d ⟨_, .phase⟩ (by simp) rfl
      · exact d ⟨_, .phase⟩ (by simp) rfl
      · exact d ⟨_, .phase⟩ (by simp) rfl
      · exact d ⟨_, .phase⟩ (by simp) rfl
      · exact d ⟨_, .phase⟩ (by simp) rfl
      · exact d ⟨_, .phase⟩ (by simp) rfl
      · exact d ⟨_, .phase⟩ (by simp) rfl
      · exact d ⟨_, .phase⟩ (by simp) rfl
      · exact d ⟨_, .phase⟩ (by simp) rfl
      · exact d ⟨_, .phase⟩ (by simp) rfl
      · exact d ⟨_, .phase⟩ (by simp) rfl
      · exact d ⟨_, .phase⟩ (by simp) rfl
      · exact d ⟨_, .phase⟩ (by simp) rfl
      · exact d ⟨_, .phase⟩ (by simp) rfl
      · exact d ⟨_, .phase⟩ (by simp) rfl
      · exact hcl 19 _ rfl (d ⟨19, .data⟩ (by simp) rfl) ⟨18, .data⟩ (by simp) rfl
      · exact d ⟨_, .data⟩ (by simp) rfl
    clear hcl h a00 a04 a019 hz hm hs
    rcases hcase with rfl | rfl | rfl | rfl | rfl | rfl | rfl | rfl | rfl | rfl | rfl | rfl | rfl | rfl | rfl | rfl | rfl | rfl | rfl | rfl | rfl
    · clear hd
      refine wpOp_step rfl (fun K' hK => ?_)
      go_simp
      exact hK _ _ (HI.out.put HZ.out (i := 0) (by omega) rfl (by first | rfl | (simp only [val48]; congr 1; apply wrap64; omega; omega)))
    · have e0 := HS.out 0 (by omega) (hd _ rfl ⟨0, .data⟩ (by simp) rfl)
      simp only [val48, Nat.reduceAdd] at e0
      clear hd
      refine wpOp_step rfl (fun K' hK => ?_)
      go_simp
      exact hK _ _ (HI.out.put HZ.out (i := 1) (by omega) rfl (by first | rfl | (simp only [val48]; congr 1; apply wrap64; omega; omega)))
    · have e1 := HS.out 1 (by omega) (hd _ rfl ⟨1, .data⟩ (by simp) rfl)
      simp only [val48, Nat.reduceAdd] at e1
      clear hd
      refine wpOp_step rfl (fun K' hK => ?_)
      go_simp
      exact hK _ _ (HI.out.put HZ.out (i := 2) (by omega) rfl (by first | rfl | (simp only [val48]; congr 1; apply wrap64; omega; omega)))
    · have e2 := HS.out 2 (by omega) (hd _ rfl ⟨2, .data⟩ (by simp) rfl)
      simp only [val48, Nat.reduceAdd] at e2
      clear hd
      refine wpOp_step rfl (fun K' hK => ?_)
      go_simp
      exact hK _ _ (HI.out.put HZ.out (i := 3) (by omega) rfl (by first | rfl | (simp only [val48]; congr 1; apply wrap64; omega; omega)))
    · clear hd
      refine wpOp_step rfl (fun K' hK => ?_)
      go_simp
      exact hK _ _ (HI.out.put HZ.out (i := 4) (by omega) rfl (by first | rfl | (simp only [val48]; congr 1; apply wrap64; omega; omega)))
    · clear hd
      refine wpOp_step rfl (fun K' hK => ?_)
      go_simp
      exact hK _ _ (HI.out.put HZ.out (i := 5) (by omega) rfl (by first | rfl | (simp only [val48]; congr 1; apply wrap64; omega; omega)))
    · have e5 := HS.out 5 (by omega) (hd _ rfl ⟨5, .data⟩ (by simp) rfl)
      simp only [val48, Nat.reduceAdd] at e5
      clear hd
      refine wpOp_step rfl (fun K' hK => ?_)
      go_simp
      exact hK _ _ (HI.out.put HZ.out (i := 6) (by omega) rfl (by first | rfl | (simp only [val48]; congr 1; apply wrap64; omega; omega)))
    · have e4 := HS.out 4 (by omega) (hd _ rfl ⟨4, .data⟩ (by simp) rfl)
      simp only [val48, Nat.reduceAdd] at e4
      clear hd
      refine wpOp_step rfl (fun K' hK => ?_)
      go_simp
      exact hK _ _ (HI.out.put HZ.out (i := 7) (by omega) rfl (by first | rfl | (simp only [val48]; congr 1; apply wrap64; omega; omega)))
    · have e7 := HS.out 7 (by omega) (hd _ rfl ⟨7, .data⟩ (by simp) rfl)
      simp only [val48, Nat.reduceAdd] at e7
      clear hd
      refine wpOp_step rfl (fun K' hK => ?_)
      go_simp
      exact hK _ _ (HI.out.put HZ.out (i := 8) (by omega) rfl (by first | rfl | (simp only [val48]; congr 1; apply wrap64; omega; omega)))
    · have e8 := HS.out 8 (by omega) (hd _ rfl ⟨8, .data⟩ (by simp) rfl)
      simp only [val48, Nat.reduceAdd] at e8
      have e6 := HS.out 6 (by omega) (hd _ rfl ⟨6, .data⟩ (by simp) rfl)
      simp only [val48, Nat.reduceAdd] at e6
      clear hd
      refine wpOp_step rfl (fun K' hK => ?_)
      go_simp
      exact hK _ _ (HI.out.put HZ.out (i := 9) (by omega) rfl (by first | rfl | (simp only [val48]; congr 1; apply wrap64; omega; omega)))
    · have e9 := HS.out 9 (by omega) (hd _ rfl ⟨9, .data⟩ (by simp) rfl)
      simp only [val48, Nat.reduceAdd] at e9
      clear hd
      refine wpOp_step rfl (fun K' hK => ?_)
      go_simp
      exact hK _ _ (HI.out.put HZ.out (i := 10) (by omega) rfl (by first | rfl | (simp only [val48]; congr 1; apply wrap64; omega; omega)))
    · have e10 := HS.out 10 (by omega) (hd _ rfl ⟨10, .data⟩ (by simp) rfl)
      simp only [val48, Nat.reduceAdd] at e10
      clear hd
      refine wpOp_step rfl (fun K' hK => ?_)
      go_simp
      exact hK _ _ (HI.out.put HZ.out (i := 11) (by omega) rfl (by first | rfl | (simp only [val48]; congr 1; apply wrap64; omega; omega)))
    · clear hd
      refine wpOp_step rfl (fun K' hK => ?_)
      go_simp
      exact hK _ _ (HI.out.put HZ.out (i := 12) (by omega) rfl (by first | rfl | (simp only [val48]; congr 1; apply wrap64; omega; omega)))
    · have e12 := HS.out 12 (by omega) (hd _ rfl ⟨12, .data⟩ (by simp) rfl)
      simp only [val48, Nat.reduceAdd] at e12
      clear hd
      refine wpOp_step rfl (fun K' hK => ?_)
      go_simp
      exact hK _ _ (HI.out.put HZ.out (i := 13) (by omega) rfl (by first | rfl | (simp only [val48]; congr 1; apply wrap64; omega; omega)))
    · have e13 := HS.out 13 (by omega) (hd _ rfl ⟨13, .data⟩ (by simp) rfl)
      simp only [val48, Nat.reduceAdd] at e13
      clear hd
      refine wpOp_step rfl (fun K' hK => ?_)
      go_simp
      refine (ext_any s (by omega) _).mono ?_
      rintro e w6 ⟨rfl, rfl⟩
      rw [← HEX.out]
      try dsimp only
      exact hK _ _ (HI.out.put HZ.out (i := 14) (by omega) rfl (by first | rfl | (simp only [val48]; congr 1; apply wrap64; omega; omega)))
    · have e14 := HS.out 14 (by omega) (hd _ rfl ⟨14, .data⟩ (by simp) rfl)
      simp only [val48, Nat.reduceAdd] at e14
      clear hd
      refine wpOp_step rfl (fun K' hK => ?_)
      go_simp
      exact hK _ _ (HI.out.put HZ.out (i := 15) (by omega) rfl (by first | rfl | (simp only [val48]; congr 1; apply wrap64; omega; omega)))
    · have e11 := HS.out 11 (by omega) (hd _ rfl ⟨11, .data⟩ (by simp) rfl)
      simp only [val48, Nat.reduceAdd] at e11
      have e15 := HS.out 15 (by omega) (hd _ rfl ⟨15, .data⟩ (by simp) rfl)
      simp only [val48, Nat.reduceAdd] at e15
      clear hd
      refine wpOp_step rfl (fun K' hK => ?_)
      go_simp
      exact hK _ _ (HI.out.put HZ.out (i := 16) (by omega) rfl (by first | rfl | (simp only [val48]; congr 1; apply wrap64; omega; omega)))
    · have e3 := HS.out 3 (by omega) (hd _ rfl ⟨3, .data⟩ (by simp) rfl)
      simp only [val48, Nat.reduceAdd] at e3
      have e16 := HS.out 16 (by omega) (hd _ rfl ⟨16, .data⟩ (by simp) rfl)
      simp only [val48, Nat.reduceAdd] at e16
      clear hd
      refine wpOp_step rfl (fun K' hK => ?_)
      go_simp
      exact hK _ _ (HI.out.put HZ.out (i := 17) (by omega) rfl (by first | rfl | (simp only [val48]; congr 1; apply wrap64; omega; omega)))
    · have e0 := HS.out 0 (by omega) (hd _ rfl ⟨0, .data⟩ (by simp) rfl)
      simp only [val48, Nat.reduceAdd] at e0
      clear hd
      refine wpOp_step rfl (fun K' hK => ?_)
      go_simp
      exact hK _ _ (HI.out.put HZ.out (i := 18) (by omega) rfl (by first | rfl | (simp only [val48]; congr 1; apply wrap64; omega; omega)))
    · have e18 := HS.out 18 (by omega) (hd _ rfl ⟨18, .data⟩ (by simp) rfl)
      simp only [val48, Nat.reduceAdd] at e18
      clear hd
      refine wpOp_step rfl (fun K' hK => ?_)
      go_simp
      exact hK _ _ (HI.out.put HZ.out (i := 19) (by omega) rfl (by first | rfl | (simp only [val48]; congr 1; apply wrap64; omega; omega)))
    · have e19 := HS.out 19 (by omega) (hd _ rfl ⟨19, .data⟩ (by simp) rfl)
      simp only [val48, Nat.reduceAdd] at e19
      have e17 := HS.out 17 (by omega) (hd _ rfl ⟨17, .data⟩ (by simp) rfl)
      simp only [val48, Nat.reduceAdd] at e17
      clear hd
      refine wpOp_step rfl (fun K' hK => ?_)
      go_simp
      exact hK _ _ (HI.out.last (HS20.out rfl))
  · exact ⟨Same.refl _ _ _, fun j hj hl => by (exfalso; revert hl; simp [Array.getElem?_replicate]; split <;> simp), .inl ⟨by simp, hw0⟩⟩
end Go.Proofs.YbulkccziDoor
