import Derived.Test.YbulkccziDoorLw0
namespace Go.Proofs.YbulkccziDoor
open Go.RowKit
/-! LawS3960ATokens, from the tokens on. -/
theorem bool_eval {a : Act} {t : Nat} {b : Bool} (h : a.tmps[t]? = some (.bool b)) : a.eval (.tmp t) = .bool b := by simp [Act.eval, h]
theorem own_baseLe {w : World} {base base' : Nat} {e : TypeId} {z : Nat} {v : Value} {n : Nat} {xs : List Value} (h : w.ownsRow base e z v n xs) (hb : base' ≤ base) : w.ownsRow base' e z v n xs := by
  refine ⟨h.1, ?_⟩
  rcases h.2 with hn | ⟨g, cap, cur, rfl, hbg, hgg, rest⟩
  · exact .inl hn
  · exact .inr ⟨g, cap, cur, rfl, by omega, hgg, rest⟩
theorem wp_seq_if_onlyN {P : Program} {r x c2 : Code} {t : Nat} {Q : Exit → Act → World → Prop} {a : Act} {w : World} {K : Act → World → Prop} (h1 : r.wp P (onlyN K) a w) (hk : ∀ a' w', K a' w' → a'.tmps[t]? = some (.bool false)) (h2 : ∀ a' w', K a' w' → c2.wp P Q a' w') : (Code.seq (Code.seq r (Code.cond (.tmp t) x .skip)) c2).wp P Q a w :=
  wp_seq_onlyN (wp_seq_onlyN h1 fun a' w' h => wp_cond (bool_eval (hk a' w' h)) (wp_skip h)) h2
def val24 (H : Nat) (vt vw v9 : Value) : Nat → Value
  | 0 => .pointer (some ⟨H, 0, none⟩)
  | 1 => .pointer (some ⟨H, 0, none⟩)
  | 2 => .pointer (some ⟨H, 4, none⟩)
  | 3 => vt
  | 4 => vw
  | 5 => v9
  | 6 => .bool true
  | _ => .bool false
structure I24 (a0 : Act) (w0 : World) (T : List Tk) (val : Value → Nat → Value) (v9 : Value) (listed : Array Bool) (a : Act) (wr : World) : Prop where
  same : Same a0 a 120 8
  slots : Slots listed a 120 8 (val v9)
  bel : Below w0.heap.size w0 wr
  tok : listed[5]?.getD false = true → wr.ownsRow w0.heap.size 45 2 v9 T.length (tC T)
section
variable {a0 : Act} {w0 : World} {T : List Tk} {val : Value → Nat → Value} {v9 : Value} {listed : Array Bool} {a : Act} {wr : World}
theorem I24.put (h : I24 a0 w0 T val v9 listed a wr) (hz : a0.tmps.size = 142) {i : Nat} (hi : i < 8) (h5 : i ≠ 5) {d : Nat} (hd : d = 120 + i) {v : Value} (hv : v = val v9 i) : I24 a0 w0 T val v9 (listed.setIfInBounds i true) (a.put (some d) v) wr := by
  subst hd
  refine ⟨h.same.put hi v, h.slots.put (by have := h.same.2.1; omega) hv, h.bel, ?_⟩
  rw [listed_ne h5]; exact h.tok
theorem I24.drew (h : I24 a0 w0 T val v9 listed a wr) (q : Nat) : I24 a0 w0 T val v9 listed a (wr.drewN q) := ⟨h.same, h.slots, ⟨h.bel.os, h.bel.tape, h.bel.output, h.bel.size, h.bel.block⟩, h.tok⟩
theorem Slots.change' {val' : Nat → Value} {val : Nat → Value} {lo n : Nat} (h : Slots listed a lo n val) (he : ∀ j, listed[j]?.getD false = true → val j = val' j) : Slots listed a lo n val' := fun j hj hl => by rw [h j hj hl, he j hl]
theorem I24.app (h : I24 a0 w0 T val v9 listed a wr) (hz : a0.tmps.size = 142) (h5 : listed[5]?.getD false = false) {v : Value} {w1 : World} (hval : ∀ j, j ≠ 5 → val v9 j = val v j) (hv : val v 5 = v) (ho : w1.ownsRow wr.heap.size 45 2 v T.length (tC T)) (hb : Below wr.heap.size wr w1) : I24 a0 w0 T val v (listed.setIfInBounds 5 true) (a.put (some 125) v) w1 := by
  have hsl : Slots listed a 120 8 (val v) := h.slots.change' fun j hl => hval j (by rintro rfl; rw [h5] at hl; cases hl)
  exact ⟨h.same.put (i := 5) (by omega) v, hsl.put (i := 5) (by have := h.same.2.1; omega) hv.symm, h.bel.trans (hb.mono h.bel.size), fun _ => own_baseLe ho h.bel.size⟩
end
set_option maxRecDepth 8000 in
set_option maxHeartbeats 8000000 in
theorem reg24 (a0 : Act) (w wr : World) (H C nl nd mm bb g1 g2 lc tc wc : Nat) (la ta wa : Option Addr) (ca : Array Value) (lit dist L : List Nat) (hx : LX w H C (hcA nl nd mm bb (.slice la L.length lc) (.slice ta (tk L).length tc)) ca lit dist L g1 g2 la ta wr) (hw : Rd wr wa L) (hL : L.length ≤ 3000) (hT : (tk L).length ≤ 3000) (h16 : ∀ x ∈ L, x < 16)
    (hz : a0.tmps.size = 142) (a09 : a0.tmps[9]? = some (.pointer (some ⟨H, 0, none⟩))) (a16 : a0.tmps[16]? = some (.slice wa L.length wc)) :
    Code.wp Ybad.prog (regOf 24 Ybad.f3) (onlyN fun a' w' => Same a0 a' 120 8 ∧ a'.tmps[127]? = some (.bool false) ∧ Below wr.heap.size wr w') a0 wr := by
  conv => arg 2; whnf
  obtain ⟨vt, hvt⟩ : ∃ vt, vt = Value.slice ta (tk L).length tc := ⟨_, rfl⟩
  obtain ⟨vw, hvw⟩ : ∃ vw, vw = Value.slice wa L.length wc := ⟨_, rfl⟩
  refine wp_region_inv (by kernel_rfl) (fun listed a wx => ∃ v9, I24 a0 wr (tk L) (val24 H (.slice ta (tk L).length tc) (.slice wa L.length wc)) v9 listed a wx) ?_ ?_ ?_
  · rintro listed a wx ⟨v9, h⟩ hs hr
    have hall := ready_nil' (by kernel_rfl) hs hr
    have := h.slots 7 (by omega) (hall 7 (by show 7 < 8; omega))
    exact ⟨h.same, this, h.bel⟩
  · rintro listed a wx i ⟨v9, h⟩ hs hcl hm
    obtain ⟨hi, hn, hd⟩ := ready_mem hm
    have hi' : i < 8 := hi
    have hn' := listed_not hn
    clear hi
    have hcase : i = 0 ∨ i = 1 ∨ i = 2 ∨ i = 3 ∨ i = 4 ∨ i = 5 ∨ i = 6 ∨ i = 7 := by omega
    have b9 : a.tmps[9]? = some (.pointer (some ⟨H, 0, none⟩)) := by rw [h.same.2.2 9 (by omega)]; exact a09
    have b16 : a.tmps[16]? = some (.slice wa L.length wc) := by rw [h.same.2.2 16 (by omega)]; exact a16
    have HI : Hid (I24 a0 wr (tk L) (val24 H (.slice ta (tk L).length tc) (.slice wa L.length wc)) v9 listed a wx) := h
    have HS : Hid (Slots listed a 120 8 (val24 H (.slice ta (tk L).length tc) (.slice wa L.length wc) v9)) := h.slots
    have HZ : Hid (a0.tmps.size = 142) := hz
    have HNI : Hid (listed[i]?.getD false = false) := hn'
    have hxx := hx.next h.bel
    have HX : Hid (LX w H C (hcA nl nd mm bb (.slice la L.length lc) (.slice ta (tk L).length tc)) ca lit dist L g1 g2 la ta wx) := hxx
    have HW : Hid (Rd wx wa L) := hw.below h.bel
    have H16 : Hid (∀ x ∈ L, x < 16) := h16
    have q4 := cellAt hxx.hh 4 (.slice ta (tk L).length tc) rfl
    clear h hx hw a09 a16 hz hm hs hcl hn hn' hxx hvt hvw h16
    rcases hcase with rfl | rfl | rfl | rfl | rfl | rfl | rfl | rfl
    · clear hd
      refine wpOp_step rfl (fun K' hK => ?_)
      go_simp
      exact hK _ _ ⟨_, HI.out.put HZ.out (i := 0) (by omega) (by omega) rfl rfl⟩
    · have l0 := hd _ rfl ⟨0, .data⟩ (by simp) rfl
      have e0 := HS.out 0 (by omega) l0
      simp only [val24, Nat.reduceAdd] at e0
      clear hd
      refine wpOp_step rfl (fun K' hK => ?_)
      go_simp
      exact hK _ _ ⟨_, HI.out.put HZ.out (i := 1) (by omega) (by omega) rfl rfl⟩
    · have l1 := hd _ rfl ⟨1, .data⟩ (by simp) rfl
      have e1 := HS.out 1 (by omega) l1
      simp only [val24, Nat.reduceAdd] at e1
      clear hd
      refine wpOp_step rfl (fun K' hK => ?_)
      go_simp
      exact hK _ _ ⟨_, HI.out.put HZ.out (i := 2) (by omega) (by omega) rfl rfl⟩
    · have l2 := hd _ rfl ⟨2, .data⟩ (by simp) rfl
      have e2 := HS.out 2 (by omega) l2
      simp only [val24, Nat.reduceAdd] at e2
      clear hd
      refine wpOp_step rfl (fun K' hK => ?_)
      go_simp
      exact hK _ _ ⟨_, HI.out.put HZ.out (i := 3) (by omega) (by omega) rfl rfl⟩
    · clear hd
      refine wpOp_step rfl (fun K' hK => ?_)
      go_simp
      exact hK _ _ ⟨_, HI.out.put HZ.out (i := 4) (by omega) (by omega) rfl rfl⟩
    · have l4 := hd _ rfl ⟨4, .data⟩ (by simp) rfl
      have e4 := HS.out 4 (by omega) l4
      simp only [val24, Nat.reduceAdd] at e4
      clear hd
      have HC : Hid (Calls Ybad.prog 9 _ _ _) := at_any wa wc L wx HW.out hL H16.out
      refine wpOp_step rfl (fun K' hK => ?_)
      go_simp
      refine HC.out.mono ?_
      rintro e w6 ⟨v, rfl, ho, hb⟩
      try dsimp only
      exact hK _ _ ⟨v, HI.out.app HZ.out HNI.out (fun j hj => by unfold val24; split <;> first | rfl | omega) rfl ho hb⟩
    · have l3 := hd _ rfl ⟨3, .data⟩ (by simp) rfl
      have e3 := HS.out 3 (by omega) l3
      simp only [val24, Nat.reduceAdd] at e3
      have l5 := hd _ rfl ⟨5, .data⟩ (by simp) rfl
      have e5 := HS.out 5 (by omega) l5
      simp only [val24, Nat.reduceAdd] at e5
      clear hd
      obtain ⟨a9, c9, hv9, hr9, _, _⟩ := own_rdT (HI.out.tok l5)
      subst hv9
      have HC : Hid (Calls Ybad.prog 8 _ _ _) := eqT_any ta a9 tc c9 (tk L) wx HX.out.tt hr9 (by omega)
      clear hr9
      refine wpOp_step rfl (fun K' hK => ?_)
      go_simp
      refine HC.out.mono ?_
      rintro e w6 ⟨q, rfl, rfl⟩
      try dsimp only
      exact hK _ _ ⟨_, (HI.out.put HZ.out (i := 6) (by omega) (by omega) rfl rfl).drew q⟩
    · have l6 := hd _ rfl ⟨6, .data⟩ (by simp) rfl
      have e6 := HS.out 6 (by omega) l6
      simp only [val24, Nat.reduceAdd] at e6
      clear hd
      refine wpOp_step rfl (fun K' hK => ?_)
      go_simp
      exact hK _ _ ⟨_, HI.out.put HZ.out (i := 7) (by omega) (by omega) rfl rfl⟩
  · exact ⟨undef, Same.refl _ _ _, fun j hj hl => by (exfalso; revert hl; simp [Array.getElem?_replicate]; split <;> simp), ⟨rfl, rfl, rfl, Nat.le_refl _, fun _ _ => rfl⟩, fun hl => by (exfalso; revert hl; simp)⟩
set_option maxRecDepth 8000 in
set_option maxHeartbeats 8000000 in
theorem t3_fin (w wr : World) (H C nl nd mm bb g1 g2 lc tc wc : Nat) (la ta wa : Option Addr) (ca : Array Value) (lit dist L : List Nat) (u0 u1 u2 u3 u4 u5 u6 u7 u8 u10 u11 u12 u13 u14 u15 u17 u18 u19 u20 u21 u22 u23 u24 u25 u26 u27 u28 u29 u30 u31 u32 u33 u34 u35 u36 u37 u38 u39 u40 u41 u42 u43 u44 u45 u46 u47 u48 u49 u50 u51 u52 u53 u54 u55 u56 u57 u58 u59 u60 u61 u62 u63 u64 u65 u66 u67 u68 u69 u70 u71 u72 u73 u74 u75 u76 u77 u78 u79 u80 u81 u82 u83 u84 u85 u86 u87 u88 u89 u90 u91 u92 u93 u94 u95 u96 u97 u98 u99 u100 u101 u102 u103 u104 u105 u106 u107 u108 u109 u110 u111 u112 u113 u114 u115 u116 u117 u118 u119 u120 u121 u122 u123 u124 u125 u126 u127 u128 u129 u130 u131 u132 u133 u134 u135 u136 u137 u138 u139 u140 u141 : Value) (hx : LX w H C (hcA nl nd mm bb (.slice la L.length lc) (.slice ta (tk L).length tc)) ca lit dist L g1 g2 la ta wr) (hw : Rd wr wa L) (hL : L.length ≤ 3000) (hT : (tk L).length ≤ 3000) (hd : dec (tk L) [] = some L) :
    Code.wp Ybad.prog (nthC 19 (bodyOf Ybad.f3)) (bodyPost Ybad.prog Ybad.f3 (fun e w9 => e = .returned (.bool true) ∧ Below w.heap.size w w9)) ⟨#[u0, u1, u2, u3, u4, u5, u6, u7, u8, .pointer (some ⟨H, 0, none⟩), u10, u11, u12, u13, u14, u15, .slice wa L.length wc, u17, u18, u19, u20, u21, u22, u23, u24, u25, u26, u27, u28, u29, u30, u31, u32, u33, u34, u35, u36, u37, u38, u39, u40, u41, u42, u43, u44, u45, u46, u47, u48, u49, u50, u51, u52, u53, u54, u55, u56, u57, u58, u59, u60, u61, u62, u63, u64, u65, u66, u67, u68, u69, u70, u71, u72, u73, u74, u75, u76, u77, u78, u79, u80, u81, u82, u83, u84, u85, u86, u87, u88, u89, u90, u91, u92, u93, u94, u95, u96, u97, u98, u99, u100, u101, u102, u103, u104, u105, u106, u107, u108, u109, u110, u111, u112, u113, u114, u115, u116, u117, u118, u119, u120, u121, u122, u123, u124, u125, u126, u127, u128, u129, u130, u131, u132, u133, u134, u135, u136, u137, u138, u139, u140, u141], []⟩ wr := by
  have HX : Hid (LX w H C (hcA nl nd mm bb (.slice la L.length lc) (.slice ta (tk L).length tc)) ca lit dist L g1 g2 la ta wr) := hx
  have HW : Hid (Rd wr wa L) := hw
  have q4 := cellAt hx.hh 4 (.slice ta (tk L).length tc) rfl
  have HD : Hid (Calls Ybad.prog 10 _ _ _) := de_any ta tc (tk L) L wr hx.tt hT hL hd
  clear hx hw hd
  generalize htk : (tk L).length = nt at *
  clear htk
  conv => arg 2; whnf
  go_wp2_with fail
  refine HD.out.mono ?_
  rintro e w5 ⟨v, rfl, ho, hb⟩
  dsimp only
  obtain ⟨a5, c5, rfl, hr5, _, _⟩ := own_rd ho
  have HE : Hid (Calls Ybad.prog 7 _ _ _) := eq8_any a5 wa c5 wc L w5 hr5 (HW.out.below hb) (by omega)
  have HB : Hid (Below w.heap.size w w5) := (HX.out.next hb).bel
  clear ho hb hr5 HD q4
  go_wp2_with fail
  refine HE.out.mono ?_
  rintro e w6 ⟨q, rfl, rfl⟩
  dsimp only
  have HB6 : Hid (Below w.heap.size w (w5.drewN q)) := ⟨HB.out.os, HB.out.tape, HB.out.output, HB.out.size, HB.out.block⟩
  generalize w5.drewN q = w6 at *
  go_wp2_with fail
  go_ret
  exact ⟨rfl, HB6.out⟩
set_option maxRecDepth 8000 in
set_option maxHeartbeats 8000000 in
theorem t3_tok (w wr : World) (H C nl nd mm bb g1 g2 lc tc wc : Nat) (la ta wa : Option Addr) (ca : Array Value) (lit dist L : List Nat) (u0 u1 u2 u3 u4 u5 u6 u7 u8 u10 u11 u12 u13 u14 u15 u17 u18 u19 u20 u21 u22 u23 u24 u25 u26 u27 u28 u29 u30 u31 u32 u33 u34 u35 u36 u37 u38 u39 u40 u41 u42 u43 u44 u45 u46 u47 u48 u49 u50 u51 u52 u53 u54 u55 u56 u57 u58 u59 u60 u61 u62 u63 u64 u65 u66 u67 u68 u69 u70 u71 u72 u73 u74 u75 u76 u77 u78 u79 u80 u81 u82 u83 u84 u85 u86 u87 u88 u89 u90 u91 u92 u93 u94 u95 u96 u97 u98 u99 u100 u101 u102 u103 u104 u105 u106 u107 u108 u109 u110 u111 u112 u113 u114 u115 u116 u117 u118 u119 u120 u121 u122 u123 u124 u125 u126 u127 u128 u129 u130 u131 u132 u133 u134 u135 u136 u137 u138 u139 u140 u141 : Value) (hx : LX w H C (hcA nl nd mm bb (.slice la L.length lc) (.slice ta (tk L).length tc)) ca lit dist L g1 g2 la ta wr) (hw : Rd wr wa L) (hL : L.length ≤ 3000) (hT : (tk L).length ≤ 3000) (h16 : ∀ x ∈ L, x < 16) (hd : dec (tk L) [] = some L) :
    Code.wp Ybad.prog (nthC 18 (bodyOf Ybad.f3)) (bodyPost Ybad.prog Ybad.f3 (fun e w9 => e = .returned (.bool true) ∧ Below w.heap.size w w9)) ⟨#[u0, u1, u2, u3, u4, u5, u6, u7, u8, .pointer (some ⟨H, 0, none⟩), u10, u11, u12, u13, u14, u15, .slice wa L.length wc, u17, u18, u19, u20, u21, u22, u23, u24, u25, u26, u27, u28, u29, u30, u31, u32, u33, u34, u35, u36, u37, u38, u39, u40, u41, u42, u43, u44, u45, u46, u47, u48, u49, u50, u51, u52, u53, u54, u55, u56, u57, u58, u59, u60, u61, u62, u63, u64, u65, u66, u67, u68, u69, u70, u71, u72, u73, u74, u75, u76, u77, u78, u79, u80, u81, u82, u83, u84, u85, u86, u87, u88, u89, u90, u91, u92, u93, u94, u95, u96, u97, u98, u99, u100, u101, u102, u103, u104, u105, u106, u107, u108, u109, u110, u111, u112, u113, u114, u115, u116, u117, u118, u119, u120, u121, u122, u123, u124, u125, u126, u127, u128, u129, u130, u131, u132, u133, u134, u135, u136, u137, u138, u139, u140, u141], []⟩ wr := by
  conv => arg 2; whnf
  refine wp_seq_if_onlyN (reg24 _ w wr H C nl nd mm bb g1 g2 lc tc wc la ta wa ca lit dist L hx hw hL hT h16 rfl rfl rfl) (fun a' w' h => h.2.1) ?_
  rintro a' w' ⟨hs, _, hb⟩
  have e1 := hs.split (by show 120 + 8 ≤ 142; omega)
  rw [e1]
  exact t3_fin w w' H C nl nd mm bb g1 g2 lc tc wc la ta wa ca lit dist L _ _ _ _ _ _ _ _ _ _ _ _ _ _ _ _ _ _ _ _ _ _ _ _ _ _ _ _ _ _ _ _ _ _ _ _ _ _ _ _ _ _ _ _ _ _ _ _ _ _ _ _ _ _ _ _ _ _ _ _ _ _ _ _ _ _ _ _ _ _ _ _ _ _ _ _ _ _ _ _ _ _ _ _ _ _ _ _ _ _ _ _ _ _ _ _ _ _ _ _ _ _ _ _ _ _ _ _ _ _ _ _ _ _ _ _ _ _ _ _ _ _ _ _ _ _ _ _ _ _ _ _ _ _ _ _ _ _ _ _ (hx.next hb) (hw.below hb) hL hT hd
end Go.Proofs.YbulkccziDoor
