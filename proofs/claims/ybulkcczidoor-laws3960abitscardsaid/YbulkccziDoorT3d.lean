import Derived.Test.YbulkccziDoorT3e
namespace Go.Proofs.YbulkccziDoor
open Go.RowKit
/-! LawS3960ATokens: want. -/
theorem Rd.news {wr : World} {g : Nat} {l : List Nat} (h : Rd wr (some ⟨g, 0, none⟩) l) (k : Nat) (hk : k ≤ l.length) :
    (bL (l.take k)).length = k * 1 ∧ (∀ j u, (bL (l.take k))[j]? = some u → wr.cell? ((⟨g, 0, none⟩ : Addr).add j) = some u) ∧ ∀ u ∈ bL (l.take k), u.oneCell' = true := by
  refine ⟨by simp [bL]; omega, fun j u hu => ?_, fun u hu => ?_⟩
  · rw [Addr.add_lit]
    simp only [bL, List.getElem?_map, List.getElem?_take] at hu
    split at hu
    · rename_i hj
      have hjl : j < l.length := by omega
      obtain ⟨g', hg, hc⟩ := h j hjl
      simp at hg
      subst hg
      simp [hjl] at hu
      subst hu
      rw [Nat.zero_add, hc]
      simp [List.getD, hjl]
    · simp at hu
  · simp only [bL, List.mem_map] at hu
    obtain ⟨z, _, rfl⟩ := hu
    rfl
set_option maxRecDepth 8000 in
set_option maxHeartbeats 8000000 in
theorem t3_eqn (n : Nat) (w wr : World) (H C nl nd mm bb g1 g2 lc tc wc : Nat) (la ta wa : Option Addr) (ca : Array Value) (lit dist L : List Nat) (u0 u1 u2 u3 u4 u5 u6 u7 u8 u10 u11 u12 u13 u14 u15 u17 u18 u19 u20 u21 u22 u23 u24 u25 u26 u27 u28 u29 u30 u31 u32 u33 u34 u35 u36 u37 u38 u39 u40 u41 u42 u43 u44 u45 u46 u47 u48 u49 u50 u51 u52 u53 u54 u55 u56 u57 u58 u59 u60 u61 u62 u63 u64 u65 u66 u67 u68 u69 u70 u71 u72 u73 u74 u75 u76 u77 u78 u79 u80 u81 u82 u83 u84 u85 u86 u87 u88 u89 u90 u91 u92 u93 u94 u95 u96 u97 u98 u99 u100 u101 u102 u103 u104 u105 u106 u107 u108 u109 u110 u111 u112 u113 u114 u115 u116 u117 u118 u119 u120 u121 u122 u123 u124 u125 u126 u127 u128 u129 u130 u131 u132 u133 u134 u135 u136 u137 u138 u139 u140 u141 : Value) (hn : n = L.length) (hx : LX w H C (hcA nl nd mm bb (.slice la n lc) (.slice ta (tk L).length tc)) ca lit dist L g1 g2 la ta wr) (hw : Rd wr wa L) (hL : L.length ≤ 3000) (hT : (tk L).length ≤ 3000) (h16 : ∀ x ∈ L, x < 16) (hd : dec (tk L) [] = some L) :
    Code.wp Ybad.prog (nthC 17 (bodyOf Ybad.f3)) (bodyPost Ybad.prog Ybad.f3 (fun e w9 => e = .returned (.bool true) ∧ Below w.heap.size w w9)) ⟨#[u0, u1, u2, u3, u4, u5, u6, u7, u8, .pointer (some ⟨H, 0, none⟩), u10, u11, u12, u13, u14, u15, .slice wa n wc, u17, u18, u19, u20, u21, u22, u23, u24, u25, u26, u27, u28, u29, u30, u31, u32, u33, u34, u35, u36, u37, u38, u39, u40, u41, u42, u43, u44, u45, u46, u47, u48, u49, u50, u51, u52, u53, u54, u55, u56, u57, u58, u59, u60, u61, u62, u63, u64, u65, u66, u67, u68, u69, u70, u71, u72, u73, u74, u75, u76, u77, u78, u79, u80, u81, u82, u83, u84, u85, u86, u87, u88, u89, u90, u91, u92, u93, u94, u95, u96, u97, u98, u99, u100, u101, u102, u103, u104, u105, u106, u107, u108, u109, u110, u111, u112, u113, u114, u115, u116, u117, u118, u119, u120, u121, u122, u123, u124, u125, u126, u127, u128, u129, u130, u131, u132, u133, u134, u135, u136, u137, u138, u139, u140, u141], []⟩ wr := by
  subst hn
  have HX : Hid (LX w H C (hcA nl nd mm bb (.slice la L.length lc) (.slice ta (tk L).length tc)) ca lit dist L g1 g2 la ta wr) := hx
  have HW : Hid (Rd wr wa L) := hw
  have q3 := cellAt hx.hh 3 (.slice la L.length lc) rfl
  have HE : Hid (Calls Ybad.prog 7 _ _ _) := eq8_any la wa lc wc L wr hx.ll hw (by omega)
  have H16 : Hid (∀ x ∈ L, x < 16) := h16
  have HD : Hid (dec (tk L) [] = some L) := hd
  have HT : Hid ((tk L).length ≤ 3000) := hT
  clear hx hw h16 hd hT
  conv => arg 2; whnf
  go_upto_region 22 with fail
  rename_i k1 hk1 k2 hk2
  have HK : Hid _ := hk1
  clear hk1
  go_wp2_with fail
  refine HE.out.mono ?_
  rintro e w6 ⟨q, rfl, rfl⟩
  dsimp only
  go_wp2_with fail
  exact HK.out _ _ (t3_tok w _ H C nl nd mm bb g1 g2 lc tc wc la ta wa ca lit dist L _ _ _ _ _ _ _ _ _ _ _ _ _ _ _ _ _ _ _ _ _ _ _ _ _ _ _ _ _ _ _ _ _ _ _ _ _ _ _ _ _ _ _ _ _ _ _ _ _ _ _ _ _ _ _ _ _ _ _ _ _ _ _ _ _ _ _ _ _ _ _ _ _ _ _ _ _ _ _ _ _ _ _ _ _ _ _ _ _ _ _ _ _ _ _ _ _ _ _ _ _ _ _ _ _ _ _ _ _ _ _ _ _ _ _ _ _ _ _ _ _ _ _ _ _ _ _ _ _ _ _ _ _ _ _ _ _ _ _ _ (HX.out.drewN q) (HW.out.drewN q) hL HT.out H16.out HD.out)
set_option maxRecDepth 8000 in
set_option maxHeartbeats 8000000 in
theorem t3_wnt (w wr : World) (H C nl nd mm bb g1 g2 c1 c2 lc tc n1 n2 : Nat) (la ta : Option Addr) (ca : Array Value) (lit dist : List Nat) (u0 u1 u2 u3 u4 u5 u6 u10 u11 u12 u13 u16 u17 u18 u19 u20 u21 u22 u23 u24 u25 u26 u27 u28 u29 u30 u31 u32 u33 u34 u35 u36 u37 u38 u39 u40 u41 u42 u43 u44 u45 u46 u47 u48 u49 u50 u51 u52 u53 u54 u55 u56 u57 u58 u59 u60 u61 u62 u63 u64 u65 u66 u67 u68 u69 u70 u71 u72 u73 u74 u75 u76 u77 u78 u79 u80 u81 u82 u83 u84 u85 u86 u87 u88 u89 u90 u91 u92 u93 u94 u95 u96 u97 u98 u99 u100 u101 u102 u103 u104 u105 u106 u107 u108 u109 u110 u111 u112 u113 u114 u115 u116 u117 u118 u119 u120 u121 u122 u123 u124 u125 u126 u127 u128 u129 u130 u131 u132 u133 u134 u135 u136 u137 u138 u139 u140 u141 : Value) (hx : LX w H C (hcA nl nd mm bb (.slice la (lit.take nl ++ dist.take nd).length lc) (.slice ta (tk (lit.take nl ++ dist.take nd)).length tc)) ca lit dist (lit.take nl ++ dist.take nd) g1 g2 la ta wr) (hn1 : n1 = lit.length) (hn2 : n2 = dist.length) (hc1 : n1 ≤ c1) (hc2 : n2 ≤ c2) (hnl : nl ≤ n1) (hnd : nd ≤ n2) (hl1 : n1 ≤ 1320) (hl2 : n2 ≤ 1024) (h16 : ∀ x ∈ (lit.take nl ++ dist.take nd), x < 16) (hd : dec (tk (lit.take nl ++ dist.take nd)) [] = some (lit.take nl ++ dist.take nd)) :
    Code.wp Ybad.prog (nthC 14 (bodyOf Ybad.f3)) (bodyPost Ybad.prog Ybad.f3 (fun e w9 => e = .returned (.bool true) ∧ Below w.heap.size w w9)) ⟨#[u0, u1, u2, u3, u4, u5, u6, .slice (some ⟨g1, 0, none⟩) n1 c1, .slice (some ⟨g2, 0, none⟩) n2 c2, .pointer (some ⟨H, 0, none⟩), u10, u11, u12, u13, .int .i64 (nl : Int), .int .i64 (nd : Int), u16, u17, u18, u19, u20, u21, u22, u23, u24, u25, u26, u27, u28, u29, u30, u31, u32, u33, u34, u35, u36, u37, u38, u39, u40, u41, u42, u43, u44, u45, u46, u47, u48, u49, u50, u51, u52, u53, u54, u55, u56, u57, u58, u59, u60, u61, u62, u63, u64, u65, u66, u67, u68, u69, u70, u71, u72, u73, u74, u75, u76, u77, u78, u79, u80, u81, u82, u83, u84, u85, u86, u87, u88, u89, u90, u91, u92, u93, u94, u95, u96, u97, u98, u99, u100, u101, u102, u103, u104, u105, u106, u107, u108, u109, u110, u111, u112, u113, u114, u115, u116, u117, u118, u119, u120, u121, u122, u123, u124, u125, u126, u127, u128, u129, u130, u131, u132, u133, u134, u135, u136, u137, u138, u139, u140, u141], []⟩ wr := by
  have hLn : (lit.take nl ++ dist.take nd).length = nl + nd := by simp; omega
  have HLN : Hid ((lit.take nl ++ dist.take nd).length = nl + nd) := hLn
  rw [hLn] at hx
  have HX : Hid (LX w H C (hcA nl nd mm bb (.slice la (nl + nd) lc) (.slice ta (tk (lit.take nl ++ dist.take nd)).length tc)) ca lit dist (lit.take nl ++ dist.take nd) g1 g2 la ta wr) := hx
  have HT : Hid ((tk (lit.take nl ++ dist.take nd)).length ≤ 3000) := by have := tk_len (lit.take nl ++ dist.take nd); show _ ≤ _; omega
  have H16 : Hid (∀ x ∈ (lit.take nl ++ dist.take nd), x < 16) := h16
  have HD : Hid (dec (tk (lit.take nl ++ dist.take nd)) [] = some (lit.take nl ++ dist.take nd)) := hd
  have HL1 : Hid (n1 = lit.length) := hn1
  have HL2 : Hid (n2 = dist.length) := hn2
  obtain ⟨iv, hiv, hz0, hz1, hz2⟩ := info_parts infoU8
  have HI : Hid (_ ∧ _ ∧ _ ∧ _) := ⟨hiv, hz0, hz1, hz2⟩
  have hnl1 : nl ≤ c1 := by omega
  have hnd1 : nd ≤ c2 := by omega
  clear hiv hz0 hz1 hz2 hx h16 hd hLn hn1 hn2
  conv => arg 2; whnf
  go_wp2_with (first | (refine wpList_make_own _ rfl _ _ 22 rfl wr.heap.size 5 iv (.int .u8 0) 1 Ybad.underlying22 HI.out.1 HI.out.2.1 HI.out.2.2.1 _ _ _ (nl + nd) rfl rfl ?b1 ?b2 ?b3 ?b4 ?_) | fail)
  case b1 => omega
  case b2 => rw [HI.out.2.2.2]; omega
  case b3 => unfold maxLen; omega
  case b4 => exact Nat.le_refl _
  intro w1 ho hg
  have HB1 : Hid (Below wr.heap.size wr w1) := (Below.refl _ _).grown hg (Nat.le_refl _) (by simp)
  have HO1 : Hid (w1.ownsRow wr.heap.size 5 1 _ _ _) := ho
  have HW1 : Hid _ := (HX.out.r1.below HB1.out).news nl (by have := HL1.out; omega)
  clear ho hg
  generalize hG : wr.heap.size = g at HO1 HB1
  have HG : Hid (wr.heap.size = g) := hG
  have HGS : Hid (g ≤ w1.heap.size) := by have := HB1.out.size; show _ ≤ _; omega
  clear hG
  go_wp2_with (first | (at_builtin; refine wpList_append_fits _ rfl _ _ 22 rfl g 5 iv 1 Ybad.underlying22 HI.out.1 HI.out.2.2.1 _ _ _ _ rfl HO1.out ⟨g1, 0, none⟩ nl c1 (bL (lit.take nl)) rfl HW1.out.1 HW1.out.2.1 HW1.out.2.2 ?c3 ?_) | fail)
  case c3 => omega
  intro w2 ho hg
  have HB2 : Hid (Below g wr w2) := HB1.out.grown hg HGS.out (fun k hk => by simp at hk; omega)
  have HO2 : Hid (w2.ownsRow g 5 1 _ _ _) := ho
  have HX2 : Hid (LX w H C (hcA nl nd mm bb (.slice la (nl + nd) lc) (.slice ta (tk (lit.take nl ++ dist.take nd)).length tc)) ca lit dist (lit.take nl ++ dist.take nd) g1 g2 la ta w2) := HX.out.next (by rw [HG.out]; exact HB2.out)
  have HW2 : Hid _ := HX2.out.r2.news nd (by have := HL2.out; omega)
  have HGS2 : Hid (g ≤ w2.heap.size) := Nat.le_trans HGS.out hg.size
  clear ho hg HO1 HW1 HGS
  go_upto_region 21 with fail
  rename_i hK
  have HK : Hid _ := hK
  clear hK
  go_wp2_with (first | (at_builtin; refine wpList_append_fits _ rfl _ _ 22 rfl g 5 iv 1 Ybad.underlying22 HI.out.1 HI.out.2.2.1 _ _ _ _ rfl HO2.out ⟨g2, 0, none⟩ nd c2 (bL (dist.take nd)) rfl HW2.out.1 HW2.out.2.1 HW2.out.2.2 ?c3 ?_) | fail)
  case c3 => omega
  intro w3 ho hg
  have HB3 : Hid (Below g wr w3) := HB2.out.grown hg HGS2.out (fun k hk => by simp at hk; omega)
  have HX3 : Hid (LX w H C (hcA nl nd mm bb (.slice la (nl + nd) lc) (.slice ta (tk (lit.take nl ++ dist.take nd)).length tc)) ca lit dist (lit.take nl ++ dist.take nd) g1 g2 la ta w3) := HX.out.next (by rw [HG.out]; exact HB3.out)
  have HR3 : Hid (Rd w3 (some ⟨g, 0, none⟩) (lit.take nl ++ dist.take nd)) := by
    have h1 : w3.ownsRow g 5 1 (.slice (some ⟨g, 0, none⟩) (lit.take nl ++ dist.take nd).length (nl + nd)) (lit.take nl ++ dist.take nd).length (bL (lit.take nl ++ dist.take nd)) := by
      rw [HLN.out]
      simpa [bL] using ho
    exact own_cellsAt h1
  clear ho hg
  go_wp2_with fail
  exact HK.out _ _ (t3_eqn (nl + nd) w w3 H C nl nd mm bb g1 g2 lc tc (nl + nd) la ta (some ⟨g, 0, none⟩) ca lit dist (lit.take nl ++ dist.take nd) _ _ _ _ _ _ _ _ _ _ _ _ _ _ _ _ _ _ _ _ _ _ _ _ _ _ _ _ _ _ _ _ _ _ _ _ _ _ _ _ _ _ _ _ _ _ _ _ _ _ _ _ _ _ _ _ _ _ _ _ _ _ _ _ _ _ _ _ _ _ _ _ _ _ _ _ _ _ _ _ _ _ _ _ _ _ _ _ _ _ _ _ _ _ _ _ _ _ _ _ _ _ _ _ _ _ _ _ _ _ _ _ _ _ _ _ _ _ _ _ _ _ _ _ _ _ _ _ _ _ _ _ _ _ _ _ _ _ _ _ HLN.out.symm HX3.out HR3.out (by rw [HLN.out]; omega) HT.out H16.out HD.out)
end Go.Proofs.YbulkccziDoor
