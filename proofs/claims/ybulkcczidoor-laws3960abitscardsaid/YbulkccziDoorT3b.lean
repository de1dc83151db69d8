import Derived.Test.YbulkccziDoorT3c
namespace Go.Proofs.YbulkccziDoor
open Go.RowKit
/-! LawS3960ATokens: the inputs are not written; the whole. -/
theorem ab_rd (a d : Option Addr) (n m ca1 cd1 P : Nat) (zs ys : List Int) (w : World) (lit dist : List Nat) (n1 n2 : Nat) (hz : Src w a n zs) (hy : Src w d m ys) (hn : n ≤ 1024) (hm : m ≤ 1024) (hP : P < 65536) (hzb : ∀ j, 0 ≤ zs.getD j 0 ∧ zs.getD j 0 ≤ 255) (hyb : ∀ j, 0 ≤ ys.getD j 0 ∧ ys.getD j 0 ≤ 255) (hl : lit = litL zs P) (hdl : dist = m16 ys) (hn1 : n1 = lit.length) (hn2 : n2 = dist.length) :
    Calls Ybad.prog 5 #[.slice a n ca1, .slice d m cd1, .int .u16 (P : Int)] w fun e w' => ∃ g1 c1 g2 c2, e = .returned (.tuple #[.slice (some ⟨g1, 0, none⟩) n1 c1, .slice (some ⟨g2, 0, none⟩) n2 c2]) ∧ w'.ownsRow w.heap.size 5 1 (.slice (some ⟨g1, 0, none⟩) lit.length c1) lit.length (bL lit) ∧ w'.ownsRow w.heap.size 5 1 (.slice (some ⟨g2, 0, none⟩) dist.length c2) dist.length (bL dist) ∧ n1 ≤ c1 ∧ n2 ≤ c2 ∧ Below w.heap.size w w' := by
  subst hl hdl hn1 hn2
  refine (ab_any a d n m ca1 cd1 P zs ys w hz hy hn hm hP hzb hyb).mono ?_
  rintro e w' ⟨g1, c1, g2, c2, rfl, h1, h2, _, hb⟩
  refine ⟨g1, c1, g2, c2, rfl, h1, h2, ?_, ?_, hb⟩
  · obtain ⟨_, _, he, _, hc, _⟩ := own_rd h1
    simp at he
    omega
  · obtain ⟨_, _, he, _, hc, _⟩ := own_rd h2
    simp at he
    omega
set_option maxRecDepth 8000 in
set_option maxHeartbeats 8000000 in
theorem t3_two (a d : Option Addr) (n m ca1 cd1 P : Nat) (zs ys : List Int) (w wr : World) (H C nl nd mm bb g1 g2 c1 c2 lc tc n1 n2 : Nat) (la ta : Option Addr) (ca : Array Value) (lit dist : List Nat) (u3 u4 u5 u6 u10 u11 u12 u13 u14 u15 u16 u17 u18 u19 u20 u21 u22 u23 u24 u25 u26 u27 u28 u29 u30 u31 u32 u33 u34 u35 u36 u37 u38 u39 u40 u41 u42 u43 u44 u45 u46 u47 u48 u49 u50 u51 u52 u53 u54 u55 u56 u57 u58 u59 u60 u61 u62 u63 u64 u65 u66 u67 u68 u69 u70 u71 u72 u73 u74 u75 u76 u77 u78 u79 u80 u81 u82 u83 u84 u85 u86 u87 u88 u89 u90 u91 u92 u93 u94 u95 u96 u97 u98 u99 u100 u101 u102 u103 u104 u105 u106 u107 u108 u109 u110 u111 u112 u113 u114 u115 u116 u117 u118 u119 u120 u121 u122 u123 u124 u125 u126 u127 u128 u129 u130 u131 u132 u133 u134 u135 u136 u137 u138 u139 u140 u141 : Value) (hx : LX w H C (hcA nl nd mm bb (.slice la (lit.take nl ++ dist.take nd).length lc) (.slice ta (tk (lit.take nl ++ dist.take nd)).length tc)) ca lit dist (lit.take nl ++ dist.take nd) g1 g2 la ta wr) (hn1 : n1 = lit.length) (hn2 : n2 = dist.length) (hc1 : n1 ≤ c1) (hc2 : n2 ≤ c2) (hnl : nl ≤ n1) (hnd : nd ≤ n2) (hl1 : n1 ≤ 1320) (hl2 : n2 ≤ 1024) (h16 : ∀ x ∈ (lit.take nl ++ dist.take nd), x < 16) (hd : dec (tk (lit.take nl ++ dist.take nd)) [] = some (lit.take nl ++ dist.take nd)) (htr : nl = trimN 257 lit n1) (htr2 : nd = trimN 1 dist n2)
    (hz : Src w a n zs) (hy : Src w d m ys) (hn : n ≤ 1024) (hm : m ≤ 1024) (hP : P < 65536) (hzb : ∀ j, 0 ≤ zs.getD j 0 ∧ zs.getD j 0 ≤ 255) (hyb : ∀ j, 0 ≤ ys.getD j 0 ∧ ys.getD j 0 ≤ 255) (hl : lit = litL zs P) (hdl : dist = m16 ys) :
    Code.wp Ybad.prog (nthC 7 (bodyOf Ybad.f3)) (bodyPost Ybad.prog Ybad.f3 (fun e w9 => e = .returned (.bool true) ∧ Below w.heap.size w w9)) ⟨#[.slice a n ca1, .slice d m cd1, .int .u16 (P : Int), u3, u4, u5, u6, .slice (some ⟨g1, 0, none⟩) n1 c1, .slice (some ⟨g2, 0, none⟩) n2 c2, .pointer (some ⟨H, 0, none⟩), u10, u11, u12, u13, u14, u15, u16, u17, u18, u19, u20, u21, u22, u23, u24, u25, u26, u27, u28, u29, u30, u31, u32, u33, u34, u35, u36, u37, u38, u39, u40, u41, u42, u43, u44, u45, u46, u47, u48, u49, u50, u51, u52, u53, u54, u55, u56, u57, u58, u59, u60, u61, u62, u63, u64, u65, u66, u67, u68, u69, u70, u71, u72, u73, u74, u75, u76, u77, u78, u79, u80, u81, u82, u83, u84, u85, u86, u87, u88, u89, u90, u91, u92, u93, u94, u95, u96, u97, u98, u99, u100, u101, u102, u103, u104, u105, u106, u107, u108, u109, u110, u111, u112, u113, u114, u115, u116, u117, u118, u119, u120, u121, u122, u123, u124, u125, u126, u127, u128, u129, u130, u131, u132, u133, u134, u135, u136, u137, u138, u139, u140, u141], []⟩ wr := by
  have HAB : Hid (Calls Ybad.prog 5 _ _ _) := ab_rd a d n m ca1 cd1 P zs ys wr lit dist n1 n2 (hz.below hx.bel) (hy.below hx.bel) hn hm hP hzb hyb hl hdl hn1 hn2
  have HN : Hid (∀ (u0 u1 u2 u3 u4 u5 u6 u10 u11 u12 u13 u14 u15 u16 u17 u18 u19 u20 u21 u22 u23 u24 u25 u26 u27 u28 u29 u30 u31 u32 u33 u34 u35 u36 u37 u38 u39 u40 u41 u42 u43 u44 u45 u46 u47 u48 u49 u50 u51 u52 u53 u54 u55 u56 u57 u58 u59 u60 u61 u62 u63 u64 u65 u66 u67 u68 u69 u70 u71 u72 u73 u74 u75 u76 u77 u78 u79 u80 u81 u82 u83 u84 u85 u86 u87 u88 u89 u90 u91 u92 u93 u94 u95 u96 u97 u98 u99 u100 u101 u102 u103 u104 u105 u106 u107 u108 u109 u110 u111 u112 u113 u114 u115 u116 u117 u118 u119 u120 u121 u122 u123 u124 u125 u126 u127 u128 u129 u130 u131 u132 u133 u134 u135 u136 u137 u138 u139 u140 u141 : Value) (wr : World), LX w H C (hcA nl nd mm bb (.slice la (lit.take nl ++ dist.take nd).length lc) (.slice ta (tk (lit.take nl ++ dist.take nd)).length tc)) ca lit dist (lit.take nl ++ dist.take nd) g1 g2 la ta wr → Code.wp Ybad.prog (nthC 9 (bodyOf Ybad.f3)) (bodyPost Ybad.prog Ybad.f3 (fun e w9 => e = .returned (.bool true) ∧ Below w.heap.size w w9)) ⟨#[u0, u1, u2, u3, u4, u5, u6, .slice (some ⟨g1, 0, none⟩) n1 c1, .slice (some ⟨g2, 0, none⟩) n2 c2, .pointer (some ⟨H, 0, none⟩), u10, u11, u12, u13, u14, u15, u16, u17, u18, u19, u20, u21, u22, u23, u24, u25, u26, u27, u28, u29, u30, u31, u32, u33, u34, u35, u36, u37, u38, u39, u40, u41, u42, u43, u44, u45, u46, u47, u48, u49, u50, u51, u52, u53, u54, u55, u56, u57, u58, u59, u60, u61, u62, u63, u64, u65, u66, u67, u68, u69, u70, u71, u72, u73, u74, u75, u76, u77, u78, u79, u80, u81, u82, u83, u84, u85, u86, u87, u88, u89, u90, u91, u92, u93, u94, u95, u96, u97, u98, u99, u100, u101, u102, u103, u104, u105, u106, u107, u108, u109, u110, u111, u112, u113, u114, u115, u116, u117, u118, u119, u120, u121, u122, u123, u124, u125, u126, u127, u128, u129, u130, u131, u132, u133, u134, u135, u136, u137, u138, u139, u140, u141], []⟩ wr) := fun u0 u1 u2 u3 u4 u5 u6 u10 u11 u12 u13 u14 u15 u16 u17 u18 u19 u20 u21 u22 u23 u24 u25 u26 u27 u28 u29 u30 u31 u32 u33 u34 u35 u36 u37 u38 u39 u40 u41 u42 u43 u44 u45 u46 u47 u48 u49 u50 u51 u52 u53 u54 u55 u56 u57 u58 u59 u60 u61 u62 u63 u64 u65 u66 u67 u68 u69 u70 u71 u72 u73 u74 u75 u76 u77 u78 u79 u80 u81 u82 u83 u84 u85 u86 u87 u88 u89 u90 u91 u92 u93 u94 u95 u96 u97 u98 u99 u100 u101 u102 u103 u104 u105 u106 u107 u108 u109 u110 u111 u112 u113 u114 u115 u116 u117 u118 u119 u120 u121 u122 u123 u124 u125 u126 u127 u128 u129 u130 u131 u132 u133 u134 u135 u136 u137 u138 u139 u140 u141 wr hx => t3_tr1 w wr H C nl nd mm bb g1 g2 c1 c2 lc tc n1 n2 la ta ca lit dist u0 u1 u2 u3 u4 u5 u6 u10 u11 u12 u13 u14 u15 u16 u17 u18 u19 u20 u21 u22 u23 u24 u25 u26 u27 u28 u29 u30 u31 u32 u33 u34 u35 u36 u37 u38 u39 u40 u41 u42 u43 u44 u45 u46 u47 u48 u49 u50 u51 u52 u53 u54 u55 u56 u57 u58 u59 u60 u61 u62 u63 u64 u65 u66 u67 u68 u69 u70 u71 u72 u73 u74 u75 u76 u77 u78 u79 u80 u81 u82 u83 u84 u85 u86 u87 u88 u89 u90 u91 u92 u93 u94 u95 u96 u97 u98 u99 u100 u101 u102 u103 u104 u105 u106 u107 u108 u109 u110 u111 u112 u113 u114 u115 u116 u117 u118 u119 u120 u121 u122 u123 u124 u125 u126 u127 u128 u129 u130 u131 u132 u133 u134 u135 u136 u137 u138 u139 u140 u141 hx hn1 hn2 hc1 hc2 hnl hnd hl1 hl2 h16 hd htr htr2
  have HX : Hid (LX w H C (hcA nl nd mm bb (.slice la (lit.take nl ++ dist.take nd).length lc) (.slice ta (tk (lit.take nl ++ dist.take nd)).length tc)) ca lit dist (lit.take nl ++ dist.take nd) g1 g2 la ta wr) := hx
  have HE : Hid (∀ w4 g3 c3, Rd w4 (some ⟨g1, 0, none⟩) lit → Rd w4 (some ⟨g3, 0, none⟩) lit → Calls Ybad.prog 7 #[.slice (some ⟨g1, 0, none⟩) n1 c1, .slice (some ⟨g3, 0, none⟩) n1 c3] w4 fun e w' => EqTo w4 e w') := fun w4 g3 c3 h1 h2 => by rw [hn1]; exact eq8_any _ _ c1 c3 lit w4 h1 h2 (by omega)
  have HE2 : Hid (∀ w4 g4 c4, Rd w4 (some ⟨g2, 0, none⟩) dist → Rd w4 (some ⟨g4, 0, none⟩) dist → Calls Ybad.prog 7 #[.slice (some ⟨g2, 0, none⟩) n2 c2, .slice (some ⟨g4, 0, none⟩) n2 c4] w4 fun e w' => EqTo w4 e w') := fun w4 g3 c3 h1 h2 => by rw [hn2]; exact eq8_any _ _ c2 c3 dist w4 h1 h2 (by omega)
  clear hx hn1 hn2 h16 hd htr htr2 hz hy hzb hyb hl hdl
  conv => arg 2; whnf
  go_wp2_with fail
  refine HAB.out.mono ?_
  rintro e w4 ⟨g3, c3, g4, c4, rfl, ho3, ho4, _, _, hb⟩
  dsimp only
  have HX4 : Hid (LX w H C (hcA nl nd mm bb (.slice la (lit.take nl ++ dist.take nd).length lc) (.slice ta (tk (lit.take nl ++ dist.take nd)).length tc)) ca lit dist (lit.take nl ++ dist.take nd) g1 g2 la ta w4) := HX.out.next hb
  have HR4 : Hid (Rd w4 (some ⟨g4, 0, none⟩) dist) := own_cellsAt ho4
  have HC1 : Hid (Calls Ybad.prog 7 _ _ _) := HE.out w4 g3 c3 HX4.out.r1 (own_cellsAt ho3)
  clear ho3 ho4 hb HAB HE
  go_upto_region 9 with fail
  rename_i k1 hk1 k2 hk2
  have HK : Hid _ := hk1
  clear hk1
  go_wp2_with fail
  refine HC1.out.mono ?_
  rintro e w5 ⟨q, rfl, rfl⟩
  dsimp only
  have HX5 : Hid (LX w H C (hcA nl nd mm bb (.slice la (lit.take nl ++ dist.take nd).length lc) (.slice ta (tk (lit.take nl ++ dist.take nd)).length tc)) ca lit dist (lit.take nl ++ dist.take nd) g1 g2 la ta (w4.drewN q)) := HX4.out.drewN q
  have HR5 : Hid (Rd (w4.drewN q) (some ⟨g4, 0, none⟩) dist) := HR4.out
  generalize w4.drewN q = w5 at *
  have HC2 : Hid (Calls Ybad.prog 7 _ _ _) := HE2.out w5 g4 c4 HX5.out.r2 HR5.out
  clear HC1 HE2
  go_wp2_with fail
  refine HC2.out.mono ?_
  rintro e w6 ⟨q, rfl, rfl⟩
  dsimp only
  have HX6 : Hid (LX w H C (hcA nl nd mm bb (.slice la (lit.take nl ++ dist.take nd).length lc) (.slice ta (tk (lit.take nl ++ dist.take nd)).length tc)) ca lit dist (lit.take nl ++ dist.take nd) g1 g2 la ta (w5.drewN q)) := HX5.out.drewN q
  generalize w5.drewN q = w6 at *
  go_wp2_with fail
  exact HK.out _ _ (HN.out _ _ _ _ _ _ _ _ _ _ _ _ _ _ _ _ _ _ _ _ _ _ _ _ _ _ _ _ _ _ _ _ _ _ _ _ _ _ _ _ _ _ _ _ _ _ _ _ _ _ _ _ _ _ _ _ _ _ _ _ _ _ _ _ _ _ _ _ _ _ _ _ _ _ _ _ _ _ _ _ _ _ _ _ _ _ _ _ _ _ _ _ _ _ _ _ _ _ _ _ _ _ _ _ _ _ _ _ _ _ _ _ _ _ _ _ _ _ _ _ _ _ _ _ _ _ _ _ _ _ _ _ _ _ _ _ _ _ _ _ HX6.out)
end Go.Proofs.YbulkccziDoor
