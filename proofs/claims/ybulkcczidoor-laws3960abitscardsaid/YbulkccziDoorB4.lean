import Derived.Test.YbulkccziDoorB4a
import Derived.Test.YbulkccziDoorT3
namespace Go.Proofs.YbulkccziDoor
open Go.RowKit
/-! LawS3960ABits: the count, the whole. -/
set_option maxRecDepth 8000 in
set_option maxHeartbeats 8000000 in
theorem q_cnt (w : World) (H C mm bb nt tc : Nat) (ta : Option Addr) (ls : List Nat) (bs : List Value) (T : List Tk) (F : Nat) (u0 u1 u2 u3 u4 u5 u6 u7 u8 u10 u13 u14 u15 u16 u17 u18 u19 u20 u21 u22 u23 u24 u25 u26 u27 u28 u29 u30 u31 u32 u33 u34 u35 u36 u37 u38 u39 u40 u41 u42 u43 u44 u45 u46 u47 u48 u49 u50 u51 u52 u53 u54 u55 u56 u57 u58 u59 u60 u61 u62 u63 u64 u65 u66 u67 u68 u69 u70 u71 u72 u73 u74 u75 u76 u77 u78 u79 u80 u81 u82 u83 u84 u85 u86 u87 u88 u89 u90 u91 u92 u93 u94 u95 u96 u97 u98 u99 u100 u101 u102 u103 u104 u105 u106 u107 u108 u109 u110 u111 u112 u113 u114 u115 u116 u117 u118 u119 u120 u121 u122 u123 u124 u125 u126 u127 u128 u129 u130 u131 u132 u133 u134 u135 u136 u137 u138 u139 u140 u141 u142 u143 u144 u145 u146 u147 u148 u149 u150 u151 u152 u153 u154 u155 u156 u157 u158 u159 u160 u161 u162 u163 u164 u165 u166 u167 u168 u169 u170 u171 u172 u173 u174 u175 u176 u177 u178 u179 u180 u181 u182 u183 u184 u185 u186 u187 u188 u189 u190 u191 : Value) (wr : World) (hx : BF w H C mm bb nt tc ta ls bs T F zeroL wr) (hn : nt = T.length) (hnb : nt ≤ 3000) (hok : ∀ p ∈ T, tOk p) (hls : ls.length = 19) (hl7 : ∀ s, ls.getD s 0 ≤ 7) (hm : mm = ncl ls 19) (hbb : bb = 14 + 3 * mm + bitS ls T) (hpos : ∀ s, s < 19 → (0 < ls.getD s 0 ↔ 0 < (two (frqK T T.length)).getD s 0)) (hkr : krK ls 19 = 128) : Code.wp Ybad.prog (nthC 8 (bodyOf Ybad.f4)) (bodyPost Ybad.prog Ybad.f4 (fun e w9 => e = .returned (.bool true) ∧ Below w.heap.size w w9)) ⟨#[u0, u1, u2, u3, u4, u5, u6, u7, u8, .pointer (some ⟨H, 0, none⟩), u10, .pointer (some ⟨C, 0, none⟩), .pointer (some ⟨F, 0, none⟩), u13, u14, u15, u16, u17, u18, u19, u20, u21, u22, u23, u24, u25, u26, u27, u28, u29, u30, u31, u32, u33, u34, u35, u36, u37, u38, u39, u40, u41, u42, u43, u44, u45, u46, u47, u48, u49, u50, u51, u52, u53, u54, u55, u56, u57, u58, u59, u60, u61, u62, u63, u64, u65, u66, u67, u68, u69, u70, u71, u72, u73, u74, u75, u76, u77, u78, u79, u80, u81, u82, u83, u84, u85, u86, u87, u88, u89, u90, u91, u92, u93, u94, u95, u96, u97, u98, u99, u100, u101, u102, u103, u104, u105, u106, u107, u108, u109, u110, u111, u112, u113, u114, u115, u116, u117, u118, u119, u120, u121, u122, u123, u124, u125, u126, u127, u128, u129, u130, u131, u132, u133, u134, u135, u136, u137, u138, u139, u140, u141, u142, u143, u144, u145, u146, u147, u148, u149, u150, u151, u152, u153, u154, u155, u156, u157, u158, u159, u160, u161, u162, u163, u164, u165, u166, u167, u168, u169, u170, u171, u172, u173, u174, u175, u176, u177, u178, u179, u180, u181, u182, u183, u184, u185, u186, u187, u188, u189, u190, u191], []⟩ wr := by
  have HN : Hid (∀ (u0 u1 u2 u3 u4 u5 u6 u7 u8 u10 u13 u14 u15 u16 u17 u18 u19 u20 u21 u22 u23 u24 u25 u26 u27 u28 u29 u30 u31 u32 u33 u34 u35 u36 u37 u38 u39 u40 u41 u42 u43 u44 u45 u46 u47 u48 u49 u50 u51 u52 u53 u54 u55 u56 u57 u58 u59 u60 u61 u62 u63 u64 u65 u66 u67 u68 u69 u70 u71 u72 u73 u74 u75 u76 u77 u78 u79 u80 u81 u82 u83 u84 u85 u86 u87 u88 u89 u90 u91 u92 u93 u94 u95 u96 u97 u98 u99 u100 u101 u102 u103 u104 u105 u106 u107 u108 u109 u110 u111 u112 u113 u114 u115 u116 u117 u118 u119 u120 u121 u122 u123 u124 u125 u126 u127 u128 u129 u130 u131 u132 u133 u134 u135 u136 u137 u138 u139 u140 u141 u142 u143 u144 u145 u146 u147 u148 u149 u150 u151 u152 u153 u154 u155 u156 u157 u158 u159 u160 u161 u162 u163 u164 u165 u166 u167 u168 u169 u170 u171 u172 u173 u174 u175 u176 u177 u178 u179 u180 u181 u182 u183 u184 u185 u186 u187 u188 u189 u190 u191 : Value) (wr : World), BF w H C mm bb nt tc ta ls bs T F (frqK T nt) wr → Code.wp Ybad.prog (nthC 9 (bodyOf Ybad.f4)) (bodyPost Ybad.prog Ybad.f4 (fun e w9 => e = .returned (.bool true) ∧ Below w.heap.size w w9)) ⟨#[u0, u1, u2, u3, u4, u5, u6, u7, u8, .pointer (some ⟨H, 0, none⟩), u10, .pointer (some ⟨C, 0, none⟩), .pointer (some ⟨F, 0, none⟩), u13, u14, u15, u16, u17, u18, u19, u20, u21, u22, u23, u24, u25, u26, u27, u28, u29, u30, u31, u32, u33, u34, u35, u36, u37, u38, u39, u40, u41, u42, u43, u44, u45, u46, u47, u48, u49, u50, u51, u52, u53, u54, u55, u56, u57, u58, u59, u60, u61, u62, u63, u64, u65, u66, u67, u68, u69, u70, u71, u72, u73, u74, u75, u76, u77, u78, u79, u80, u81, u82, u83, u84, u85, u86, u87, u88, u89, u90, u91, u92, u93, u94, u95, u96, u97, u98, u99, u100, u101, u102, u103, u104, u105, u106, u107, u108, u109, u110, u111, u112, u113, u114, u115, u116, u117, u118, u119, u120, u121, u122, u123, u124, u125, u126, u127, u128, u129, u130, u131, u132, u133, u134, u135, u136, u137, u138, u139, u140, u141, u142, u143, u144, u145, u146, u147, u148, u149, u150, u151, u152, u153, u154, u155, u156, u157, u158, u159, u160, u161, u162, u163, u164, u165, u166, u167, u168, u169, u170, u171, u172, u173, u174, u175, u176, u177, u178, u179, u180, u181, u182, u183, u184, u185, u186, u187, u188, u189, u190, u191], []⟩ wr) := fun u0 u1 u2 u3 u4 u5 u6 u7 u8 u10 u13 u14 u15 u16 u17 u18 u19 u20 u21 u22 u23 u24 u25 u26 u27 u28 u29 u30 u31 u32 u33 u34 u35 u36 u37 u38 u39 u40 u41 u42 u43 u44 u45 u46 u47 u48 u49 u50 u51 u52 u53 u54 u55 u56 u57 u58 u59 u60 u61 u62 u63 u64 u65 u66 u67 u68 u69 u70 u71 u72 u73 u74 u75 u76 u77 u78 u79 u80 u81 u82 u83 u84 u85 u86 u87 u88 u89 u90 u91 u92 u93 u94 u95 u96 u97 u98 u99 u100 u101 u102 u103 u104 u105 u106 u107 u108 u109 u110 u111 u112 u113 u114 u115 u116 u117 u118 u119 u120 u121 u122 u123 u124 u125 u126 u127 u128 u129 u130 u131 u132 u133 u134 u135 u136 u137 u138 u139 u140 u141 u142 u143 u144 u145 u146 u147 u148 u149 u150 u151 u152 u153 u154 u155 u156 u157 u158 u159 u160 u161 u162 u163 u164 u165 u166 u167 u168 u169 u170 u171 u172 u173 u174 u175 u176 u177 u178 u179 u180 u181 u182 u183 u184 u185 u186 u187 u188 u189 u190 u191 wr hx => q_use w H C mm bb nt tc ta ls bs T F (frqK T nt) u0 u1 u2 u3 u4 u5 u6 u7 u8 u10 u13 u14 u15 u16 u17 u18 u19 u20 u21 u22 u23 u24 u25 u26 u27 u28 u29 u30 u31 u32 u33 u34 u35 u36 u37 u38 u39 u40 u41 u42 u43 u44 u45 u46 u47 u48 u49 u50 u51 u52 u53 u54 u55 u56 u57 u58 u59 u60 u61 u62 u63 u64 u65 u66 u67 u68 u69 u70 u71 u72 u73 u74 u75 u76 u77 u78 u79 u80 u81 u82 u83 u84 u85 u86 u87 u88 u89 u90 u91 u92 u93 u94 u95 u96 u97 u98 u99 u100 u101 u102 u103 u104 u105 u106 u107 u108 u109 u110 u111 u112 u113 u114 u115 u116 u117 u118 u119 u120 u121 u122 u123 u124 u125 u126 u127 u128 u129 u130 u131 u132 u133 u134 u135 u136 u137 u138 u139 u140 u141 u142 u143 u144 u145 u146 u147 u148 u149 u150 u151 u152 u153 u154 u155 u156 u157 u158 u159 u160 u161 u162 u163 u164 u165 u166 u167 u168 u169 u170 u171 u172 u173 u174 u175 u176 u177 u178 u179 u180 u181 u182 u183 u184 u185 u186 u187 u188 u189 u190 u191 wr hx hn hnb hok hls hl7 hm hbb (frqK_len T nt) (fun s => by have := frqK_le T nt s; omega) (by rw [hn]; exact hpos) hkr
  have h4 := hx.bx.h4
  have HX : Hid (BF w H C mm bb nt tc ta ls bs T F zeroL wr) := hx
  have HNT : Hid (nt = T.length) := hn
  have HOK : Hid (∀ p ∈ T, tOk p) := hok
  clear hx hn hok hls hl7 hm hbb hpos hkr
  conv => arg 2; whnf
  go_upto_region 9 with fail
  rename_i k1 hk1 k2 hk2
  have HK : Hid _ := hk1
  clear hk1
  go_wp2_with fail
  go_loopg [53] nt (fun gk v53 wx => ∃ (k : Nat), v53 = .int .i64 k ∧ k + gk = nt ∧ Hid (BF w H C mm bb nt tc ta ls bs T F (frqK T k) wx))
  case atStart => exact ⟨0, rfl, by omega, HX.out⟩
  case round =>
    clear h4 HX
    obtain ⟨k, rfl, hk, HX⟩ := hrel
    rcases Nat.lt_or_ge k nt with hlt | hge
    · obtain ⟨g, rfl, hc1, hc2⟩ := HX.out.bx.tt k (by have := HNT.out; omega)
      obtain ⟨s, x, hsx⟩ : ∃ s x, T.getD k (0, 0) = (s, x) := ⟨_, _, rfl⟩
      rw [hsx] at hc1 hc2
      have hs18 : s ≤ 18 := by
        have hkl : k < T.length := by have := HNT.out; omega
        have hel : T[k] = (s, x) := by rw [← hsx]; simp [List.getD, hkl]
        have h3 := HOK.out _ (List.getElem_mem hkl)
        rw [hel] at h3
        exact h3.1
      have hc1b : wr.cell? ⟨g, k * 2, none⟩ = some (.int .u8 (s : Int)) := by rw [Nat.mul_comm]; exact hc1
      have hc2b : wr.cell? ⟨g, k * 2 + 1, none⟩ = some (.int .u8 (x : Int)) := by rw [Nat.mul_comm]; exact hc2
      obtain ⟨z, hz⟩ : ∃ z, z = (frqK T k).getD s 0 := ⟨_, rfl⟩
      have hzb : z ≤ 3024 := by rw [hz]; have := frqK_le T k s; omega
      have hcz : wr.cell? ⟨F, s, none⟩ = some (.int .i64 (z : Int)) := by rw [hz]; exact HX.out.at (by rw [frqK_len]; omega)
      have hczf := frozenAt HX.out.nb s
      have hNl : F < wr.heap.size := (Array.getElem?_eq_some_iff.1 HX.out.nb).1
      have hNn : F ≠ wr.heap.size := by omega
      have hNn2 : ¬ wr.heap.size = F := by omega
      have hd1 : decide ((19 : Int) ≤ (s : Int)) = false := decide_eq_false (by omega)
      have hd2 : decide (19 ≤ s) = false := decide_eq_false (by omega)
      have hs9 : (s : Int) < 19 := by omega
      have HN2 : Hid (∀ ob, BF w H C mm bb nt tc (some ⟨g, 0, none⟩) ls bs T F (frqK T (k + 1)) ((wr.setCell ⟨F, s, none⟩ (.int .i64 ((z : Int) + 1))).alloc ob)) := fun ob => by
        have h1 := (HX.out.inc s (z + 1)).alloc ob
        rw [frqK, bump, hsx, ← hz]
        rw [show ((z + 1 : Nat) : Int) = (z : Int) + 1 from by omega] at h1
        exact h1
      clear hz hsx hc1 hc2
      go_wp2_with fail
      go_roundg (gk - 1)
      case measure => omega
      case rel => exact ⟨k + 1, by go_num, by omega, HN2.out _⟩
    · have hkn : nt = k := by omega
      subst hkn
      go_wp2_with fail
      exact HK.out _ _ (HN.out _ _ _ _ _ _ _ _ _ _ _ _ _ _ _ _ _ _ _ _ _ _ _ _ _ _ _ _ _ _ _ _ _ _ _ _ _ _ _ _ _ _ _ _ _ _ _ _ _ _ _ _ _ _ _ _ _ _ _ _ _ _ _ _ _ _ _ _ _ _ _ _ _ _ _ _ _ _ _ _ _ _ _ _ _ _ _ _ _ _ _ _ _ _ _ _ _ _ _ _ _ _ _ _ _ _ _ _ _ _ _ _ _ _ _ _ _ _ _ _ _ _ _ _ _ _ _ _ _ _ _ _ _ _ _ _ _ _ _ _ _ _ _ _ _ _ _ _ _ _ _ _ _ _ _ _ _ _ _ _ _ _ _ _ _ _ _ _ _ _ _ _ _ _ _ _ _ _ _ _ _ _ _ _ _ _ _ _ _ _ HX.out)
set_option maxRecDepth 8000 in
set_option maxHeartbeats 8000000 in
theorem q_f (w : World) (H C mm bb nt tc : Nat) (ta : Option Addr) (ls : List Nat) (bs : List Value) (T : List Tk) (u0 u1 u2 u3 u4 u5 u6 u7 u8 u10 u12 u13 u14 u15 u16 u17 u18 u19 u20 u21 u22 u23 u24 u25 u26 u27 u28 u29 u30 u31 u32 u33 u34 u35 u36 u37 u38 u39 u40 u41 u42 u43 u44 u45 u46 u47 u48 u49 u50 u51 u52 u53 u54 u55 u56 u57 u58 u59 u60 u61 u62 u63 u64 u65 u66 u67 u68 u69 u70 u71 u72 u73 u74 u75 u76 u77 u78 u79 u80 u81 u82 u83 u84 u85 u86 u87 u88 u89 u90 u91 u92 u93 u94 u95 u96 u97 u98 u99 u100 u101 u102 u103 u104 u105 u106 u107 u108 u109 u110 u111 u112 u113 u114 u115 u116 u117 u118 u119 u120 u121 u122 u123 u124 u125 u126 u127 u128 u129 u130 u131 u132 u133 u134 u135 u136 u137 u138 u139 u140 u141 u142 u143 u144 u145 u146 u147 u148 u149 u150 u151 u152 u153 u154 u155 u156 u157 u158 u159 u160 u161 u162 u163 u164 u165 u166 u167 u168 u169 u170 u171 u172 u173 u174 u175 u176 u177 u178 u179 u180 u181 u182 u183 u184 u185 u186 u187 u188 u189 u190 u191 : Value) (wr : World) (hx : BX w H C mm bb nt tc ta ls bs T wr) (hn : nt = T.length) (hnb : nt ≤ 3000) (hok : ∀ p ∈ T, tOk p) (hls : ls.length = 19) (hl7 : ∀ s, ls.getD s 0 ≤ 7) (hm : mm = ncl ls 19) (hbb : bb = 14 + 3 * mm + bitS ls T) (hpos : ∀ s, s < 19 → (0 < ls.getD s 0 ↔ 0 < (two (frqK T T.length)).getD s 0)) (hkr : krK ls 19 = 128) : Code.wp Ybad.prog (nthC 7 (bodyOf Ybad.f4)) (bodyPost Ybad.prog Ybad.f4 (fun e w9 => e = .returned (.bool true) ∧ Below w.heap.size w w9)) ⟨#[u0, u1, u2, u3, u4, u5, u6, u7, u8, .pointer (some ⟨H, 0, none⟩), u10, .pointer (some ⟨C, 0, none⟩), u12, u13, u14, u15, u16, u17, u18, u19, u20, u21, u22, u23, u24, u25, u26, u27, u28, u29, u30, u31, u32, u33, u34, u35, u36, u37, u38, u39, u40, u41, u42, u43, u44, u45, u46, u47, u48, u49, u50, u51, u52, u53, u54, u55, u56, u57, u58, u59, u60, u61, u62, u63, u64, u65, u66, u67, u68, u69, u70, u71, u72, u73, u74, u75, u76, u77, u78, u79, u80, u81, u82, u83, u84, u85, u86, u87, u88, u89, u90, u91, u92, u93, u94, u95, u96, u97, u98, u99, u100, u101, u102, u103, u104, u105, u106, u107, u108, u109, u110, u111, u112, u113, u114, u115, u116, u117, u118, u119, u120, u121, u122, u123, u124, u125, u126, u127, u128, u129, u130, u131, u132, u133, u134, u135, u136, u137, u138, u139, u140, u141, u142, u143, u144, u145, u146, u147, u148, u149, u150, u151, u152, u153, u154, u155, u156, u157, u158, u159, u160, u161, u162, u163, u164, u165, u166, u167, u168, u169, u170, u171, u172, u173, u174, u175, u176, u177, u178, u179, u180, u181, u182, u183, u184, u185, u186, u187, u188, u189, u190, u191], []⟩ wr := by
  have HN : Hid (∀ (u0 u1 u2 u3 u4 u5 u6 u7 u8 u10 u13 u14 u15 u16 u17 u18 u19 u20 u21 u22 u23 u24 u25 u26 u27 u28 u29 u30 u31 u32 u33 u34 u35 u36 u37 u38 u39 u40 u41 u42 u43 u44 u45 u46 u47 u48 u49 u50 u51 u52 u53 u54 u55 u56 u57 u58 u59 u60 u61 u62 u63 u64 u65 u66 u67 u68 u69 u70 u71 u72 u73 u74 u75 u76 u77 u78 u79 u80 u81 u82 u83 u84 u85 u86 u87 u88 u89 u90 u91 u92 u93 u94 u95 u96 u97 u98 u99 u100 u101 u102 u103 u104 u105 u106 u107 u108 u109 u110 u111 u112 u113 u114 u115 u116 u117 u118 u119 u120 u121 u122 u123 u124 u125 u126 u127 u128 u129 u130 u131 u132 u133 u134 u135 u136 u137 u138 u139 u140 u141 u142 u143 u144 u145 u146 u147 u148 u149 u150 u151 u152 u153 u154 u155 u156 u157 u158 u159 u160 u161 u162 u163 u164 u165 u166 u167 u168 u169 u170 u171 u172 u173 u174 u175 u176 u177 u178 u179 u180 u181 u182 u183 u184 u185 u186 u187 u188 u189 u190 u191 : Value) (F : Nat) (wr : World), BF w H C mm bb nt tc ta ls bs T F zeroL wr → Code.wp Ybad.prog (nthC 8 (bodyOf Ybad.f4)) (bodyPost Ybad.prog Ybad.f4 (fun e w9 => e = .returned (.bool true) ∧ Below w.heap.size w w9)) ⟨#[u0, u1, u2, u3, u4, u5, u6, u7, u8, .pointer (some ⟨H, 0, none⟩), u10, .pointer (some ⟨C, 0, none⟩), .pointer (some ⟨F, 0, none⟩), u13, u14, u15, u16, u17, u18, u19, u20, u21, u22, u23, u24, u25, u26, u27, u28, u29, u30, u31, u32, u33, u34, u35, u36, u37, u38, u39, u40, u41, u42, u43, u44, u45, u46, u47, u48, u49, u50, u51, u52, u53, u54, u55, u56, u57, u58, u59, u60, u61, u62, u63, u64, u65, u66, u67, u68, u69, u70, u71, u72, u73, u74, u75, u76, u77, u78, u79, u80, u81, u82, u83, u84, u85, u86, u87, u88, u89, u90, u91, u92, u93, u94, u95, u96, u97, u98, u99, u100, u101, u102, u103, u104, u105, u106, u107, u108, u109, u110, u111, u112, u113, u114, u115, u116, u117, u118, u119, u120, u121, u122, u123, u124, u125, u126, u127, u128, u129, u130, u131, u132, u133, u134, u135, u136, u137, u138, u139, u140, u141, u142, u143, u144, u145, u146, u147, u148, u149, u150, u151, u152, u153, u154, u155, u156, u157, u158, u159, u160, u161, u162, u163, u164, u165, u166, u167, u168, u169, u170, u171, u172, u173, u174, u175, u176, u177, u178, u179, u180, u181, u182, u183, u184, u185, u186, u187, u188, u189, u190, u191], []⟩ wr) := fun u0 u1 u2 u3 u4 u5 u6 u7 u8 u10 u13 u14 u15 u16 u17 u18 u19 u20 u21 u22 u23 u24 u25 u26 u27 u28 u29 u30 u31 u32 u33 u34 u35 u36 u37 u38 u39 u40 u41 u42 u43 u44 u45 u46 u47 u48 u49 u50 u51 u52 u53 u54 u55 u56 u57 u58 u59 u60 u61 u62 u63 u64 u65 u66 u67 u68 u69 u70 u71 u72 u73 u74 u75 u76 u77 u78 u79 u80 u81 u82 u83 u84 u85 u86 u87 u88 u89 u90 u91 u92 u93 u94 u95 u96 u97 u98 u99 u100 u101 u102 u103 u104 u105 u106 u107 u108 u109 u110 u111 u112 u113 u114 u115 u116 u117 u118 u119 u120 u121 u122 u123 u124 u125 u126 u127 u128 u129 u130 u131 u132 u133 u134 u135 u136 u137 u138 u139 u140 u141 u142 u143 u144 u145 u146 u147 u148 u149 u150 u151 u152 u153 u154 u155 u156 u157 u158 u159 u160 u161 u162 u163 u164 u165 u166 u167 u168 u169 u170 u171 u172 u173 u174 u175 u176 u177 u178 u179 u180 u181 u182 u183 u184 u185 u186 u187 u188 u189 u190 u191 F wr hx => q_cnt w H C mm bb nt tc ta ls bs T F u0 u1 u2 u3 u4 u5 u6 u7 u8 u10 u13 u14 u15 u16 u17 u18 u19 u20 u21 u22 u23 u24 u25 u26 u27 u28 u29 u30 u31 u32 u33 u34 u35 u36 u37 u38 u39 u40 u41 u42 u43 u44 u45 u46 u47 u48 u49 u50 u51 u52 u53 u54 u55 u56 u57 u58 u59 u60 u61 u62 u63 u64 u65 u66 u67 u68 u69 u70 u71 u72 u73 u74 u75 u76 u77 u78 u79 u80 u81 u82 u83 u84 u85 u86 u87 u88 u89 u90 u91 u92 u93 u94 u95 u96 u97 u98 u99 u100 u101 u102 u103 u104 u105 u106 u107 u108 u109 u110 u111 u112 u113 u114 u115 u116 u117 u118 u119 u120 u121 u122 u123 u124 u125 u126 u127 u128 u129 u130 u131 u132 u133 u134 u135 u136 u137 u138 u139 u140 u141 u142 u143 u144 u145 u146 u147 u148 u149 u150 u151 u152 u153 u154 u155 u156 u157 u158 u159 u160 u161 u162 u163 u164 u165 u166 u167 u168 u169 u170 u171 u172 u173 u174 u175 u176 u177 u178 u179 u180 u181 u182 u183 u184 u185 u186 u187 u188 u189 u190 u191 wr hx hn hnb hok hls hl7 hm hbb hpos hkr
  have HX : Hid (BF w H C mm bb nt tc ta ls bs T wr.heap.size zeroL (wr.alloc (.cells (iA zeroL) 50))) := BF.start hx
  clear hx hn hok hls hl7 hm hbb hpos hkr
  conv => arg 2; whnf
  go_upto_region 8 with fail
  rename_i hK
  have HK : Hid _ := hK
  clear hK
  go_wp2_with fail
  exact HK.out _ _ (HN.out _ _ _ _ _ _ _ _ _ _ _ _ _ _ _ _ _ _ _ _ _ _ _ _ _ _ _ _ _ _ _ _ _ _ _ _ _ _ _ _ _ _ _ _ _ _ _ _ _ _ _ _ _ _ _ _ _ _ _ _ _ _ _ _ _ _ _ _ _ _ _ _ _ _ _ _ _ _ _ _ _ _ _ _ _ _ _ _ _ _ _ _ _ _ _ _ _ _ _ _ _ _ _ _ _ _ _ _ _ _ _ _ _ _ _ _ _ _ _ _ _ _ _ _ _ _ _ _ _ _ _ _ _ _ _ _ _ _ _ _ _ _ _ _ _ _ _ _ _ _ _ _ _ _ _ _ _ _ _ _ _ _ _ _ _ _ _ _ _ _ _ _ _ _ _ _ _ _ _ _ _ _ _ _ _ _ _ _ _ _ _ HX.out)
theorem LX.bx {w : World} {H C a b mm bb nt tc g1 g2 nl lc : Nat} {la ta : Option Addr} {ls : List Nat} {bs : List Value} {lit dist L : List Nat} {wr : World} (h : LX w H C (hcA a b mm bb (.slice la nl lc) (.slice ta nt tc)) (clA ls (List.replicate 269 (.int .u8 0) ++ bs)) lit dist L g1 g2 la ta wr) : BX w H C mm bb nt tc ta ls bs (tk L) wr :=
  ⟨cellAt h.hh 2 _ rfl, cellAt h.hh 4 _ rfl, cellAt h.hh 5 _ rfl, h.co, h.tt, h.bel⟩
set_option maxRecDepth 8000 in
set_option maxHeartbeats 8000000 in
theorem law4 (a d : Option Addr) (n m ca1 cd1 P : Nat) (zs ys : List Int) (w : World) (hz : Src w a n zs) (hy : Src w d m ys) (hn : n ≤ 1024) (hm : m ≤ 1024) (hP : P < 65536) (hzb : ∀ j, 0 ≤ zs.getD j 0 ∧ zs.getD j 0 ≤ 255) (hyb : ∀ j, 0 ≤ ys.getD j 0 ∧ ys.getD j 0 ≤ 255)
    (hpos : 0 < w.heap.size) (ho : ∀ t, t < 19 → w.cell? ⟨0, t, none⟩ = some (.int .u8 ((ordL.getD t 0 : Nat) : Int))) :
    Calls Ybad.prog 4 #[.slice a n ca1, .slice d m cd1, .int .u16 (P : Int)] w fun e w' => e = .returned (.bool true) ∧ Below w.heap.size w w' := by
  obtain ⟨lit, hl⟩ : ∃ lit, lit = litL zs P := ⟨_, rfl⟩
  obtain ⟨dist, hdl⟩ : ∃ dist, dist = m16 ys := ⟨_, rfl⟩
  obtain ⟨n1, hn1⟩ : ∃ n1, n1 = lit.length := ⟨_, rfl⟩
  obtain ⟨n2, hn2⟩ : ∃ n2, n2 = dist.length := ⟨_, rfl⟩
  have hl1 : n1 ≤ 1320 := by rw [hn1, hl]; exact litL_len hz.1 hn
  have hl2 : n2 ≤ 1024 := by rw [hn2, hdl, m16_len, hy.1]; exact hm
  have H16 : Hid (∀ x ∈ lit, x < 16) := by rw [hl]; exact litL_16 zs P
  have H16' : Hid (∀ x ∈ dist, x < 16) := by rw [hdl]; exact m16_16 ys
  have HAB : Hid (Calls Ybad.prog 5 _ _ _) := ab_rd a d n m ca1 cd1 P zs ys w lit dist n1 n2 hz hy hn hm hP hzb hyb hl hdl hn1 hn2
  have HZ : Hid (n1 = lit.length ∧ n2 = dist.length) := ⟨hn1, hn2⟩
  have HO : Hid (0 < w.heap.size ∧ ∀ t, t < 19 → w.cell? ⟨0, t, none⟩ = some (.int .u8 ((ordL.getD t 0 : Nat) : Int))) := ⟨hpos, ho⟩
  clear hz hy hzb hyb hl hdl hn1 hn2 ho hpos
  have hd1 : decide ((1024 : Int) < (n : Int)) = false := decide_eq_false (by omega)
  have hd2 : decide ((1024 : Int) < (m : Int)) = false := decide_eq_false (by omega)
  have hz38 : ∀ W, (zeroValue 38).run Ybad.prog W = .ok (.agg z38) W := zero38
  go_enter Ybad.func4, Ybad.ntmps4
  go_wp2_with fail
  refine HAB.out.mono ?_
  rintro e w1 ⟨g1, c1, g2, c2, rfl, ho1, ho2, hc1, hc2, hb⟩
  dsimp only
  have HMK : Hid (Calls Ybad.prog 6 _ _ _) := mk_of_ab ho1 ho2 hb HO.out.1 HO.out.2 HZ.out.1 HZ.out.2 hl1 hl2 H16.out H16'.out
  clear HAB ho1 ho2 hb
  go_upto_region 7 with fail
  rename_i hK
  have HK : Hid _ := hK
  clear hK
  go_wp2_with fail
  refine HMK.out.mono ?_
  rintro e w3 ⟨rfl, zs', bs, la, ta, lc, tc, hli, h7, hbs, hx⟩
  dsimp only
  have HX : Hid _ := hx
  have HLI : Hid (LI (mkF lit dist) zs' 12 ∧ ∀ t, t < zs'.length → dpt zs' t ≤ 7) := ⟨hli, h7⟩
  clear HMK hli h7 hbs hx hz38
  go_wp2_with fail
  refine HK.out _ _ ?_
  obtain ⟨z7, z8⟩ := HZ.out
  have t1 := trimN_le 257 lit lit.length
  have t2 := trimN_le 1 dist dist.length
  have hLn : (mkL lit dist).length ≤ 2344 := by rw [mkL_len]; omega
  have h16 := mkL_16 H16.out H16'.out
  obtain ⟨c1', c2'⟩ := code_law (mkF lit dist) zs' HLI.out.1 (two_two _ (frqK_len _ _)) HLI.out.2
  exact q_f w w1.heap.size (w1.heap.size + 2) _ _ _ tc ta (cdL zs') bs (tk (mkL lit dist)) _ _ _ _ _ _ _ _ _ _ _ _ _ _ _ _ _ _ _ _ _ _ _ _ _ _ _ _ _ _ _ _ _ _ _ _ _ _ _ _ _ _ _ _ _ _ _ _ _ _ _ _ _ _ _ _ _ _ _ _ _ _ _ _ _ _ _ _ _ _ _ _ _ _ _ _ _ _ _ _ _ _ _ _ _ _ _ _ _ _ _ _ _ _ _ _ _ _ _ _ _ _ _ _ _ _ _ _ _ _ _ _ _ _ _ _ _ _ _ _ _ _ _ _ _ _ _ _ _ _ _ _ _ _ _ _ _ _ _ _ _ _ _ _ _ _ _ _ _ _ _ _ _ _ _ _ _ _ _ _ _ _ _ _ _ _ _ _ _ _ _ _ _ _ _ _ _ _ _ _ _ _ _ _ _ _ _ _ _ _ w3 HX.out.bx rfl (by have := tk_len (mkL lit dist); omega) (tk_ok _ h16) (by unfold cdL; rw [setK_len]; rfl) (cdL_le HLI.out.2) rfl rfl c1' c2'
end Go.Proofs.YbulkccziDoor
