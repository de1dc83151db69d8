import Derived.Test.YbulkccziDoorMk5
import Derived.Deep.RegionWith
namespace Go.Proofs.YbulkccziDoor
open Go.RowKit
set_option maxRecDepth 8000 in
set_option maxHeartbeats 32000000 in
theorem mk_cod (H LB C g1 c1 g2 c2 n1 n2 nl nd N : Nat) (u5 u6 u7 u8 u9 u10 u11 u12 u13 u14 u16 u17 u18 u19 u20 u21 u22 u23 u24 u25 u26 u27 u28 u29 u30 u31 u32 u33 u34 u35 u36 u37 u38 u39 u40 u41 u42 u43 u44 u45 u46 u47 u48 u49 u50 u51 u52 u53 u54 u55 u56 u57 u58 u59 u60 u61 u62 u63 u64 u65 u66 u67 u68 u69 u70 u71 u72 u73 u74 u75 u76 u77 u78 u79 u80 u81 u82 u83 u84 u85 u86 u87 u88 u89 u90 u91 u92 u93 u94 u95 u96 u97 u98 u99 u100 u101 u102 u103 u104 u105 u106 u107 u108 u109 u110 u111 u112 u113 u114 u115 u116 u117 u118 u119 u120 u121 u122 u123 u124 u125 u126 u127 u128 u129 u130 u131 u132 u133 u134 u135 u136 u137 u138 u139 u140 u141 u142 u143 u144 u145 u146 u147 u148 u149 u150 u151 u152 u153 u154 u155 u156 u157 u158 u159 u160 u161 u162 u163 u164 u165 u166 u167 u168 u169 u170 u171 u172 u173 u174 u175 u176 u177 u178 u179 u180 u181 u182 u183 u184 u185 u186 u187 u188 u189 u190 u191 u192 u193 u194 u195 u196 u197 u198 u199 u200 u201 u202 u203 u204 u205 u206 u207 u208 u209 u210 u211 u212 u213 u214 u215 u216 u217 u218 u219 u220 u221 u222 u223 u224 u225 u226 u227 u228 u229 u230 u231 u232 u233 u234 u235 u236 u237 u238 u239 u240 u241 u242 u243 u244 u245 u246 u247 u248 u249 u250 u251 u252 u253 u254 u255 u256 u257 u258 u259 u260 u261 u262 u263 u264 u265 u266 u267 u268 u269 u270 u271 u272 u273 u274 u275 u276 u277 u278 u279 u280 u281 u282 u283 u284 u285 u286 u287 u288 u289 u290 u291 u292 u293 u294 u295 u296 u297 u298 u299 u300 u301 u302 u303 u304 u305 u306 u307 u308 u309 u310 u311 u312 u313 u314 u315 u316 u317 u318 u319 u320 u321 u322 u323 u324 u325 u326 u327 u328 u329 u330 u331 : Value) (R : Ending → World → Prop) (ls0 : List Nat) (ms bs : List Value) (vl vt : Value) (L : List Nat) (w wc : World) (hn3 : L.length ≤ 3024) (hl0 : ls0.length = 19) (hms : ms.length = 269) (hbs : bs.length = 288)
    (hmf : MF w H LB C nl nd (clA ls0 (ms ++ bs)) vl L vt N (frqK (tk L) (tk L).length) wc)
    (HF : Hid (∀ (u5 u6 u7 u8 u9 u10 u11 u12 u13 u14 u15 u16 u17 u18 u19 u20 u21 u22 u23 u24 u25 u26 u27 u28 u29 u30 u31 u32 u33 u34 u35 u36 u37 u38 u39 u40 u41 u42 u43 u44 u45 u46 u47 u48 u49 u50 u51 u52 u53 u54 u55 u56 u57 u58 u59 u60 u61 u62 u63 u64 u65 u66 u67 u68 u69 u70 u71 u72 u73 u74 u75 u76 u77 u78 u79 u80 u81 u82 u83 u84 u85 u86 u87 u88 u89 u90 u91 u92 u93 u94 u95 u96 u97 u98 u99 u100 u101 u102 u103 u104 u105 u106 u107 u108 u109 u110 u111 u112 u113 u114 u115 u116 u117 u118 u119 u120 u121 u122 u123 u124 u125 u126 u127 u128 u129 u130 u131 u132 u133 u134 u135 u136 u137 u138 u139 u140 u141 u142 u143 u144 u145 u146 u147 u148 u149 u150 u151 u152 u153 u154 u155 u156 u157 u158 u159 u160 u161 u162 u163 u164 u165 u166 u167 u168 u169 u170 u171 u172 u173 u174 u175 u176 u177 u178 u179 u180 u181 u182 u183 u184 u185 u186 u187 u188 u189 u190 u191 u192 u193 u194 u195 u196 u197 u198 u199 u200 u201 u202 u203 u204 u205 u206 u207 u208 u209 u210 u211 u212 u213 u214 u215 u216 u217 u218 u219 u220 u221 u222 u223 u224 u225 u226 u227 u228 u229 u230 u231 u232 u233 u234 u235 u236 u237 u238 u239 u240 u241 u242 u243 u244 u245 u246 u247 u248 u249 u250 u251 u252 u253 u254 u255 u256 u257 u258 u259 u260 u261 u262 u263 u264 u265 u266 u267 u268 u269 u270 u271 u272 u273 u274 u275 u276 u277 u278 u279 u280 u281 u282 u283 u284 u285 u286 u287 u288 u289 u290 u291 u292 u293 u294 u295 u296 u297 u298 u299 u300 u301 u302 u303 u304 u305 u306 u307 u308 u309 u310 u311 u312 u313 u314 u315 u316 u317 u318 u319 u320 u321 u322 u323 u324 u325 u326 u327 u328 u329 u330 u331 : Value) (zs : List Nat) (bs : List Value) (wr : World), LI (two (frqK (tk L) (tk L).length)) zs 12 → (∀ t, t < zs.length → dpt zs t ≤ 7) → bs.length = 288 → ME w H LB C (hcA nl nd 0 0 vl vt) (clA (setK zs (dpt zs) zeroL zs.length) (List.replicate 269 (.int .u8 0) ++ bs)) vl L vt wr → Code.wp Ybad.prog (nthC 12 (bodyOf Ybad.f6)) (bodyPost Ybad.prog Ybad.f6 R) ⟨#[.pointer (some ⟨H, 0, none⟩), .slice (some ⟨g1, 0, none⟩) n1 c1, .slice (some ⟨g2, 0, none⟩) n2 c2, .pointer (some ⟨LB, 0, none⟩), .pointer (some ⟨C, 0, none⟩), u5, u6, u7, u8, u9, u10, u11, u12, u13, u14, u15, u16, u17, u18, u19, u20, u21, u22, u23, u24, u25, u26, u27, u28, u29, u30, u31, u32, u33, u34, u35, u36, u37, u38, u39, u40, u41, u42, u43, u44, u45, u46, u47, u48, u49, u50, u51, u52, u53, u54, u55, u56, u57, u58, u59, u60, u61, u62, u63, u64, u65, u66, u67, u68, u69, u70, u71, u72, u73, u74, u75, u76, u77, u78, u79, u80, u81, u82, u83, u84, u85, u86, u87, u88, u89, u90, u91, u92, u93, u94, u95, u96, u97, u98, u99, u100, u101, u102, u103, u104, u105, u106, u107, u108, u109, u110, u111, u112, u113, u114, u115, u116, u117, u118, u119, u120, u121, u122, u123, u124, u125, u126, u127, u128, u129, u130, u131, u132, u133, u134, u135, u136, u137, u138, u139, u140, u141, u142, u143, u144, u145, u146, u147, u148, u149, u150, u151, u152, u153, u154, u155, u156, u157, u158, u159, u160, u161, u162, u163, u164, u165, u166, u167, u168, u169, u170, u171, u172, u173, u174, u175, u176, u177, u178, u179, u180, u181, u182, u183, u184, u185, u186, u187, u188, u189, u190, u191, u192, u193, u194, u195, u196, u197, u198, u199, u200, u201, u202, u203, u204, u205, u206, u207, u208, u209, u210, u211, u212, u213, u214, u215, u216, u217, u218, u219, u220, u221, u222, u223, u224, u225, u226, u227, u228, u229, u230, u231, u232, u233, u234, u235, u236, u237, u238, u239, u240, u241, u242, u243, u244, u245, u246, u247, u248, u249, u250, u251, u252, u253, u254, u255, u256, u257, u258, u259, u260, u261, u262, u263, u264, u265, u266, u267, u268, u269, u270, u271, u272, u273, u274, u275, u276, u277, u278, u279, u280, u281, u282, u283, u284, u285, u286, u287, u288, u289, u290, u291, u292, u293, u294, u295, u296, u297, u298, u299, u300, u301, u302, u303, u304, u305, u306, u307, u308, u309, u310, u311, u312, u313, u314, u315, u316, u317, u318, u319, u320, u321, u322, u323, u324, u325, u326, u327, u328, u329, u330, u331], []⟩ wr)) :
    Code.wp Ybad.prog (nthC 9 (bodyOf Ybad.f6)) (bodyPost Ybad.prog Ybad.f6 R) ⟨#[.pointer (some ⟨H, 0, none⟩), .slice (some ⟨g1, 0, none⟩) n1 c1, .slice (some ⟨g2, 0, none⟩) n2 c2, .pointer (some ⟨LB, 0, none⟩), .pointer (some ⟨C, 0, none⟩), u5, u6, u7, u8, u9, u10, u11, u12, u13, u14, .pointer (some ⟨N, 0, none⟩), u16, u17, u18, u19, u20, u21, u22, u23, u24, u25, u26, u27, u28, u29, u30, u31, u32, u33, u34, u35, u36, u37, u38, u39, u40, u41, u42, u43, u44, u45, u46, u47, u48, u49, u50, u51, u52, u53, u54, u55, u56, u57, u58, u59, u60, u61, u62, u63, u64, u65, u66, u67, u68, u69, u70, u71, u72, u73, u74, u75, u76, u77, u78, u79, u80, u81, u82, u83, u84, u85, u86, u87, u88, u89, u90, u91, u92, u93, u94, u95, u96, u97, u98, u99, u100, u101, u102, u103, u104, u105, u106, u107, u108, u109, u110, u111, u112, u113, u114, u115, u116, u117, u118, u119, u120, u121, u122, u123, u124, u125, u126, u127, u128, u129, u130, u131, u132, u133, u134, u135, u136, u137, u138, u139, u140, u141, u142, u143, u144, u145, u146, u147, u148, u149, u150, u151, u152, u153, u154, u155, u156, u157, u158, u159, u160, u161, u162, u163, u164, u165, u166, u167, u168, u169, u170, u171, u172, u173, u174, u175, u176, u177, u178, u179, u180, u181, u182, u183, u184, u185, u186, u187, u188, u189, u190, u191, u192, u193, u194, u195, u196, u197, u198, u199, u200, u201, u202, u203, u204, u205, u206, u207, u208, u209, u210, u211, u212, u213, u214, u215, u216, u217, u218, u219, u220, u221, u222, u223, u224, u225, u226, u227, u228, u229, u230, u231, u232, u233, u234, u235, u236, u237, u238, u239, u240, u241, u242, u243, u244, u245, u246, u247, u248, u249, u250, u251, u252, u253, u254, u255, u256, u257, u258, u259, u260, u261, u262, u263, u264, u265, u266, u267, u268, u269, u270, u271, u272, u273, u274, u275, u276, u277, u278, u279, u280, u281, u282, u283, u284, u285, u286, u287, u288, u289, u290, u291, u292, u293, u294, u295, u296, u297, u298, u299, u300, u301, u302, u303, u304, u305, u306, u307, u308, u309, u310, u311, u312, u313, u314, u315, u316, u317, u318, u319, u320, u321, u322, u323, u324, u325, u326, u327, u328, u329, u330, u331], []⟩ wc := by
  have HMF : Hid (MF w H LB C nl nd (clA ls0 (ms ++ bs)) vl L vt N (frqK (tk L) (tk L).length) wc) := hmf
  obtain ⟨fs, hfs⟩ : ∃ fs, fs = frqK (tk L) (tk L).length := ⟨_, rfl⟩
  have hfl : fs.length = 19 := by rw [hfs]; exact frqK_len _ _
  have hfb : ∀ s, fs.getD s 0 ≤ 4096 := fun s => by rw [hfs]; have h1 := frqK_le (tk L) (tk L).length s; have h2 := tk_len L; omega
  rw [← hfs] at HMF HF
  have H1 : Hid (Calls Ybad.prog 11 _ _ _) := two_any N 53 fs wc HMF.out.nb hfl hfb
  have HFB : Hid (∀ s, fs.getD s 0 ≤ 4096) := hfb
  have HFL : Hid (fs.length = 19) := hfl
  clear hmf hfs hfb hfl
  conv => arg 2; whnf
  go_wp2_with fail
  refine H1.out.mono ?_
  rintro e w1 ⟨rfl, hN1, hg1⟩
  dsimp only
  have HN1 : Hid (w1.heap[N]? = some (.cells (fA (two fs)) 53 (0, 0))) := hN1
  have HG1 : Hid (wc.grownBy w1 (some N)) := hg1
  have HNL : Hid (N ≠ LB ∧ N ≠ C) := by have h1 := HMF.out.lo; have h2 := HMF.out.t.k.lt; exact ⟨by omega, by omega⟩
  have HB : Hid (Calls Ybad.prog 12 _ _ _) := build_any LB C N 288 53 (.slice none 0 0) (two fs) ls0 (ms ++ bs) w1.drew hl0
    (by show w1.heap[LB]? = _; rw [HG1.out.block LB (Nat.lt_of_lt_of_le HMF.out.t.k.lt.2.1 HMF.out.t.k.size) (by simpa using Ne.symm HNL.out.1)]; exact HMF.out.t.k.lb)
    (by show w1.heap[C]? = _; rw [HG1.out.block C (Nat.lt_of_lt_of_le HMF.out.t.k.lt.2.2 HMF.out.t.k.size) (by simpa using Ne.symm HNL.out.2)]; exact HMF.out.t.k.co)
    HN1.out (two_len fs HFL.out) (by decide) (two_le fs 4096 HFB.out (by decide)) (two_two fs HFL.out) (by decide)
  clear H1 hN1 hg1
  go_upto_region 39 with fail
  go_cut [] (fun wx => BuildTo LB C (two fs) (ms ++ bs) w1.drew wx)
  case first =>
    go_region_with (go_at_call 12; refine HB.out.mono ?_; rintro e w2 ⟨rfl, hb2⟩)
    all_goals go_wp2_with fail
    go_meet
    case rel => exact hb2
  case rest =>
    obtain ⟨zs, hli, hle, hco2, hkp⟩ := hcut
    have HLI : Hid (LI (two fs) zs 12 ∧ ∀ t, t < zs.length → dpt zs t ≤ 7) := ⟨hli, hle⟩
    have HKP : Hid (Keep w1.drew.heap.size LB C w1.drew wc) := hkp
    have HA : Hid (Calls Ybad.prog 13 _ _ _) := asg_any C 288 (setK zs (dpt zs) zeroL zs.length) ms bs wc (by rw [setK_len]; rfl) hms hbs (setK_le zs (dpt zs) 7 hle zs.length (Nat.le_refl _)) (by decide) hco2
    have HG2 : Hid (∀ wA, MF w H LB C nl nd (clA ls0 (ms ++ bs)) vl L vt N fs wA → wA.grownBy w1 (some N) → ∀ w3 ca', wc.grownBy w3 (some C) → w3.heap[C]? = some (.cells ca' 38 (0, 0)) → ME w H LB C (hcA nl nd 0 0 vl vt) ca' vl L vt w3) := fun wA hA hgA w3 ca' hg3 hc3 =>
      ME.of hA (w1 := w1.drew) ⟨hgA.os, hgA.tape, hgA.output, hgA.size, hgA.block⟩ HKP.out hg3 hc3
    have HG3 : Hid (∀ w3 ca', wc.grownBy w3 (some C) → w3.heap[C]? = some (.cells ca' 38 (0, 0)) → ME w H LB C (hcA nl nd 0 0 vl vt) ca' vl L vt w3) := HG2.out _ HMF.out HG1.out
    clear hli hle hco2 hkp HG2 HKP HB HMF HG1 HN1
    go_upto_region 40 with fail
    go_cut [] (fun wx => ∃ bs' : List Value, bs'.length = 288 ∧ ME w H LB C (hcA nl nd 0 0 vl vt) (clA (setK zs (dpt zs) zeroL zs.length) (List.replicate 269 (.int .u8 0) ++ bs')) vl L vt wx)
    case first =>
      go_wp2_with fail
      refine HA.out.mono ?_
      rintro e w3 ⟨rfl, bs', hb', hc3, hg3⟩
      have HEN : Hid (∃ bs' : List Value, bs'.length = 288 ∧ ME w H LB C (hcA nl nd 0 0 vl vt) (clA (setK zs (dpt zs) zeroL zs.length) (List.replicate 269 (.int .u8 0) ++ bs')) vl L vt w3) := ⟨bs', hb', HG3.out w3 _ hg3 hc3⟩
      clear hb' hc3 hg3 HA
      go_wp2_with fail
      go_meet
      case rel => exact HEN.out
    case rest =>
      obtain ⟨bs', hb', hme⟩ := hcut
      clear HA
      rename_i hK
      exact hK _ _ (HF.out _ _ _ _ _ _ _ _ _ _ _ _ _ _ _ _ _ _ _ _ _ _ _ _ _ _ _ _ _ _ _ _ _ _ _ _ _ _ _ _ _ _ _ _ _ _ _ _ _ _ _ _ _ _ _ _ _ _ _ _ _ _ _ _ _ _ _ _ _ _ _ _ _ _ _ _ _ _ _ _ _ _ _ _ _ _ _ _ _ _ _ _ _ _ _ _ _ _ _ _ _ _ _ _ _ _ _ _ _ _ _ _ _ _ _ _ _ _ _ _ _ _ _ _ _ _ _ _ _ _ _ _ _ _ _ _ _ _ _ _ _ _ _ _ _ _ _ _ _ _ _ _ _ _ _ _ _ _ _ _ _ _ _ _ _ _ _ _ _ _ _ _ _ _ _ _ _ _ _ _ _ _ _ _ _ _ _ _ _ _ _ _ _ _ _ _ _ _ _ _ _ _ _ _ _ _ _ _ _ _ _ _ _ _ _ _ _ _ _ _ _ _ _ _ _ _ _ _ _ _ _ _ _ _ _ _ _ _ _ _ _ _ _ _ _ _ _ _ _ _ _ _ _ _ _ _ _ _ _ _ _ _ _ _ _ _ _ _ _ _ _ _ _ _ _ _ _ _ _ _ _ _ _ _ _ _ _ _ _ _ _ _ _ _ _ _ _ _ _ _ _ _ _ _ _ _ _ _ _ _ _ _ _ _ _ _ _ _ _ _ _ _ _ _ _ _ _ zs bs' _ HLI.out.1 HLI.out.2 hb' hme)
end Go.Proofs.YbulkccziDoor
