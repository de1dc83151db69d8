import Derived.Test.YbulkccziDoorMk2
namespace Go.Proofs.YbulkccziDoor
open Go.RowKit
set_option maxRecDepth 8000 in
set_option maxHeartbeats 32000000 in
theorem mk_trm (H LB C g1 c1 g2 c2 n1 n2 : Nat) (u5 u6 u7 u8 u9 u10 u11 u12 u13 u14 u15 u16 u17 u18 u19 u20 u21 u22 u23 u24 u25 u26 u27 u28 u29 u30 u31 u32 u33 u34 u35 u36 u37 u38 u39 u40 u41 u42 u43 u44 u45 u46 u47 u48 u49 u50 u51 u52 u53 u54 u55 u56 u57 u58 u59 u60 u61 u62 u63 u64 u65 u66 u67 u68 u69 u70 u71 u72 u73 u74 u75 u76 u77 u78 u79 u80 u81 u82 u83 u84 u85 u86 u87 u88 u89 u90 u91 u92 u93 u94 u95 u96 u97 u98 u99 u100 u101 u102 u103 u104 u105 u106 u107 u108 u109 u110 u111 u112 u113 u114 u115 u116 u117 u118 u119 u120 u121 u122 u123 u124 u125 u126 u127 u128 u129 u130 u131 u132 u133 u134 u135 u136 u137 u138 u139 u140 u141 u142 u143 u144 u145 u146 u147 u148 u149 u150 u151 u152 u153 u154 u155 u156 u157 u158 u159 u160 u161 u162 u163 u164 u165 u166 u167 u168 u169 u170 u171 u172 u173 u174 u175 u176 u177 u178 u179 u180 u181 u182 u183 u184 u185 u186 u187 u188 u189 u190 u191 u192 u193 u194 u195 u196 u197 u198 u199 u200 u201 u202 u203 u204 u205 u206 u207 u208 u209 u210 u211 u212 u213 u214 u215 u216 u217 u218 u219 u220 u221 u222 u223 u224 u225 u226 u227 u228 u229 u230 u231 u232 u233 u234 u235 u236 u237 u238 u239 u240 u241 u242 u243 u244 u245 u246 u247 u248 u249 u250 u251 u252 u253 u254 u255 u256 u257 u258 u259 u260 u261 u262 u263 u264 u265 u266 u267 u268 u269 u270 u271 u272 u273 u274 u275 u276 u277 u278 u279 u280 u281 u282 u283 u284 u285 u286 u287 u288 u289 u290 u291 u292 u293 u294 u295 u296 u297 u298 u299 u300 u301 u302 u303 u304 u305 u306 u307 u308 u309 u310 u311 u312 u313 u314 u315 u316 u317 u318 u319 u320 u321 u322 u323 u324 u325 u326 u327 u328 u329 u330 u331 : Value) (R : Ending → World → Prop) (l1 l2 : List Nat) (ca : Array Value) (w : World) (h1 : OutRow w H LB C g1 c1 l1) (h2 : OutRow w H LB C g2 c2 l2) (hn1 : n1 = l1.length) (hn2 : n2 = l2.length) (hl1 : n1 ≤ 2000) (hl2 : n2 ≤ 1024)
    (hm : MK w H LB C (hcA 0 0 0 0 (.slice none 0 0) (.slice none 0 0)) ca w)
    (HF : Hid (∀ (u5 u6 u7 u8 u9 u10 u11 u12 u13 u14 u15 u16 u17 u18 u19 u20 u21 u22 u23 u24 u25 u26 u27 u28 u29 u30 u31 u32 u33 u34 u35 u36 u37 u38 u39 u40 u41 u42 u43 u44 u45 u46 u47 u48 u49 u50 u51 u52 u53 u54 u55 u56 u57 u58 u59 u60 u61 u62 u63 u64 u65 u66 u67 u68 u69 u70 u71 u72 u73 u74 u75 u76 u77 u78 u79 u80 u81 u82 u83 u84 u85 u86 u87 u88 u89 u90 u91 u92 u93 u94 u95 u96 u97 u98 u99 u100 u101 u102 u103 u104 u105 u106 u107 u108 u109 u110 u111 u112 u113 u114 u115 u116 u117 u118 u119 u120 u121 u122 u123 u124 u125 u126 u127 u128 u129 u130 u131 u132 u133 u134 u135 u136 u137 u138 u139 u140 u141 u142 u143 u144 u145 u146 u147 u148 u149 u150 u151 u152 u153 u154 u155 u156 u157 u158 u159 u160 u161 u162 u163 u164 u165 u166 u167 u168 u169 u170 u171 u172 u173 u174 u175 u176 u177 u178 u179 u180 u181 u182 u183 u184 u185 u186 u187 u188 u189 u190 u191 u192 u193 u194 u195 u196 u197 u198 u199 u200 u201 u202 u203 u204 u205 u206 u207 u208 u209 u210 u211 u212 u213 u214 u215 u216 u217 u218 u219 u220 u221 u222 u223 u224 u225 u226 u227 u228 u229 u230 u231 u232 u233 u234 u235 u236 u237 u238 u239 u240 u241 u242 u243 u244 u245 u246 u247 u248 u249 u250 u251 u252 u253 u254 u255 u256 u257 u258 u259 u260 u261 u262 u263 u264 u265 u266 u267 u268 u269 u270 u271 u272 u273 u274 u275 u276 u277 u278 u279 u280 u281 u282 u283 u284 u285 u286 u287 u288 u289 u290 u291 u292 u293 u294 u295 u296 u297 u298 u299 u300 u301 u302 u303 u304 u305 u306 u307 u308 u309 u310 u311 u312 u313 u314 u315 u316 u317 u318 u319 u320 u321 u322 u323 u324 u325 u326 u327 u328 u329 u330 u331 : Value) (wr : World), MK w H LB C (hcA (trimN 257 l1 n1) (trimN 1 l2 n2) 0 0 (.slice none 0 0) (.slice none 0 0)) ca wr → Code.wp Ybad.prog (nthC 4 (bodyOf Ybad.f6)) (bodyPost Ybad.prog Ybad.f6 R) ⟨#[.pointer (some ⟨H, 0, none⟩), .slice (some ⟨g1, 0, none⟩) n1 c1, .slice (some ⟨g2, 0, none⟩) n2 c2, .pointer (some ⟨LB, 0, none⟩), .pointer (some ⟨C, 0, none⟩), u5, u6, u7, u8, u9, u10, u11, u12, u13, u14, u15, u16, u17, u18, u19, u20, u21, u22, u23, u24, u25, u26, u27, u28, u29, u30, u31, u32, u33, u34, u35, u36, u37, u38, u39, u40, u41, u42, u43, u44, u45, u46, u47, u48, u49, u50, u51, u52, u53, u54, u55, u56, u57, u58, u59, u60, u61, u62, u63, u64, u65, u66, u67, u68, u69, u70, u71, u72, u73, u74, u75, u76, u77, u78, u79, u80, u81, u82, u83, u84, u85, u86, u87, u88, u89, u90, u91, u92, u93, u94, u95, u96, u97, u98, u99, u100, u101, u102, u103, u104, u105, u106, u107, u108, u109, u110, u111, u112, u113, u114, u115, u116, u117, u118, u119, u120, u121, u122, u123, u124, u125, u126, u127, u128, u129, u130, u131, u132, u133, u134, u135, u136, u137, u138, u139, u140, u141, u142, u143, u144, u145, u146, u147, u148, u149, u150, u151, u152, u153, u154, u155, u156, u157, u158, u159, u160, u161, u162, u163, u164, u165, u166, u167, u168, u169, u170, u171, u172, u173, u174, u175, u176, u177, u178, u179, u180, u181, u182, u183, u184, u185, u186, u187, u188, u189, u190, u191, u192, u193, u194, u195, u196, u197, u198, u199, u200, u201, u202, u203, u204, u205, u206, u207, u208, u209, u210, u211, u212, u213, u214, u215, u216, u217, u218, u219, u220, u221, u222, u223, u224, u225, u226, u227, u228, u229, u230, u231, u232, u233, u234, u235, u236, u237, u238, u239, u240, u241, u242, u243, u244, u245, u246, u247, u248, u249, u250, u251, u252, u253, u254, u255, u256, u257, u258, u259, u260, u261, u262, u263, u264, u265, u266, u267, u268, u269, u270, u271, u272, u273, u274, u275, u276, u277, u278, u279, u280, u281, u282, u283, u284, u285, u286, u287, u288, u289, u290, u291, u292, u293, u294, u295, u296, u297, u298, u299, u300, u301, u302, u303, u304, u305, u306, u307, u308, u309, u310, u311, u312, u313, u314, u315, u316, u317, u318, u319, u320, u321, u322, u323, u324, u325, u326, u327, u328, u329, u330, u331], []⟩ wr)) :
    Code.wp Ybad.prog (nthC 0 (bodyOf Ybad.f6)) (bodyPost Ybad.prog Ybad.f6 R) ⟨#[.pointer (some ⟨H, 0, none⟩), .slice (some ⟨g1, 0, none⟩) n1 c1, .slice (some ⟨g2, 0, none⟩) n2 c2, .pointer (some ⟨LB, 0, none⟩), .pointer (some ⟨C, 0, none⟩), u5, u6, u7, u8, u9, u10, u11, u12, u13, u14, u15, u16, u17, u18, u19, u20, u21, u22, u23, u24, u25, u26, u27, u28, u29, u30, u31, u32, u33, u34, u35, u36, u37, u38, u39, u40, u41, u42, u43, u44, u45, u46, u47, u48, u49, u50, u51, u52, u53, u54, u55, u56, u57, u58, u59, u60, u61, u62, u63, u64, u65, u66, u67, u68, u69, u70, u71, u72, u73, u74, u75, u76, u77, u78, u79, u80, u81, u82, u83, u84, u85, u86, u87, u88, u89, u90, u91, u92, u93, u94, u95, u96, u97, u98, u99, u100, u101, u102, u103, u104, u105, u106, u107, u108, u109, u110, u111, u112, u113, u114, u115, u116, u117, u118, u119, u120, u121, u122, u123, u124, u125, u126, u127, u128, u129, u130, u131, u132, u133, u134, u135, u136, u137, u138, u139, u140, u141, u142, u143, u144, u145, u146, u147, u148, u149, u150, u151, u152, u153, u154, u155, u156, u157, u158, u159, u160, u161, u162, u163, u164, u165, u166, u167, u168, u169, u170, u171, u172, u173, u174, u175, u176, u177, u178, u179, u180, u181, u182, u183, u184, u185, u186, u187, u188, u189, u190, u191, u192, u193, u194, u195, u196, u197, u198, u199, u200, u201, u202, u203, u204, u205, u206, u207, u208, u209, u210, u211, u212, u213, u214, u215, u216, u217, u218, u219, u220, u221, u222, u223, u224, u225, u226, u227, u228, u229, u230, u231, u232, u233, u234, u235, u236, u237, u238, u239, u240, u241, u242, u243, u244, u245, u246, u247, u248, u249, u250, u251, u252, u253, u254, u255, u256, u257, u258, u259, u260, u261, u262, u263, u264, u265, u266, u267, u268, u269, u270, u271, u272, u273, u274, u275, u276, u277, u278, u279, u280, u281, u282, u283, u284, u285, u286, u287, u288, u289, u290, u291, u292, u293, u294, u295, u296, u297, u298, u299, u300, u301, u302, u303, u304, u305, u306, u307, u308, u309, u310, u311, u312, u313, u314, u315, u316, u317, u318, u319, u320, u321, u322, u323, u324, u325, u326, u327, u328, u329, u330, u331], []⟩ w := by
  have H1 : Hid (OutRow w H LB C g1 c1 l1) := h1
  have H2 : Hid (OutRow w H LB C g2 c2 l2) := h2
  have HM : Hid (MK w H LB C (hcA 0 0 0 0 (.slice none 0 0) (.slice none 0 0)) ca w) := hm
  have q0 := cellAt hm.hh 0 (.int .i64 ((0 : Nat) : Int)) rfl
  have q0f := frozenAt hm.hh 0
  have HN1 : Hid (n1 = l1.length) := hn1
  have HN2 : Hid (n2 = l2.length) := hn2
  have HA0 : Hid (MK w H LB C (hcA n1 0 0 0 (.slice none 0 0) (.slice none 0 0)) ca (w.setCell ⟨H, 0, none⟩ (.int .i64 (n1 : Int)))) := hm.seth 0 _
  clear h1 h2 hm hn1 hn2
  conv => arg 2; whnf
  go_wp2_with fail
  go_loopg [] n1 (fun gk wr => gk ≤ n1 ∧ Hid (trimN 257 l1 gk = trimN 257 l1 n1) ∧ Hid (MK w H LB C (hcA gk 0 0 0 (.slice none 0 0) (.slice none 0 0)) ca wr))
  case atStart => exact ⟨Nat.le_refl _, rfl, HA0.out⟩
  case round =>
    clear HA0 q0 q0f HM
    obtain ⟨hgk, HT, HM⟩ := hrel
    have q0 := cellAt HM.out.hh 0 (.int .i64 (gk : Int)) rfl
    have q0f := frozenAt HM.out.hh 0
    go_upto_region 1 with fail
    go_cut [40] (fun vt wx => ∃ tt : Bool, vt = .bool tt ∧ Hid (tt = true ↔ (257 < gk ∧ l1.getD (gk - 1) 0 = 0)) ∧ wx = wr)
    case first =>
      rcases Nat.lt_or_ge 257 gk with hb | hb
      · obtain ⟨k, hk⟩ : ∃ k, gk = k + 1 := ⟨gk - 1, by omega⟩
        have hk1 : (gk : Int) - 1 = (k : Int) := by omega
        have hk2 : gk - 1 = k := by omega
        have hkn : k < n1 := by omega
        have hc := H1.out.at HM.out (t := k) (by have := HN1.out; omega)
        obtain ⟨y, hy⟩ : ∃ y, y = l1.getD k 0 := ⟨_, rfl⟩
        rw [← hy] at hc
        have HK2 : Hid (gk - 1 = k ∧ y = l1.getD k 0) := ⟨hk2, hy⟩
        clear hk hk2 hy
        go_wp2_with fail
        go_meet
        case rel => exact ⟨_, rfl, by show _ ↔ _; rw [HK2.out.1, ← HK2.out.2]; simp [hb], rfl⟩
      · have hb1 : ¬ 257 < gk := by omega
        have hb2 : decide (257 < gk) = false := decide_eq_false hb1
        have hb3 : decide ((257 : Int) < (gk : Int)) = false := decide_eq_false (by omega)
        go_wp2_with fail
        go_meet
        case rel => exact ⟨_, rfl, by show _ ↔ _; simp [hb1], rfl⟩
    case rest =>
      obtain ⟨tt, rfl, HTT, hwc⟩ := hcut
      rw [hwc]
      clear hwc
      cases tt with
      | true =>
        have ht := HTT.out.1 rfl
        obtain ⟨k, hk⟩ : ∃ k, gk = k + 1 := ⟨gk - 1, by omega⟩
        have hk1 : (gk : Int) - 1 = (k : Int) := by omega
        have HT2 : Hid (k ≤ n1 ∧ trimN 257 l1 k = trimN 257 l1 n1) := ⟨by omega, by rw [← HT.out, hk, trimN_go (by omega) (by rw [hk] at ht; simpa using ht.2)]⟩
        have HM2 : Hid (MK w H LB C (hcA k 0 0 0 (.slice none 0 0) (.slice none 0 0)) ca (wr.setCell ⟨H, 0, none⟩ (.int .i64 (k : Int)))) := HM.out.seth 0 _
        have HKG : Hid (k < gk) := by show k < gk; omega
        clear hk ht HTT
        go_wp2_with fail
        go_roundg k
        case measure => exact HKG.out
        case rel => exact ⟨HT2.out.1, HT2.out.2, HM2.out⟩
      | false =>
        have HNL : Hid (gk = trimN 257 l1 n1) := by
          show _ = _
          rw [← HT.out, trimN_stop (fun h => by have := HTT.out.2 h; cases this)]
        obtain ⟨nl, hnl⟩ : ∃ nl, nl = gk := ⟨_, rfl⟩
        rw [← hnl] at HM HNL hgk
        have hnl2 : Hid (nl = gk) := hnl
        have q1 := cellAt HM.out.hh 1 (.int .i64 ((0 : Nat) : Int)) rfl
        have q1f := frozenAt HM.out.hh 1
        have HA1 : Hid (MK w H LB C (hcA nl n2 0 0 (.slice none 0 0) (.slice none 0 0)) ca (wr.setCell ⟨H, 1, none⟩ (.int .i64 (n2 : Int)))) := HM.out.seth 1 _
        clear HTT HT hnl q0 q0f
        go_upto_block 2 with fail
        go_cut [] (fun wx => MK w H LB C (hcA nl (trimN 1 l2 n2) 0 0 (.slice none 0 0) (.slice none 0 0)) ca wx)
        case rest =>
          clear HA1 q1 q1f HM
          rename_i hK
          rw [HNL.out] at hcut
          exact hK _ _ (HF.out _ _ _ _ _ _ _ _ _ _ _ _ _ _ _ _ _ _ _ _ _ _ _ _ _ _ _ _ _ _ _ _ _ _ _ _ _ _ _ _ _ _ _ _ _ _ _ _ _ _ _ _ _ _ _ _ _ _ _ _ _ _ _ _ _ _ _ _ _ _ _ _ _ _ _ _ _ _ _ _ _ _ _ _ _ _ _ _ _ _ _ _ _ _ _ _ _ _ _ _ _ _ _ _ _ _ _ _ _ _ _ _ _ _ _ _ _ _ _ _ _ _ _ _ _ _ _ _ _ _ _ _ _ _ _ _ _ _ _ _ _ _ _ _ _ _ _ _ _ _ _ _ _ _ _ _ _ _ _ _ _ _ _ _ _ _ _ _ _ _ _ _ _ _ _ _ _ _ _ _ _ _ _ _ _ _ _ _ _ _ _ _ _ _ _ _ _ _ _ _ _ _ _ _ _ _ _ _ _ _ _ _ _ _ _ _ _ _ _ _ _ _ _ _ _ _ _ _ _ _ _ _ _ _ _ _ _ _ _ _ _ _ _ _ _ _ _ _ _ _ _ _ _ _ _ _ _ _ _ _ _ _ _ _ _ _ _ _ _ _ _ _ _ _ _ _ _ _ _ _ _ _ _ _ _ _ _ _ _ _ _ _ _ _ _ _ _ _ _ _ _ _ _ _ _ _ _ _ _ _ _ _ _ _ _ _ _ _ _ _ _ _ _ _ _ _ _ _ hcut)
        case first =>
        go_wp2_with fail
        go_loopg [] n2 (fun gk wr => gk ≤ n2 ∧ Hid (trimN 1 l2 gk = trimN 1 l2 n2) ∧ Hid (MK w H LB C (hcA nl gk 0 0 (.slice none 0 0) (.slice none 0 0)) ca wr))
        case atStart => exact ⟨Nat.le_refl _, rfl, HA1.out⟩
        case round =>
          clear HA1 q1 q1f HM
          obtain ⟨hgk2, HT, HM⟩ := hrel
          have q0 := cellAt HM.out.hh 1 (.int .i64 (gk : Int)) rfl
          have q0f := frozenAt HM.out.hh 1
          go_upto_region 4 with fail
          go_cut [68] (fun vt wx => ∃ tt : Bool, vt = .bool tt ∧ Hid (tt = true ↔ (1 < gk ∧ l2.getD (gk - 1) 0 = 0)) ∧ wx = wr)
          case first =>
            rcases Nat.lt_or_ge 1 gk with hb | hb
            · obtain ⟨k, hk⟩ : ∃ k, gk = k + 1 := ⟨gk - 1, by omega⟩
              have hk1 : (gk : Int) - 1 = (k : Int) := by omega
              have hk2 : gk - 1 = k := by omega
              have hkn : k < n2 := by omega
              have hc := H2.out.at HM.out (t := k) (by have := HN2.out; omega)
              obtain ⟨y, hy⟩ : ∃ y, y = l2.getD k 0 := ⟨_, rfl⟩
              rw [← hy] at hc
              have HK2 : Hid (gk - 1 = k ∧ y = l2.getD k 0) := ⟨hk2, hy⟩
              clear hk hk2 hy
              go_wp2_with fail
              go_meet
              case rel => exact ⟨_, rfl, by show _ ↔ _; rw [HK2.out.1, ← HK2.out.2]; simp [hb], rfl⟩
            · have hb1 : ¬ 1 < gk := by omega
              have hb2 : decide (1 < gk) = false := decide_eq_false hb1
              have hb3 : decide ((1 : Int) < (gk : Int)) = false := decide_eq_false (by omega)
              go_wp2_with fail
              go_meet
              case rel => exact ⟨_, rfl, by show _ ↔ _; simp [hb1], rfl⟩
          case rest =>
            obtain ⟨tt, rfl, HTT, hwc⟩ := hcut
            rw [hwc]
            clear hwc
            cases tt with
            | true =>
              have ht := HTT.out.1 rfl
              obtain ⟨k, hk⟩ : ∃ k, gk = k + 1 := ⟨gk - 1, by omega⟩
              have hk1 : (gk : Int) - 1 = (k : Int) := by omega
              have HT2 : Hid (k ≤ n2 ∧ trimN 1 l2 k = trimN 1 l2 n2) := ⟨by omega, by rw [← HT.out, hk, trimN_go (by omega) (by rw [hk] at ht; simpa using ht.2)]⟩
              have HM2 : Hid (MK w H LB C (hcA nl k 0 0 (.slice none 0 0) (.slice none 0 0)) ca (wr.setCell ⟨H, 1, none⟩ (.int .i64 (k : Int)))) := HM.out.seth 1 _
              have HKG : Hid (k < gk) := by show k < gk; omega
              clear hk ht HTT
              go_wp2_with fail
              go_roundg k
              case measure => exact HKG.out
              case rel => exact ⟨HT2.out.1, HT2.out.2, HM2.out⟩
            | false =>
              have HND : Hid (gk = trimN 1 l2 n2) := by
                show _ = _
                rw [← HT.out, trimN_stop (fun h => by have := HTT.out.2 h; cases this)]
              have HE : Hid (MK w H LB C (hcA nl (trimN 1 l2 n2) 0 0 (.slice none 0 0) (.slice none 0 0)) ca wr) := by rw [← HND.out]; exact HM.out
              go_wp2_with fail
              go_meet
              case rel => exact HE.out
end Go.Proofs.YbulkccziDoor
