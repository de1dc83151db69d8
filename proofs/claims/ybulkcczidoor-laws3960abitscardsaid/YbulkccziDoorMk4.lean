import Derived.Test.YbulkccziDoorMk2
namespace Go.Proofs.YbulkccziDoor
open Go.RowKit
set_option maxRecDepth 8000 in
set_option maxHeartbeats 32000000 in
theorem mk_tok (H LB C g1 c1 g2 c2 n1 n2 nl nd n : Nat) (u5 u6 u7 u8 u9 u10 u11 u12 u13 u14 u15 u16 u17 u18 u19 u20 u21 u22 u23 u24 u25 u26 u27 u28 u29 u30 u31 u32 u33 u34 u35 u36 u37 u38 u39 u40 u41 u42 u43 u44 u45 u46 u47 u48 u49 u50 u51 u52 u53 u54 u55 u56 u57 u58 u59 u60 u61 u62 u63 u64 u65 u66 u67 u68 u69 u70 u71 u72 u73 u74 u75 u76 u77 u78 u79 u80 u81 u82 u83 u84 u85 u86 u87 u88 u89 u90 u91 u92 u93 u94 u95 u96 u97 u98 u99 u100 u101 u102 u103 u104 u105 u106 u107 u108 u109 u110 u111 u112 u113 u114 u115 u116 u117 u118 u119 u120 u121 u122 u123 u124 u125 u126 u127 u128 u129 u130 u131 u132 u133 u134 u135 u136 u137 u138 u139 u140 u141 u142 u143 u144 u145 u146 u147 u148 u149 u150 u151 u152 u153 u154 u155 u156 u157 u158 u159 u160 u161 u162 u163 u164 u165 u166 u167 u168 u169 u170 u171 u172 u173 u174 u175 u176 u177 u178 u179 u180 u181 u182 u183 u184 u185 u186 u187 u188 u189 u190 u191 u192 u193 u194 u195 u196 u197 u198 u199 u200 u201 u202 u203 u204 u205 u206 u207 u208 u209 u210 u211 u212 u213 u214 u215 u216 u217 u218 u219 u220 u221 u222 u223 u224 u225 u226 u227 u228 u229 u230 u231 u232 u233 u234 u235 u236 u237 u238 u239 u240 u241 u242 u243 u244 u245 u246 u247 u248 u249 u250 u251 u252 u253 u254 u255 u256 u257 u258 u259 u260 u261 u262 u263 u264 u265 u266 u267 u268 u269 u270 u271 u272 u273 u274 u275 u276 u277 u278 u279 u280 u281 u282 u283 u284 u285 u286 u287 u288 u289 u290 u291 u292 u293 u294 u295 u296 u297 u298 u299 u300 u301 u302 u303 u304 u305 u306 u307 u308 u309 u310 u311 u312 u313 u314 u315 u316 u317 u318 u319 u320 u321 u322 u323 u324 u325 u326 u327 u328 u329 u330 u331 : Value) (R : Ending → World → Prop) (ca : Array Value) (vl : Value) (L : List Nat) (w wc : World) (hnL : n = L.length) (hn3 : n ≤ 3024) (h16 : ∀ x ∈ L, x < 16)
    (hmk : MK w H LB C (hcA nl nd 0 0 vl (.slice none 0 0)) ca wc) (hown : wc.ownsRow w.heap.size 5 1 vl L.length (bL L))
    (HF : Hid (∀ (u5 u6 u7 u8 u9 u10 u11 u12 u13 u14 u15 u16 u17 u18 u19 u20 u21 u22 u23 u24 u25 u26 u27 u28 u29 u30 u31 u32 u33 u34 u35 u36 u37 u38 u39 u40 u41 u42 u43 u44 u45 u46 u47 u48 u49 u50 u51 u52 u53 u54 u55 u56 u57 u58 u59 u60 u61 u62 u63 u64 u65 u66 u67 u68 u69 u70 u71 u72 u73 u74 u75 u76 u77 u78 u79 u80 u81 u82 u83 u84 u85 u86 u87 u88 u89 u90 u91 u92 u93 u94 u95 u96 u97 u98 u99 u100 u101 u102 u103 u104 u105 u106 u107 u108 u109 u110 u111 u112 u113 u114 u115 u116 u117 u118 u119 u120 u121 u122 u123 u124 u125 u126 u127 u128 u129 u130 u131 u132 u133 u134 u135 u136 u137 u138 u139 u140 u141 u142 u143 u144 u145 u146 u147 u148 u149 u150 u151 u152 u153 u154 u155 u156 u157 u158 u159 u160 u161 u162 u163 u164 u165 u166 u167 u168 u169 u170 u171 u172 u173 u174 u175 u176 u177 u178 u179 u180 u181 u182 u183 u184 u185 u186 u187 u188 u189 u190 u191 u192 u193 u194 u195 u196 u197 u198 u199 u200 u201 u202 u203 u204 u205 u206 u207 u208 u209 u210 u211 u212 u213 u214 u215 u216 u217 u218 u219 u220 u221 u222 u223 u224 u225 u226 u227 u228 u229 u230 u231 u232 u233 u234 u235 u236 u237 u238 u239 u240 u241 u242 u243 u244 u245 u246 u247 u248 u249 u250 u251 u252 u253 u254 u255 u256 u257 u258 u259 u260 u261 u262 u263 u264 u265 u266 u267 u268 u269 u270 u271 u272 u273 u274 u275 u276 u277 u278 u279 u280 u281 u282 u283 u284 u285 u286 u287 u288 u289 u290 u291 u292 u293 u294 u295 u296 u297 u298 u299 u300 u301 u302 u303 u304 u305 u306 u307 u308 u309 u310 u311 u312 u313 u314 u315 u316 u317 u318 u319 u320 u321 u322 u323 u324 u325 u326 u327 u328 u329 u330 u331 : Value) (vt : Value) (wr : World), MT w H LB C nl nd ca vl L (tk L) vt wr → Code.wp Ybad.prog (nthC 7 (bodyOf Ybad.f6)) (bodyPost Ybad.prog Ybad.f6 R) ⟨#[.pointer (some ⟨H, 0, none⟩), .slice (some ⟨g1, 0, none⟩) n1 c1, .slice (some ⟨g2, 0, none⟩) n2 c2, .pointer (some ⟨LB, 0, none⟩), .pointer (some ⟨C, 0, none⟩), u5, u6, u7, u8, u9, u10, u11, u12, u13, u14, u15, u16, u17, u18, u19, u20, u21, u22, u23, u24, u25, u26, u27, u28, u29, u30, u31, u32, u33, u34, u35, u36, u37, u38, u39, u40, u41, u42, u43, u44, u45, u46, u47, u48, u49, u50, u51, u52, u53, u54, u55, u56, u57, u58, u59, u60, u61, u62, u63, u64, u65, u66, u67, u68, u69, u70, u71, u72, u73, u74, u75, u76, u77, u78, u79, u80, u81, u82, u83, u84, u85, u86, u87, u88, u89, u90, u91, u92, u93, u94, u95, u96, u97, u98, u99, u100, u101, u102, u103, u104, u105, u106, u107, u108, u109, u110, u111, u112, u113, u114, u115, u116, u117, u118, u119, u120, u121, u122, u123, u124, u125, u126, u127, u128, u129, u130, u131, u132, u133, u134, u135, u136, u137, u138, u139, u140, u141, u142, u143, u144, u145, u146, u147, u148, u149, u150, u151, u152, u153, u154, u155, u156, u157, u158, u159, u160, u161, u162, u163, u164, u165, u166, u167, u168, u169, u170, u171, u172, u173, u174, u175, u176, u177, u178, u179, u180, u181, u182, u183, u184, u185, u186, u187, u188, u189, u190, u191, u192, u193, u194, u195, u196, u197, u198, u199, u200, u201, u202, u203, u204, u205, u206, u207, u208, u209, u210, u211, u212, u213, u214, u215, u216, u217, u218, u219, u220, u221, u222, u223, u224, u225, u226, u227, u228, u229, u230, u231, u232, u233, u234, u235, u236, u237, u238, u239, u240, u241, u242, u243, u244, u245, u246, u247, u248, u249, u250, u251, u252, u253, u254, u255, u256, u257, u258, u259, u260, u261, u262, u263, u264, u265, u266, u267, u268, u269, u270, u271, u272, u273, u274, u275, u276, u277, u278, u279, u280, u281, u282, u283, u284, u285, u286, u287, u288, u289, u290, u291, u292, u293, u294, u295, u296, u297, u298, u299, u300, u301, u302, u303, u304, u305, u306, u307, u308, u309, u310, u311, u312, u313, u314, u315, u316, u317, u318, u319, u320, u321, u322, u323, u324, u325, u326, u327, u328, u329, u330, u331], []⟩ wr)) :
    Code.wp Ybad.prog (nthC 5 (bodyOf Ybad.f6)) (bodyPost Ybad.prog Ybad.f6 R) ⟨#[.pointer (some ⟨H, 0, none⟩), .slice (some ⟨g1, 0, none⟩) n1 c1, .slice (some ⟨g2, 0, none⟩) n2 c2, .pointer (some ⟨LB, 0, none⟩), .pointer (some ⟨C, 0, none⟩), u5, u6, u7, u8, u9, u10, u11, u12, u13, u14, u15, u16, u17, u18, u19, u20, u21, u22, u23, u24, u25, u26, u27, u28, u29, u30, u31, u32, u33, u34, u35, u36, u37, u38, u39, u40, u41, u42, u43, u44, u45, u46, u47, u48, u49, u50, u51, u52, u53, u54, u55, u56, u57, u58, u59, u60, u61, u62, u63, u64, u65, u66, u67, u68, u69, u70, u71, u72, u73, u74, u75, u76, u77, u78, u79, u80, u81, u82, u83, u84, u85, u86, u87, u88, u89, u90, u91, u92, u93, u94, u95, u96, u97, u98, u99, u100, u101, u102, u103, u104, u105, u106, u107, u108, u109, u110, u111, u112, u113, u114, u115, u116, u117, u118, u119, u120, u121, u122, u123, u124, u125, u126, u127, u128, u129, u130, u131, u132, u133, u134, u135, u136, u137, u138, u139, u140, u141, u142, u143, u144, u145, u146, u147, u148, u149, u150, u151, u152, u153, u154, u155, u156, u157, u158, u159, u160, u161, u162, u163, u164, u165, u166, u167, u168, u169, u170, u171, u172, u173, u174, u175, u176, u177, u178, u179, u180, u181, u182, u183, u184, u185, u186, u187, u188, u189, u190, u191, u192, u193, u194, u195, u196, u197, u198, u199, u200, u201, u202, u203, u204, u205, u206, u207, u208, u209, u210, u211, u212, u213, u214, u215, u216, u217, u218, u219, u220, u221, u222, u223, u224, u225, u226, u227, u228, u229, u230, u231, u232, u233, u234, u235, u236, u237, u238, u239, u240, u241, u242, u243, u244, u245, u246, u247, u248, u249, u250, u251, u252, u253, u254, u255, u256, u257, u258, u259, u260, u261, u262, u263, u264, u265, u266, u267, u268, u269, u270, u271, u272, u273, u274, u275, u276, u277, u278, u279, u280, u281, u282, u283, u284, u285, u286, u287, u288, u289, u290, u291, u292, u293, u294, u295, u296, u297, u298, u299, u300, u301, u302, u303, u304, u305, u306, u307, u308, u309, u310, u311, u312, u313, u314, u315, u316, u317, u318, u319, u320, u321, u322, u323, u324, u325, u326, u327, u328, u329, u330, u331], []⟩ wc := by
  have HLn : Hid (n = L.length) := hnL
  have H16 : Hid (∀ x ∈ L, x < 16) := h16
  have q4 := cellAt hmk.hh 4 (.slice none 0 0) rfl
  have q4f := frozenAt hmk.hh 4
  have HT0 : Hid (MT w H LB C nl nd ca vl L [] (.slice none 0 0) (wc.setCell ⟨H, 4, none⟩ (.slice none 0 0))) := ⟨hmk.seth 4 _, ownsRow_setCell_below hown hmk.lt.1 _, World.ownsRow_nil _ _ _ _⟩
  obtain ⟨iT, hiT, hT0, hT1, hT2⟩ := info_parts infoT
  have HIT : Hid (_ ∧ _ ∧ _ ∧ _) := ⟨hiT, hT0, hT1, hT2⟩
  clear hmk hown hnL h16 hiT hT0 hT1 hT2
  conv => arg 2; whnf
  go_upto_block 4 with fail
  go_cut [] (fun wx => ∃ vt, MT w H LB C nl nd ca vl L (tk L) vt wx)
  case first =>
    go_wp2_with fail
    go_loopg [10] n (fun gk v10 wr => ∃ (i : Nat) (done : List Tk) (vt : Value), v10 = .int .i64 i ∧ i + gk = n ∧ Hid (done ++ tk (L.drop i) = tk L) ∧ Hid (MT w H LB C nl nd ca vl L done vt wr))
    case atStart => exact ⟨0, [], _, rfl, by omega, by show _ = _; simp, HT0.out⟩
    case round =>
      clear HT0 q4 q4f
      obtain ⟨i, done, vt, rfl, hi, HD, HT⟩ := hrel
      obtain ⟨va, vc, hv⟩ := own_slice2 HT.out.tt
      subst hv
      obtain ⟨q3, q4, q4f⟩ := HT.out.cells
      rcases Nat.lt_or_ge i n with hlt | hge
      · obtain ⟨a9, lc, h9, h8, _⟩ := own_rd HT.out.ll
        rw [← HLn.out] at h9
        subst h9
        obtain ⟨g, rfl, hc⟩ := h8 i (by have := HLn.out; omega)
        have HR : Hid (Rd wr (some ⟨g, 0, none⟩) L) := h8
        obtain ⟨v, hv⟩ : ∃ v, v = L.getD i 0 := ⟨_, rfl⟩
        rw [← hv] at hc
        have hiL : i < L.length := by have := HLn.out; omega
        have hv16 : v < 16 := by
          rw [hv, show L.getD i 0 = L[i] from by simp [List.getD, hiL]]
          exact H16.out _ (List.getElem_mem hiL)
        have HV : Hid (L[i]? = some v) := by
          show _ = _
          rw [hv]; simp [List.getD, hiL]
        clear hv h8 hiL
        go_wp2_with fail
        go_loopg [12] (n - (i + 1)) (fun g2 v12 w2 => ∃ (r : Nat), v12 = .int .i64 r ∧ 0 < r ∧ i + r ≤ n ∧ g2 = n - (i + r) ∧ Hid (∀ t, i ≤ t → t < i + r → L[t]? = some v) ∧ w2 = wr)
        case atStart => exact ⟨1, rfl, by omega, by omega, rfl, fun t h1 h2 => by rw [show t = i from by omega]; exact HV.out, rfl⟩
        case round =>
          obtain ⟨r, rfl, hr0, hrn, rfl, HJ, hw2⟩ := hrel
          subst hw2
          obtain ⟨j, hj⟩ : ∃ j, j = i + r := ⟨_, rfl⟩
          have hjc : (i : Int) + (r : Int) = (j : Int) := by omega
          have hjn : j ≤ n := by omega
          have HJR : Hid (j = i + r) := hj
          rw [← hj] at HJ
          clear hj hrn
          have hcj : j < n → ∃ y : Nat, y < 256 ∧ wr.cell? ⟨g, j, none⟩ = some (.int .u8 (y : Int)) ∧ Hid (L[j]? = some y) := fun h => by
            obtain ⟨_, h1, hcj⟩ := HR.out j (by have := HLn.out; omega)
            simp at h1
            subst h1
            have h2 : j < L.length := by have := HLn.out; omega
            have h3 : L.getD j 0 = L[j] := by simp [List.getD, h2]
            have h4 := H16.out _ (List.getElem_mem h2)
            rw [h3] at hcj
            exact ⟨L[j], by omega, hcj, by show _ = _; simp [h2]⟩
          go_upto_region 12 with fail
          go_cut [141] (fun vt wx => ∃ (tt : Bool), vt = .bool tt ∧ Hid (tt = true ↔ (j < n ∧ L[j]? = some v)) ∧ wx = wr)
          case first =>
            rcases Nat.lt_or_ge j n with hjl | hjl
            · obtain ⟨y, hy, hc2, HY⟩ := hcj hjl
              clear hcj
              go_wp2_with fail
              go_meet
              case rel => exact ⟨_, rfl, by show _ ↔ _; rw [HY.out]; simp [hjl]; omega, rfl⟩
            · have hjl1 : ¬ j < n := by omega
              have hjl2 : decide (j < n) = false := decide_eq_false hjl1
              have hjl3 : decide ((j : Int) < (n : Int)) = false := decide_eq_false (by omega)
              clear hcj
              go_wp2_with fail
              go_meet
              case rel => exact ⟨_, rfl, by show _ ↔ _; simp [hjl1], rfl⟩
          case rest =>
            obtain ⟨tt, rfl, HTT, hwc⟩ := hcut
            rw [hwc]
            clear hwc hcj
            cases tt with
            | true =>
              have hjl : j < n := (HTT.out.1 rfl).1
              have HJV : Hid (L[j]? = some v) := (HTT.out.1 rfl).2
              go_wp2_with fail
              go_roundg (n - (j + 1))
              case measure => have := HJR.out; omega
              case rel => exact ⟨r + 1, by go_num, by omega, by (have := HJR.out; omega), by (have := HJR.out; omega), fun t h1 h2 => by
                have := HJR.out
                rcases Nat.lt_or_ge t j with h | h
                · exact HJ.out t h1 h
                · rw [show t = j from by omega]; exact HJV.out, rfl⟩
            | false =>
              have HEND : Hid (tk (L.drop i) = runT v (j - i) ++ tk (L.drop j)) := tk_run (by have := HJR.out; omega) HJ.out (fun h => by
                have h9 := (List.getElem?_eq_some_iff.1 h).1
                have h8 := HTT.out.2 ⟨by have := HLn.out; omega, h⟩
                cases h8)
              have HD2 : Hid (done ++ (runT v r ++ tk (L.drop j)) = tk L) := by
                show _ = _
                have h1 := HEND.out
                rw [show j - i = r from by have := HJR.out; omega] at h1
                rw [← h1]; exact HD.out
              clear HJ HEND HD HTT
              generalize hTL : tk (L.drop j) = TL at *
              have HTL : Hid (tk (L.drop j) = TL) := hTL
              clear hTL
              have hrb : r ≤ 3024 := by have := HJR.out; omega
              go_upto_if 148 with fail
              go_cut [12, 148] (fun v12 _ wx => ∃ (r : Nat) (done : List Tk) (vt : Value), v12 = .int .i64 r ∧ r ≤ 3024 ∧ Hid (done ++ (List.replicate r (v, 0) ++ TL) = tk L) ∧ Hid (MT w H LB C nl nd ca (.slice (some ⟨g, 0, none⟩) n lc) L done vt wx))
              case first => as_aux_lemma =>
                rcases Nat.eq_zero_or_pos v with hv0 | hv0
                · subst hv0
                  have HD3 : Hid (done ++ (zTok r ++ TL) = tk L) := HD2.out
                  clear HD2
                  go_wp2_with fail
                  go_loopg [12] r (fun g3 v12 w3 => ∃ (done : List Tk) (vt : Value), v12 = .int .i64 g3 ∧ g3 ≤ 3024 ∧ Hid (done ++ (zTok g3 ++ TL) = tk L) ∧ Hid (MT w H LB C nl nd ca (.slice (some ⟨g, 0, none⟩) n lc) L done vt w3))
                  case atStart => exact ⟨done, _, rfl, hrb, HD3.out, HT.out⟩
                  case round =>
                    clear HD3 HT q3 q4 q4f
                    obtain ⟨done2, vt, rfl, hg3, HD3, HT⟩ := hrel
                    obtain ⟨va, vc, hv⟩ := own_slice2 HT.out.tt
                    subst hv
                    obtain ⟨q3, q4, q4f⟩ := HT.out.cells
                    have HLN : Hid (done2.length ≤ 3024) := by show _ ≤ _; have h1 := tk_len L; have h2 := congrArg List.length HD3.out; simp only [List.length_append] at h2; have := HLn.out; omega
                    by_cases h11 : 11 ≤ gk
                    · by_cases h138 : 138 < gk
                      · have HD4 : Hid ((done2 ++ [(18, 127)]) ++ (zTok (gk - 138) ++ TL) = tk L) := by
                          show _ = _
                          rw [← HD3.out, zTok_big h11, show min gk 138 = 138 from by omega]
                          simp
                        have hs : (gk : Int) - 138 = ((gk - 138 : Nat) : Int) := by omega
                        have hmin : min (gk : Int) 138 = 138 := by omega
                        go_wp2_with (first | (at_builtin; refine wpList_append_own _ rfl _ _ 27 rfl w.heap.size 45 iT (.agg #[.int .u8 0, .int .u8 0]) 2 2 Ybad.underlying27 HIT.out.1 HIT.out.2.1 HIT.out.2.2.1 HIT.out.2.2.2 rfl (by decide) _ _ _ rfl (HT.out.tt.alloc _) ⟨_, 0, none⟩ 1 1 [.int .u8 ((18 : Nat) : Int), .int .u8 ((127 : Nat) : Int)] rfl rfl ?c1 ?c2 ?c3 ?c4 ?c5 ?_) | fail)
                        case c1 => exact cell_two_new _ _ _ _
                        case c2 => intro u hu; simp at hu; rcases hu with rfl | rfl <;> rfl
                        case c3 => have := HLN.out; unfold maxLen; omega
                        case c4 => have := HLN.out; omega
                        case c5 => have := HT.out.k.size; simp; omega
                        intro v' w8 ho hgr _
                        obtain ⟨va8, vc8, hv8⟩ := own_slice2 ho
                        subst hv8
                        have HT2 : Hid (MT w H LB C nl nd ca (.slice (some ⟨g, 0, none⟩) n lc) L (done2 ++ [(18, 127)]) _ (w8.setCell ⟨H, 4, none⟩ (.slice va8 (done2.length + 1) vc8))) := HT.out.app ho hgr
                        obtain ⟨s4, s4f⟩ := HT.out.q4 hgr
                        clear ho hgr HT q3 q4 q4f
                        go_wp2_with fail
                        go_roundg (gk - 138)
                        case measure => omega
                        case rel => exact ⟨_, _, by go_num, by omega, HD4.out, HT2.out⟩
                      · obtain ⟨y, hy⟩ : ∃ y : Nat, gk = y + 11 := ⟨gk - 11, by omega⟩
                        have hyc : (gk : Int) - 11 = (y : Int) := by omega
                        have HD4 : Hid ((done2 ++ [(18, y)]) ++ (zTok 0 ++ TL) = tk L) := by
                          show _ = _
                          rw [← HD3.out, zTok_big h11, show min gk 138 = gk from by omega, Nat.sub_self, show gk - 11 = y from by omega]
                          simp
                        have hyb : y ≤ 127 := by omega
                        have h138b : (gk : Int) ≤ 138 := by omega
                        have hmin : min (gk : Int) 138 = (gk : Int) := by omega
                        clear hy
                        go_wp2_with (first | (at_builtin; refine wpList_append_own _ rfl _ _ 27 rfl w.heap.size 45 iT (.agg #[.int .u8 0, .int .u8 0]) 2 2 Ybad.underlying27 HIT.out.1 HIT.out.2.1 HIT.out.2.2.1 HIT.out.2.2.2 rfl (by decide) _ _ _ rfl (HT.out.tt.alloc _) ⟨_, 0, none⟩ 1 1 [.int .u8 ((18 : Nat) : Int), .int .u8 ((y : Nat) : Int)] rfl rfl ?c1 ?c2 ?c3 ?c4 ?c5 ?_) | fail)
                        case c1 => exact cell_two_new _ _ _ _
                        case c2 => intro u hu; simp at hu; rcases hu with rfl | rfl <;> rfl
                        case c3 => have := HLN.out; unfold maxLen; omega
                        case c4 => have := HLN.out; omega
                        case c5 => have := HT.out.k.size; simp; omega
                        intro v' w8 ho hgr _
                        obtain ⟨va8, vc8, hv8⟩ := own_slice2 ho
                        subst hv8
                        have HT2 : Hid (MT w H LB C nl nd ca (.slice (some ⟨g, 0, none⟩) n lc) L (done2 ++ [(18, y)]) _ (w8.setCell ⟨H, 4, none⟩ (.slice va8 (done2.length + 1) vc8))) := HT.out.app ho hgr
                        obtain ⟨s4, s4f⟩ := HT.out.q4 hgr
                        clear ho hgr HT q3 q4 q4f
                        go_wp2_with fail
                        go_roundg 0
                        case measure => omega
                        case rel => exact ⟨_, _, by go_num, by omega, HD4.out, HT2.out⟩
                    · have h11a : decide ((11 : Int) ≤ (gk : Int)) = false := decide_eq_false (by omega)
                      have h11b : decide (11 ≤ gk) = false := decide_eq_false h11
                      by_cases h3 : 3 ≤ gk
                      · obtain ⟨y, hy⟩ : ∃ y : Nat, gk = y + 3 := ⟨gk - 3, by omega⟩
                        have hyc : (gk : Int) - 3 = (y : Int) := by omega
                        have HD4 : Hid ((done2 ++ [(17, y)]) ++ (List.replicate 0 (0, 0) ++ TL) = tk L) := by
                          show _ = _
                          rw [← HD3.out, zTok_mid h11 h3, show gk - 3 = y from by omega]
                          simp
                        have hyb : y ≤ 127 := by omega
                        clear hy
                        go_wp2_with (first | (at_builtin; refine wpList_append_own _ rfl _ _ 27 rfl w.heap.size 45 iT (.agg #[.int .u8 0, .int .u8 0]) 2 2 Ybad.underlying27 HIT.out.1 HIT.out.2.1 HIT.out.2.2.1 HIT.out.2.2.2 rfl (by decide) _ _ _ rfl (HT.out.tt.alloc _) ⟨_, 0, none⟩ 1 1 [.int .u8 ((17 : Nat) : Int), .int .u8 ((y : Nat) : Int)] rfl rfl ?c1 ?c2 ?c3 ?c4 ?c5 ?_) | fail)
                        case c1 => exact cell_two_new _ _ _ _
                        case c2 => intro u hu; simp at hu; rcases hu with rfl | rfl <;> rfl
                        case c3 => have := HLN.out; unfold maxLen; omega
                        case c4 => have := HLN.out; omega
                        case c5 => have := HT.out.k.size; simp; omega
                        intro v' w8 ho hgr _
                        obtain ⟨va8, vc8, hv8⟩ := own_slice2 ho
                        subst hv8
                        have HT2 : Hid (MT w H LB C nl nd ca (.slice (some ⟨g, 0, none⟩) n lc) L (done2 ++ [(17, y)]) _ (w8.setCell ⟨H, 4, none⟩ (.slice va8 (done2.length + 1) vc8))) := HT.out.app ho hgr
                        obtain ⟨s4, s4f⟩ := HT.out.q4 hgr
                        clear ho hgr HT q3 q4 q4f
                        go_wp2_with fail
                        go_meet
                        case rel => exact ⟨0, _, _, rfl, by omega, HD4.out, HT2.out⟩
                      · have h3a : decide ((3 : Int) ≤ (gk : Int)) = false := decide_eq_false (by omega)
                        have h3b : decide (3 ≤ gk) = false := decide_eq_false h3
                        go_wp2_with fail
                        go_meet
                        case rel => exact ⟨gk, done2, _, rfl, by omega, by (show _ = _; rw [← HD3.out, zTok_small h3]), HT.out⟩
                · have hvb1 : ((v : Int) == 0) = false := by simp; omega
                  have hvb2 : (v == 0) = false := by simp; omega
                  have HD3 : Hid ((done ++ [(v, 0)]) ++ (vTok v (r - 1) ++ TL) = tk L) := by
                    show _ = _
                    rw [← HD2.out, runT, if_neg (by omega)]
                    simp
                  have HLN : Hid (done.length ≤ 3024) := by show _ ≤ _; have h1 := tk_len L; have h2 := congrArg List.length HD2.out; simp only [List.length_append] at h2; have := HLn.out; omega
                  have hr1 : (r : Int) - 1 = ((r - 1 : Nat) : Int) := by omega
                  generalize hr9 : r - 1 = r9 at HD3 hr1
                  have hr9b : r9 ≤ 3024 := by omega
                  clear hr9
                  go_wp2_with (first | (at_builtin; refine wpList_append_own _ rfl _ _ 27 rfl w.heap.size 45 iT (.agg #[.int .u8 0, .int .u8 0]) 2 2 Ybad.underlying27 HIT.out.1 HIT.out.2.1 HIT.out.2.2.1 HIT.out.2.2.2 rfl (by decide) _ _ _ rfl (HT.out.tt.alloc _) ⟨_, 0, none⟩ 1 1 [.int .u8 ((v : Nat) : Int), .int .u8 ((0 : Nat) : Int)] rfl rfl ?c1 ?c2 ?c3 ?c4 ?c5 ?_) | fail)
                  case c1 => exact cell_two_new _ _ _ _
                  case c2 => intro u hu; simp at hu; rcases hu with rfl | rfl <;> rfl
                  case c3 => have := HLN.out; unfold maxLen; omega
                  case c4 => have := HLN.out; omega
                  case c5 => have := HT.out.k.size; simp; omega
                  intro v' w8 ho hgr _
                  obtain ⟨va8, vc8, hv8⟩ := own_slice2 ho
                  subst hv8
                  have HT2 : Hid (MT w H LB C nl nd ca (.slice (some ⟨g, 0, none⟩) n lc) L (done ++ [(v, 0)]) _ (w8.setCell ⟨H, 4, none⟩ (.slice va8 (done.length + 1) vc8))) := HT.out.app ho hgr
                  obtain ⟨s4, s4f⟩ := HT.out.q4 hgr
                  clear ho hgr HT q3 q4 q4f
                  go_wp2_with fail
                  go_loopg [12] r9 (fun g3 v12 w3 => ∃ (done : List Tk) (vt : Value), v12 = .int .i64 g3 ∧ g3 ≤ 3024 ∧ Hid (done ++ (vTok v g3 ++ TL) = tk L) ∧ Hid (MT w H LB C nl nd ca (.slice (some ⟨g, 0, none⟩) n lc) L done vt w3))
                  case atStart => exact ⟨_, _, rfl, hr9b, HD3.out, HT2.out⟩
                  case round =>
                    clear HD3 HT2 HLN s4 s4f
                    obtain ⟨done2, vt, rfl, hg3, HD3, HT⟩ := hrel
                    obtain ⟨va, vc, hv⟩ := own_slice2 HT.out.tt
                    subst hv
                    obtain ⟨q3, q4, q4f⟩ := HT.out.cells
                    have HLN : Hid (done2.length ≤ 3024) := by show _ ≤ _; have h1 := tk_len L; have h2 := congrArg List.length HD3.out; simp only [List.length_append] at h2; have := HLn.out; omega
                    by_cases h11 : 3 ≤ gk
                    · by_cases h138 : 6 < gk
                      · have HD4 : Hid ((done2 ++ [(16, 3)]) ++ (vTok v (gk - 6) ++ TL) = tk L) := by
                          show _ = _
                          rw [← HD3.out, vTok_big h11, show min gk 6 = 6 from by omega]
                          simp
                        have hs : (gk : Int) - 6 = ((gk - 6 : Nat) : Int) := by omega
                        have hmin : min (gk : Int) 6 = 6 := by omega
                        go_wp2_with (first | (at_builtin; refine wpList_append_own _ rfl _ _ 27 rfl w.heap.size 45 iT (.agg #[.int .u8 0, .int .u8 0]) 2 2 Ybad.underlying27 HIT.out.1 HIT.out.2.1 HIT.out.2.2.1 HIT.out.2.2.2 rfl (by decide) _ _ _ rfl (HT.out.tt.alloc _) ⟨_, 0, none⟩ 1 1 [.int .u8 ((16 : Nat) : Int), .int .u8 ((3 : Nat) : Int)] rfl rfl ?c1 ?c2 ?c3 ?c4 ?c5 ?_) | fail)
                        case c1 => exact cell_two_new _ _ _ _
                        case c2 => intro u hu; simp at hu; rcases hu with rfl | rfl <;> rfl
                        case c3 => have := HLN.out; unfold maxLen; omega
                        case c4 => have := HLN.out; omega
                        case c5 => have := HT.out.k.size; simp; omega
                        intro v' w8 ho hgr _
                        obtain ⟨va8, vc8, hv8⟩ := own_slice2 ho
                        subst hv8
                        have HT2 : Hid (MT w H LB C nl nd ca (.slice (some ⟨g, 0, none⟩) n lc) L (done2 ++ [(16, 3)]) _ (w8.setCell ⟨H, 4, none⟩ (.slice va8 (done2.length + 1) vc8))) := HT.out.app ho hgr
                        obtain ⟨s4, s4f⟩ := HT.out.q4 hgr
                        clear ho hgr HT q3 q4 q4f
                        go_wp2_with fail
                        go_roundg (gk - 6)
                        case measure => omega
                        case rel => exact ⟨_, _, by go_num, by omega, HD4.out, HT2.out⟩
                      · obtain ⟨y, hy⟩ : ∃ y : Nat, gk = y + 3 := ⟨gk - 3, by omega⟩
                        have hyc : (gk : Int) - 3 = (y : Int) := by omega
                        have HD4 : Hid ((done2 ++ [(16, y)]) ++ (vTok v 0 ++ TL) = tk L) := by
                          show _ = _
                          rw [← HD3.out, vTok_big h11, show min gk 6 = gk from by omega, Nat.sub_self, show gk - 3 = y from by omega]
                          simp
                        have hyb : y ≤ 127 := by omega
                        have h138b : (gk : Int) ≤ 6 := by omega
                        have hmin : min (gk : Int) 6 = (gk : Int) := by omega
                        clear hy
                        go_wp2_with (first | (at_builtin; refine wpList_append_own _ rfl _ _ 27 rfl w.heap.size 45 iT (.agg #[.int .u8 0, .int .u8 0]) 2 2 Ybad.underlying27 HIT.out.1 HIT.out.2.1 HIT.out.2.2.1 HIT.out.2.2.2 rfl (by decide) _ _ _ rfl (HT.out.tt.alloc _) ⟨_, 0, none⟩ 1 1 [.int .u8 ((16 : Nat) : Int), .int .u8 ((y : Nat) : Int)] rfl rfl ?c1 ?c2 ?c3 ?c4 ?c5 ?_) | fail)
                        case c1 => exact cell_two_new _ _ _ _
                        case c2 => intro u hu; simp at hu; rcases hu with rfl | rfl <;> rfl
                        case c3 => have := HLN.out; unfold maxLen; omega
                        case c4 => have := HLN.out; omega
                        case c5 => have := HT.out.k.size; simp; omega
                        intro v' w8 ho hgr _
                        obtain ⟨va8, vc8, hv8⟩ := own_slice2 ho
                        subst hv8
                        have HT2 : Hid (MT w H LB C nl nd ca (.slice (some ⟨g, 0, none⟩) n lc) L (done2 ++ [(16, y)]) _ (w8.setCell ⟨H, 4, none⟩ (.slice va8 (done2.length + 1) vc8))) := HT.out.app ho hgr
                        obtain ⟨s4, s4f⟩ := HT.out.q4 hgr
                        clear ho hgr HT q3 q4 q4f
                        go_wp2_with fail
                        go_roundg 0
                        case measure => omega
                        case rel => exact ⟨_, _, by go_num, by omega, HD4.out, HT2.out⟩
                    · have h11a : decide ((3 : Int) ≤ (gk : Int)) = false := decide_eq_false (by omega)
                      have h11b : decide (3 ≤ gk) = false := decide_eq_false h11
                      go_wp2_with fail
                      go_meet
                      case rel => exact ⟨gk, done2, _, rfl, by omega, by (show _ = _; rw [← HD3.out, vTok_small h11]), HT.out⟩
              case rest =>
                clear HD2 HT q3 q4 q4f
                obtain ⟨r5, done5, vt5, rfl, hr5, HD5, HT5⟩ := hcut
                go_wp2_with fail
                go_loopg [12] r5 (fun g3 v12 w3 => ∃ (done : List Tk) (vt : Value), v12 = .int .i64 g3 ∧ g3 ≤ 3024 ∧ Hid (done ++ (List.replicate g3 (v, 0) ++ TL) = tk L) ∧ Hid (MT w H LB C nl nd ca (.slice (some ⟨g, 0, none⟩) n lc) L done vt w3))
                case atStart => exact ⟨done5, _, rfl, hr5, HD5.out, HT5.out⟩
                case round =>
                  clear HD5 HT5
                  obtain ⟨done2, vt, rfl, hg3, HD3, HT⟩ := hrel
                  obtain ⟨va, vc, hv⟩ := own_slice2 HT.out.tt
                  subst hv
                  obtain ⟨q3, q4, q4f⟩ := HT.out.cells
                  have HLN : Hid (done2.length ≤ 3024) := by show _ ≤ _; have h1 := tk_len L; have h2 := congrArg List.length HD3.out; simp only [List.length_append] at h2; have := HLn.out; omega
                  rcases Nat.eq_zero_or_pos gk with h0 | h0
                  · subst h0
                    have HD4 : Hid (done2 ++ tk (L.drop j) = tk L) := by show _ = _; rw [HTL.out]; simpa using HD3.out
                    go_wp2_with fail
                    go_roundg (n - j)
                    case measure => have := HJR.out; omega
                    case rel => exact ⟨j, done2, _, rfl, by omega, HD4.out, HT.out⟩
                  · have HD4 : Hid ((done2 ++ [(v, 0)]) ++ (List.replicate (gk - 1) (v, 0) ++ TL) = tk L) := by
                      show _ = _
                      rw [← HD3.out, show gk = gk - 1 + 1 from by omega, List.replicate_succ]
                      simp
                    have h0a : (0 : Int) < (gk : Int) := by omega
                    have hs : (gk : Int) - 1 = ((gk - 1 : Nat) : Int) := by omega
                    go_wp2_with (first | (at_builtin; refine wpList_append_own _ rfl _ _ 27 rfl w.heap.size 45 iT (.agg #[.int .u8 0, .int .u8 0]) 2 2 Ybad.underlying27 HIT.out.1 HIT.out.2.1 HIT.out.2.2.1 HIT.out.2.2.2 rfl (by decide) _ _ _ rfl (HT.out.tt.alloc _) ⟨_, 0, none⟩ 1 1 [.int .u8 ((v : Nat) : Int), .int .u8 ((0 : Nat) : Int)] rfl rfl ?c1 ?c2 ?c3 ?c4 ?c5 ?_) | fail)
                    case c1 => exact cell_two_new _ _ _ _
                    case c2 => intro u hu; simp at hu; rcases hu with rfl | rfl <;> rfl
                    case c3 => have := HLN.out; unfold maxLen; omega
                    case c4 => have := HLN.out; omega
                    case c5 => have := HT.out.k.size; simp; omega
                    intro v' w8 ho hgr _
                    obtain ⟨va8, vc8, hv8⟩ := own_slice2 ho
                    subst hv8
                    have HT2 : Hid (MT w H LB C nl nd ca (.slice (some ⟨g, 0, none⟩) n lc) L (done2 ++ [(v, 0)]) _ (w8.setCell ⟨H, 4, none⟩ (.slice va8 (done2.length + 1) vc8))) := HT.out.app ho hgr
                    obtain ⟨s4, s4f⟩ := HT.out.q4 hgr
                    clear ho hgr HT q3 q4 q4f
                    go_wp2_with fail
                    go_roundg (gk - 1)
                    case measure => omega
                    case rel => exact ⟨_, _, by go_num, by omega, HD4.out, HT2.out⟩
      · obtain ⟨la, lc, hlv⟩ := own_slice2 HT.out.ll
        rw [← HLn.out] at hlv
        subst hlv
        have hin : i = n := by omega
        have HE : Hid (MT w H LB C nl nd ca (.slice la n lc) L (tk L) (.slice va done.length vc) wr) := by
          have h1 : done = tk L := by rw [← HD.out, hin, HLn.out, List.drop_length, tk_nil, List.append_nil]
          rw [← h1]; exact HT.out
        clear hin
        go_wp2_with fail
        go_meet
        case rel => exact ⟨_, HE.out⟩
  case rest =>
    obtain ⟨vt, hmt⟩ := hcut
    clear HT0
    rename_i hK
    exact hK _ _ (HF.out _ _ _ _ _ _ _ _ _ _ _ _ _ _ _ _ _ _ _ _ _ _ _ _ _ _ _ _ _ _ _ _ _ _ _ _ _ _ _ _ _ _ _ _ _ _ _ _ _ _ _ _ _ _ _ _ _ _ _ _ _ _ _ _ _ _ _ _ _ _ _ _ _ _ _ _ _ _ _ _ _ _ _ _ _ _ _ _ _ _ _ _ _ _ _ _ _ _ _ _ _ _ _ _ _ _ _ _ _ _ _ _ _ _ _ _ _ _ _ _ _ _ _ _ _ _ _ _ _ _ _ _ _ _ _ _ _ _ _ _ _ _ _ _ _ _ _ _ _ _ _ _ _ _ _ _ _ _ _ _ _ _ _ _ _ _ _ _ _ _ _ _ _ _ _ _ _ _ _ _ _ _ _ _ _ _ _ _ _ _ _ _ _ _ _ _ _ _ _ _ _ _ _ _ _ _ _ _ _ _ _ _ _ _ _ _ _ _ _ _ _ _ _ _ _ _ _ _ _ _ _ _ _ _ _ _ _ _ _ _ _ _ _ _ _ _ _ _ _ _ _ _ _ _ _ _ _ _ _ _ _ _ _ _ _ _ _ _ _ _ _ _ _ _ _ _ _ _ _ _ _ _ _ _ _ _ _ _ _ _ _ _ _ _ _ _ _ _ _ _ _ _ _ _ _ _ _ _ _ _ _ _ _ _ _ _ _ _ _ _ _ _ _ _ _ _ _ vt wc hmt)
end Go.Proofs.YbulkccziDoor
