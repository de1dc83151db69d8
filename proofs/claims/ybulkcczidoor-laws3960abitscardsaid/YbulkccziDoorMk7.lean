import Derived.Test.YbulkccziDoorMk3
namespace Go.Proofs.YbulkccziDoor
open Go.RowKit
set_option maxRecDepth 8000 in
set_option maxHeartbeats 32000000 in
theorem mk_frq (H LB C g1 c1 g2 c2 n1 n2 nl nd : Nat) (u5 u6 u7 u8 u9 u10 u11 u12 u13 u14 u15 u16 u17 u18 u19 u20 u21 u22 u23 u24 u25 u26 u27 u28 u29 u30 u31 u32 u33 u34 u35 u36 u37 u38 u39 u40 u41 u42 u43 u44 u45 u46 u47 u48 u49 u50 u51 u52 u53 u54 u55 u56 u57 u58 u59 u60 u61 u62 u63 u64 u65 u66 u67 u68 u69 u70 u71 u72 u73 u74 u75 u76 u77 u78 u79 u80 u81 u82 u83 u84 u85 u86 u87 u88 u89 u90 u91 u92 u93 u94 u95 u96 u97 u98 u99 u100 u101 u102 u103 u104 u105 u106 u107 u108 u109 u110 u111 u112 u113 u114 u115 u116 u117 u118 u119 u120 u121 u122 u123 u124 u125 u126 u127 u128 u129 u130 u131 u132 u133 u134 u135 u136 u137 u138 u139 u140 u141 u142 u143 u144 u145 u146 u147 u148 u149 u150 u151 u152 u153 u154 u155 u156 u157 u158 u159 u160 u161 u162 u163 u164 u165 u166 u167 u168 u169 u170 u171 u172 u173 u174 u175 u176 u177 u178 u179 u180 u181 u182 u183 u184 u185 u186 u187 u188 u189 u190 u191 u192 u193 u194 u195 u196 u197 u198 u199 u200 u201 u202 u203 u204 u205 u206 u207 u208 u209 u210 u211 u212 u213 u214 u215 u216 u217 u218 u219 u220 u221 u222 u223 u224 u225 u226 u227 u228 u229 u230 u231 u232 u233 u234 u235 u236 u237 u238 u239 u240 u241 u242 u243 u244 u245 u246 u247 u248 u249 u250 u251 u252 u253 u254 u255 u256 u257 u258 u259 u260 u261 u262 u263 u264 u265 u266 u267 u268 u269 u270 u271 u272 u273 u274 u275 u276 u277 u278 u279 u280 u281 u282 u283 u284 u285 u286 u287 u288 u289 u290 u291 u292 u293 u294 u295 u296 u297 u298 u299 u300 u301 u302 u303 u304 u305 u306 u307 u308 u309 u310 u311 u312 u313 u314 u315 u316 u317 u318 u319 u320 u321 u322 u323 u324 u325 u326 u327 u328 u329 u330 u331 : Value) (R : Ending → World → Prop) (ca : Array Value) (vl vt : Value) (L : List Nat) (w wc : World) (hn3 : L.length ≤ 3024) (h16 : ∀ x ∈ L, x < 16)
    (hmt : MT w H LB C nl nd ca vl L (tk L) vt wc)
    (HF : Hid (∀ (u5 u6 u7 u8 u9 u10 u11 u12 u13 u14 u16 u17 u18 u19 u20 u21 u22 u23 u24 u25 u26 u27 u28 u29 u30 u31 u32 u33 u34 u35 u36 u37 u38 u39 u40 u41 u42 u43 u44 u45 u46 u47 u48 u49 u50 u51 u52 u53 u54 u55 u56 u57 u58 u59 u60 u61 u62 u63 u64 u65 u66 u67 u68 u69 u70 u71 u72 u73 u74 u75 u76 u77 u78 u79 u80 u81 u82 u83 u84 u85 u86 u87 u88 u89 u90 u91 u92 u93 u94 u95 u96 u97 u98 u99 u100 u101 u102 u103 u104 u105 u106 u107 u108 u109 u110 u111 u112 u113 u114 u115 u116 u117 u118 u119 u120 u121 u122 u123 u124 u125 u126 u127 u128 u129 u130 u131 u132 u133 u134 u135 u136 u137 u138 u139 u140 u141 u142 u143 u144 u145 u146 u147 u148 u149 u150 u151 u152 u153 u154 u155 u156 u157 u158 u159 u160 u161 u162 u163 u164 u165 u166 u167 u168 u169 u170 u171 u172 u173 u174 u175 u176 u177 u178 u179 u180 u181 u182 u183 u184 u185 u186 u187 u188 u189 u190 u191 u192 u193 u194 u195 u196 u197 u198 u199 u200 u201 u202 u203 u204 u205 u206 u207 u208 u209 u210 u211 u212 u213 u214 u215 u216 u217 u218 u219 u220 u221 u222 u223 u224 u225 u226 u227 u228 u229 u230 u231 u232 u233 u234 u235 u236 u237 u238 u239 u240 u241 u242 u243 u244 u245 u246 u247 u248 u249 u250 u251 u252 u253 u254 u255 u256 u257 u258 u259 u260 u261 u262 u263 u264 u265 u266 u267 u268 u269 u270 u271 u272 u273 u274 u275 u276 u277 u278 u279 u280 u281 u282 u283 u284 u285 u286 u287 u288 u289 u290 u291 u292 u293 u294 u295 u296 u297 u298 u299 u300 u301 u302 u303 u304 u305 u306 u307 u308 u309 u310 u311 u312 u313 u314 u315 u316 u317 u318 u319 u320 u321 u322 u323 u324 u325 u326 u327 u328 u329 u330 u331 : Value) (N : Nat) (wr : World), MF w H LB C nl nd ca vl L vt N (frqK (tk L) (tk L).length) wr → Code.wp Ybad.prog (nthC 9 (bodyOf Ybad.f6)) (bodyPost Ybad.prog Ybad.f6 R) ⟨#[.pointer (some ⟨H, 0, none⟩), .slice (some ⟨g1, 0, none⟩) n1 c1, .slice (some ⟨g2, 0, none⟩) n2 c2, .pointer (some ⟨LB, 0, none⟩), .pointer (some ⟨C, 0, none⟩), u5, u6, u7, u8, u9, u10, u11, u12, u13, u14, .pointer (some ⟨N, 0, none⟩), u16, u17, u18, u19, u20, u21, u22, u23, u24, u25, u26, u27, u28, u29, u30, u31, u32, u33, u34, u35, u36, u37, u38, u39, u40, u41, u42, u43, u44, u45, u46, u47, u48, u49, u50, u51, u52, u53, u54, u55, u56, u57, u58, u59, u60, u61, u62, u63, u64, u65, u66, u67, u68, u69, u70, u71, u72, u73, u74, u75, u76, u77, u78, u79, u80, u81, u82, u83, u84, u85, u86, u87, u88, u89, u90, u91, u92, u93, u94, u95, u96, u97, u98, u99, u100, u101, u102, u103, u104, u105, u106, u107, u108, u109, u110, u111, u112, u113, u114, u115, u116, u117, u118, u119, u120, u121, u122, u123, u124, u125, u126, u127, u128, u129, u130, u131, u132, u133, u134, u135, u136, u137, u138, u139, u140, u141, u142, u143, u144, u145, u146, u147, u148, u149, u150, u151, u152, u153, u154, u155, u156, u157, u158, u159, u160, u161, u162, u163, u164, u165, u166, u167, u168, u169, u170, u171, u172, u173, u174, u175, u176, u177, u178, u179, u180, u181, u182, u183, u184, u185, u186, u187, u188, u189, u190, u191, u192, u193, u194, u195, u196, u197, u198, u199, u200, u201, u202, u203, u204, u205, u206, u207, u208, u209, u210, u211, u212, u213, u214, u215, u216, u217, u218, u219, u220, u221, u222, u223, u224, u225, u226, u227, u228, u229, u230, u231, u232, u233, u234, u235, u236, u237, u238, u239, u240, u241, u242, u243, u244, u245, u246, u247, u248, u249, u250, u251, u252, u253, u254, u255, u256, u257, u258, u259, u260, u261, u262, u263, u264, u265, u266, u267, u268, u269, u270, u271, u272, u273, u274, u275, u276, u277, u278, u279, u280, u281, u282, u283, u284, u285, u286, u287, u288, u289, u290, u291, u292, u293, u294, u295, u296, u297, u298, u299, u300, u301, u302, u303, u304, u305, u306, u307, u308, u309, u310, u311, u312, u313, u314, u315, u316, u317, u318, u319, u320, u321, u322, u323, u324, u325, u326, u327, u328, u329, u330, u331], []⟩ wr)) :
    Code.wp Ybad.prog (nthC 7 (bodyOf Ybad.f6)) (bodyPost Ybad.prog Ybad.f6 R) ⟨#[.pointer (some ⟨H, 0, none⟩), .slice (some ⟨g1, 0, none⟩) n1 c1, .slice (some ⟨g2, 0, none⟩) n2 c2, .pointer (some ⟨LB, 0, none⟩), .pointer (some ⟨C, 0, none⟩), u5, u6, u7, u8, u9, u10, u11, u12, u13, u14, u15, u16, u17, u18, u19, u20, u21, u22, u23, u24, u25, u26, u27, u28, u29, u30, u31, u32, u33, u34, u35, u36, u37, u38, u39, u40, u41, u42, u43, u44, u45, u46, u47, u48, u49, u50, u51, u52, u53, u54, u55, u56, u57, u58, u59, u60, u61, u62, u63, u64, u65, u66, u67, u68, u69, u70, u71, u72, u73, u74, u75, u76, u77, u78, u79, u80, u81, u82, u83, u84, u85, u86, u87, u88, u89, u90, u91, u92, u93, u94, u95, u96, u97, u98, u99, u100, u101, u102, u103, u104, u105, u106, u107, u108, u109, u110, u111, u112, u113, u114, u115, u116, u117, u118, u119, u120, u121, u122, u123, u124, u125, u126, u127, u128, u129, u130, u131, u132, u133, u134, u135, u136, u137, u138, u139, u140, u141, u142, u143, u144, u145, u146, u147, u148, u149, u150, u151, u152, u153, u154, u155, u156, u157, u158, u159, u160, u161, u162, u163, u164, u165, u166, u167, u168, u169, u170, u171, u172, u173, u174, u175, u176, u177, u178, u179, u180, u181, u182, u183, u184, u185, u186, u187, u188, u189, u190, u191, u192, u193, u194, u195, u196, u197, u198, u199, u200, u201, u202, u203, u204, u205, u206, u207, u208, u209, u210, u211, u212, u213, u214, u215, u216, u217, u218, u219, u220, u221, u222, u223, u224, u225, u226, u227, u228, u229, u230, u231, u232, u233, u234, u235, u236, u237, u238, u239, u240, u241, u242, u243, u244, u245, u246, u247, u248, u249, u250, u251, u252, u253, u254, u255, u256, u257, u258, u259, u260, u261, u262, u263, u264, u265, u266, u267, u268, u269, u270, u271, u272, u273, u274, u275, u276, u277, u278, u279, u280, u281, u282, u283, u284, u285, u286, u287, u288, u289, u290, u291, u292, u293, u294, u295, u296, u297, u298, u299, u300, u301, u302, u303, u304, u305, u306, u307, u308, u309, u310, u311, u312, u313, u314, u315, u316, u317, u318, u319, u320, u321, u322, u323, u324, u325, u326, u327, u328, u329, u330, u331], []⟩ wc := by
  have HT : Hid (MT w H LB C nl nd ca vl L (tk L) vt wc) := hmt
  obtain ⟨ta, tc, rfl, hrd, _, _⟩ := own_rdT hmt.tt
  have q4 := cellAt hmt.k.hh 4 (.slice ta (tk L).length tc) rfl
  obtain ⟨n, hn⟩ : ∃ n, n = (tk L).length := ⟨_, rfl⟩
  have hnb : n ≤ 3024 := by have := tk_len L; omega
  have HN : Hid (n = (tk L).length) := hn
  have HR : Hid (RdT wc ta (tk L)) := hrd
  have HOK : Hid (∀ p ∈ tk L, tOk p) := tk_ok L h16
  rw [← hn] at q4
  have hHl : H < wc.heap.size := Nat.lt_of_lt_of_le hmt.k.lt.1 hmt.k.size
  have hHn : H ≠ wc.heap.size := by omega
  have hHn2 : ¬ wc.heap.size = H := by omega
  clear hmt hn hrd h16 hn3
  have HS : Hid (MF w H LB C nl nd ca vl L (.slice ta n tc) wc.heap.size zeroL (wc.alloc (.cells (fA zeroL) 53))) := by
    have := HT.out
    rw [← HN.out] at this
    exact MF.start this
  conv => arg 2; whnf
  go_upto_block 14 with fail
  go_cut [] (fun wx => MF w H LB C nl nd ca vl L (.slice ta n tc) wc.heap.size (frqK (tk L) n) wx)
  case first =>
    go_wp2_with fail
    go_loopg [237] n (fun gk v237 wr => ∃ (k : Nat), v237 = .int .i64 k ∧ k + gk = n ∧ Hid (MF w H LB C nl nd ca vl L (.slice ta n tc) wc.heap.size (frqK (tk L) k) wr))
    case atStart => exact ⟨0, rfl, by omega, HS.out⟩
    case round =>
      clear HS q4
      obtain ⟨k, rfl, hk, HMf⟩ := hrel
      rcases Nat.lt_or_ge k n with hlt | hge
      · obtain ⟨a9, c9, h9, h8, _⟩ := own_rdT (ts := tk L) (by have := HMf.out.t.tt; exact this)
        rw [← HN.out] at h9
        simp at h9
        obtain ⟨rfl, rfl⟩ := h9
        obtain ⟨g, rfl, hc1, hc2⟩ := h8 k (by have := HN.out; omega)
        obtain ⟨s, x, hsx⟩ : ∃ s x, (tk L).getD k (0, 0) = (s, x) := ⟨_, _, rfl⟩
        rw [hsx] at hc1 hc2
        have hs18 : s ≤ 18 := by
          have h1 : k < (tk L).length := by have := HN.out; omega
          have h2 : (tk L)[k] = (s, x) := by rw [← hsx]; simp [List.getD, h1]
          have h3 := HOK.out _ (List.getElem_mem h1)
          rw [h2] at h3
          exact h3.1
        have hc1b : wr.cell? ⟨g, k * 2, none⟩ = some (.int .u8 (s : Int)) := by rw [Nat.mul_comm]; exact hc1
        have hc2b : wr.cell? ⟨g, k * 2 + 1, none⟩ = some (.int .u8 (x : Int)) := by rw [Nat.mul_comm]; exact hc2
        obtain ⟨z, hz⟩ : ∃ z, z = (frqK (tk L) k).getD s 0 := ⟨_, rfl⟩
        have hzb : z ≤ 3024 := by rw [hz]; have := frqK_le (tk L) k s; omega
        have hcz : wr.cell? ⟨wc.heap.size, s, none⟩ = some (.int .i32 (z : Int)) := by rw [hz]; exact cellAt HMf.out.nb s _ (fA_at _ s (by rw [frqK_len]; omega))
        have hczf := frozenAt HMf.out.nb s
        have hNl : wc.heap.size < wr.heap.size := (Array.getElem?_eq_some_iff.1 HMf.out.nb).1
        have hNn : wc.heap.size ≠ wr.heap.size := by omega
        have hNn2 : ¬ wr.heap.size = wc.heap.size := by omega
        have HN2 : Hid (∀ ob, MF w H LB C nl nd ca vl L (.slice (some ⟨g, 0, none⟩) n tc) wc.heap.size (frqK (tk L) (k + 1)) ((wr.setCell ⟨wc.heap.size, s, none⟩ (.int .i32 ((z : Int) + 1))).alloc ob)) := fun ob => by
          have h1 := (HMf.out.inc s (z + 1)).alloc ob
          rw [frqK, bump, hsx, ← hz]
          rw [show ((z + 1 : Nat) : Int) = (z : Int) + 1 from by omega] at h1
          exact h1
        clear hz hsx h8 hc1 hc2
        go_wp2_with fail
        go_roundg (gk - 1)
        case measure => omega
        case rel => exact ⟨k + 1, by go_num, by omega, HN2.out _⟩
      · have hkn : n = k := by omega
        subst hkn
        go_wp2_with fail
        go_meet
        case rel => exact HMf.out
  case rest =>
    clear HS q4
    rename_i hK
    rw [HN.out] at hcut
    exact hK _ _ (HF.out _ _ _ _ _ _ _ _ _ _ _ _ _ _ _ _ _ _ _ _ _ _ _ _ _ _ _ _ _ _ _ _ _ _ _ _ _ _ _ _ _ _ _ _ _ _ _ _ _ _ _ _ _ _ _ _ _ _ _ _ _ _ _ _ _ _ _ _ _ _ _ _ _ _ _ _ _ _ _ _ _ _ _ _ _ _ _ _ _ _ _ _ _ _ _ _ _ _ _ _ _ _ _ _ _ _ _ _ _ _ _ _ _ _ _ _ _ _ _ _ _ _ _ _ _ _ _ _ _ _ _ _ _ _ _ _ _ _ _ _ _ _ _ _ _ _ _ _ _ _ _ _ _ _ _ _ _ _ _ _ _ _ _ _ _ _ _ _ _ _ _ _ _ _ _ _ _ _ _ _ _ _ _ _ _ _ _ _ _ _ _ _ _ _ _ _ _ _ _ _ _ _ _ _ _ _ _ _ _ _ _ _ _ _ _ _ _ _ _ _ _ _ _ _ _ _ _ _ _ _ _ _ _ _ _ _ _ _ _ _ _ _ _ _ _ _ _ _ _ _ _ _ _ _ _ _ _ _ _ _ _ _ _ _ _ _ _ _ _ _ _ _ _ _ _ _ _ _ _ _ _ _ _ _ _ _ _ _ _ _ _ _ _ _ _ _ _ _ _ _ _ _ _ _ _ _ _ _ _ _ _ _ _ _ _ _ _ _ _ _ _ _ _ _ _ _ _ _ hcut)
end Go.Proofs.YbulkccziDoor
