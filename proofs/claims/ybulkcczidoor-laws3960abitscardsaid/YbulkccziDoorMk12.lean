import Derived.Test.YbulkccziDoorMk5
namespace Go.Proofs.YbulkccziDoor
open Go.RowKit
def ordL : List Nat := [16, 17, 18, 0, 8, 7, 9, 6, 10, 5, 11, 4, 12, 3, 13, 2, 14, 1, 15]
theorem ordL_lt : ∀ t : Fin 19, ordL.getD t.val 0 < 19 := by decide
def ncl (ls : List Nat) : Nat → Nat
  | 0 => 0
  | k + 1 => if 4 < k + 1 ∧ ls.getD (ordL.getD k 0) 0 = 0 then ncl ls k else k + 1
theorem ncl_go {ls : List Nat} {k : Nat} (h1 : 4 < k + 1) (h2 : ls.getD (ordL.getD k 0) 0 = 0) : ncl ls (k + 1) = ncl ls k := by rw [ncl, if_pos ⟨h1, h2⟩]
theorem ncl_stop {ls : List Nat} {k : Nat} (h : ¬ (4 < k ∧ ls.getD (ordL.getD (k - 1) 0) 0 = 0)) : ncl ls k = k := by
  cases k with
  | zero => rfl
  | succ k => rw [ncl, if_neg (by simpa using h)]
theorem ME.seth {w : World} {H LB C : Nat} {hc ca : Array Value} {vl : Value} {L : List Nat} {vt : Value} {wr : World} (h : ME w H LB C hc ca vl L vt wr) (i : Nat) (v : Value) : ME w H LB C (hc.setIfInBounds i v) ca vl L vt (wr.setCell ⟨H, i, none⟩ v) := by
  have hne : H ≠ C := by have h1 := h.hh; have h2 := h.co; intro e; subst e; simp_all
  exact ⟨heap_setCell_same' _ _ _ _ _ _ h.hh, by rw [Below.heap_setCell _ _ _ _ (by simpa using Ne.symm hne)]; exact h.co, h.os, h.tape, h.output, by simpa [World.setCell] using h.size,
    fun k k1 k2 k3 k4 => (Below.heap_setCell _ _ _ _ (by simpa using k2)).trans (h.blk k k1 k2 k3 k4), h.lt, ownsRow_setCell_below h.ll h.lt.1 _, ownsRow_setCell_below h.tt h.lt.1 _⟩
theorem ME.drewN {w : World} {H LB C : Nat} {hc ca : Array Value} {vl : Value} {L : List Nat} {vt : Value} {wr : World} (h : ME w H LB C hc ca vl L vt wr) (q : Nat) : ME w H LB C hc ca vl L vt (wr.drewN q) :=
  ⟨h.hh, h.co, h.os, h.tape, h.output, h.size, h.blk, h.lt, h.ll, h.tt⟩
/-- codeLenOrder, as the program lays it. -/
structure Ord (w : World) (H LB C : Nat) : Prop where
  c : ∀ t, t < 19 → w.cell? ⟨0, t, none⟩ = some (.int .u8 ((ordL.getD t 0 : Nat) : Int))
  ne : 0 ≠ H ∧ 0 ≠ LB ∧ 0 ≠ C
theorem Ord.at {w : World} {H LB C : Nat} {hc ca : Array Value} {vl : Value} {L : List Nat} {vt : Value} {wr : World} (o : Ord w H LB C) (h : ME w H LB C hc ca vl L vt wr) {t : Nat} (ht : t < 19) : wr.cell? ⟨0, t, none⟩ = some (.int .u8 ((ordL.getD t 0 : Nat) : Int)) := by
  rw [World.cell?_of_block (a := ⟨0, t, none⟩) (w := w) (h.blk 0 (by have := h.lt.1; omega) o.ne.1 o.ne.2.1 o.ne.2.2)]
  exact o.c t ht
set_option maxRecDepth 8000 in
set_option maxHeartbeats 32000000 in
theorem mk_ncl (H LB C g1 c1 g2 c2 n1 n2 nl nd : Nat) (u5 u6 u7 u8 u9 u10 u11 u12 u13 u14 u15 u16 u17 u18 u19 u20 u21 u22 u23 u24 u25 u26 u27 u28 u29 u30 u31 u32 u33 u34 u35 u36 u37 u38 u39 u40 u41 u42 u43 u44 u45 u46 u47 u48 u49 u50 u51 u52 u53 u54 u55 u56 u57 u58 u59 u60 u61 u62 u63 u64 u65 u66 u67 u68 u69 u70 u71 u72 u73 u74 u75 u76 u77 u78 u79 u80 u81 u82 u83 u84 u85 u86 u87 u88 u89 u90 u91 u92 u93 u94 u95 u96 u97 u98 u99 u100 u101 u102 u103 u104 u105 u106 u107 u108 u109 u110 u111 u112 u113 u114 u115 u116 u117 u118 u119 u120 u121 u122 u123 u124 u125 u126 u127 u128 u129 u130 u131 u132 u133 u134 u135 u136 u137 u138 u139 u140 u141 u142 u143 u144 u145 u146 u147 u148 u149 u150 u151 u152 u153 u154 u155 u156 u157 u158 u159 u160 u161 u162 u163 u164 u165 u166 u167 u168 u169 u170 u171 u172 u173 u174 u175 u176 u177 u178 u179 u180 u181 u182 u183 u184 u185 u186 u187 u188 u189 u190 u191 u192 u193 u194 u195 u196 u197 u198 u199 u200 u201 u202 u203 u204 u205 u206 u207 u208 u209 u210 u211 u212 u213 u214 u215 u216 u217 u218 u219 u220 u221 u222 u223 u224 u225 u226 u227 u228 u229 u230 u231 u232 u233 u234 u235 u236 u237 u238 u239 u240 u241 u242 u243 u244 u245 u246 u247 u248 u249 u250 u251 u252 u253 u254 u255 u256 u257 u258 u259 u260 u261 u262 u263 u264 u265 u266 u267 u268 u269 u270 u271 u272 u273 u274 u275 u276 u277 u278 u279 u280 u281 u282 u283 u284 u285 u286 u287 u288 u289 u290 u291 u292 u293 u294 u295 u296 u297 u298 u299 u300 u301 u302 u303 u304 u305 u306 u307 u308 u309 u310 u311 u312 u313 u314 u315 u316 u317 u318 u319 u320 u321 u322 u323 u324 u325 u326 u327 u328 u329 u330 u331 : Value) (R : Ending → World → Prop) (ls : List Nat) (rest : List Value) (vl vt : Value) (L : List Nat) (w wc : World) (hls : ls.length = 19) (ho : Ord w H LB C)
    (hme : ME w H LB C (hcA nl nd 0 0 vl vt) (clA ls rest) vl L vt wc)
    (HF : Hid (∀ (u5 u6 u7 u8 u9 u10 u11 u12 u13 u14 u15 u16 u17 u18 u19 u20 u21 u22 u23 u24 u25 u26 u27 u28 u29 u30 u31 u32 u33 u34 u35 u36 u37 u38 u39 u40 u41 u42 u43 u44 u45 u46 u47 u48 u49 u50 u51 u52 u53 u54 u55 u56 u57 u58 u59 u60 u61 u62 u63 u64 u65 u66 u67 u68 u69 u70 u71 u72 u73 u74 u75 u76 u77 u78 u79 u80 u81 u82 u83 u84 u85 u86 u87 u88 u89 u90 u91 u92 u93 u94 u95 u96 u97 u98 u99 u100 u101 u102 u103 u104 u105 u106 u107 u108 u109 u110 u111 u112 u113 u114 u115 u116 u117 u118 u119 u120 u121 u122 u123 u124 u125 u126 u127 u128 u129 u130 u131 u132 u133 u134 u135 u136 u137 u138 u139 u140 u141 u142 u143 u144 u145 u146 u147 u148 u149 u150 u151 u152 u153 u154 u155 u156 u157 u158 u159 u160 u161 u162 u163 u164 u165 u166 u167 u168 u169 u170 u171 u172 u173 u174 u175 u176 u177 u178 u179 u180 u181 u182 u183 u184 u185 u186 u187 u188 u189 u190 u191 u192 u193 u194 u195 u196 u197 u198 u199 u200 u201 u202 u203 u204 u205 u206 u207 u208 u209 u210 u211 u212 u213 u214 u215 u216 u217 u218 u219 u220 u221 u222 u223 u224 u225 u226 u227 u228 u229 u230 u231 u232 u233 u234 u235 u236 u237 u238 u239 u240 u241 u242 u243 u244 u245 u246 u247 u248 u249 u250 u251 u252 u253 u254 u255 u256 u257 u258 u259 u260 u261 u262 u263 u264 u265 u266 u267 u268 u269 u270 u271 u272 u273 u274 u275 u276 u277 u278 u279 u280 u281 u282 u283 u284 u285 u286 u287 u288 u289 u290 u291 u292 u293 u294 u295 u296 u297 u298 u299 u300 u301 u302 u303 u304 u305 u306 u307 u308 u309 u310 u311 u312 u313 u314 u315 u316 u317 u318 u319 u320 u321 u322 u323 u324 u325 u326 u327 u328 u329 u330 u331 : Value) (wr : World), ME w H LB C (hcA nl nd (ncl ls 19) 0 vl vt) (clA ls rest) vl L vt wr → Code.wp Ybad.prog (nthC 14 (bodyOf Ybad.f6)) (bodyPost Ybad.prog Ybad.f6 R) ⟨#[.pointer (some ⟨H, 0, none⟩), .slice (some ⟨g1, 0, none⟩) n1 c1, .slice (some ⟨g2, 0, none⟩) n2 c2, .pointer (some ⟨LB, 0, none⟩), .pointer (some ⟨C, 0, none⟩), u5, u6, u7, u8, u9, u10, u11, u12, u13, u14, u15, u16, u17, u18, u19, u20, u21, u22, u23, u24, u25, u26, u27, u28, u29, u30, u31, u32, u33, u34, u35, u36, u37, u38, u39, u40, u41, u42, u43, u44, u45, u46, u47, u48, u49, u50, u51, u52, u53, u54, u55, u56, u57, u58, u59, u60, u61, u62, u63, u64, u65, u66, u67, u68, u69, u70, u71, u72, u73, u74, u75, u76, u77, u78, u79, u80, u81, u82, u83, u84, u85, u86, u87, u88, u89, u90, u91, u92, u93, u94, u95, u96, u97, u98, u99, u100, u101, u102, u103, u104, u105, u106, u107, u108, u109, u110, u111, u112, u113, u114, u115, u116, u117, u118, u119, u120, u121, u122, u123, u124, u125, u126, u127, u128, u129, u130, u131, u132, u133, u134, u135, u136, u137, u138, u139, u140, u141, u142, u143, u144, u145, u146, u147, u148, u149, u150, u151, u152, u153, u154, u155, u156, u157, u158, u159, u160, u161, u162, u163, u164, u165, u166, u167, u168, u169, u170, u171, u172, u173, u174, u175, u176, u177, u178, u179, u180, u181, u182, u183, u184, u185, u186, u187, u188, u189, u190, u191, u192, u193, u194, u195, u196, u197, u198, u199, u200, u201, u202, u203, u204, u205, u206, u207, u208, u209, u210, u211, u212, u213, u214, u215, u216, u217, u218, u219, u220, u221, u222, u223, u224, u225, u226, u227, u228, u229, u230, u231, u232, u233, u234, u235, u236, u237, u238, u239, u240, u241, u242, u243, u244, u245, u246, u247, u248, u249, u250, u251, u252, u253, u254, u255, u256, u257, u258, u259, u260, u261, u262, u263, u264, u265, u266, u267, u268, u269, u270, u271, u272, u273, u274, u275, u276, u277, u278, u279, u280, u281, u282, u283, u284, u285, u286, u287, u288, u289, u290, u291, u292, u293, u294, u295, u296, u297, u298, u299, u300, u301, u302, u303, u304, u305, u306, u307, u308, u309, u310, u311, u312, u313, u314, u315, u316, u317, u318, u319, u320, u321, u322, u323, u324, u325, u326, u327, u328, u329, u330, u331], []⟩ wr)) :
    Code.wp Ybad.prog (nthC 12 (bodyOf Ybad.f6)) (bodyPost Ybad.prog Ybad.f6 R) ⟨#[.pointer (some ⟨H, 0, none⟩), .slice (some ⟨g1, 0, none⟩) n1 c1, .slice (some ⟨g2, 0, none⟩) n2 c2, .pointer (some ⟨LB, 0, none⟩), .pointer (some ⟨C, 0, none⟩), u5, u6, u7, u8, u9, u10, u11, u12, u13, u14, u15, u16, u17, u18, u19, u20, u21, u22, u23, u24, u25, u26, u27, u28, u29, u30, u31, u32, u33, u34, u35, u36, u37, u38, u39, u40, u41, u42, u43, u44, u45, u46, u47, u48, u49, u50, u51, u52, u53, u54, u55, u56, u57, u58, u59, u60, u61, u62, u63, u64, u65, u66, u67, u68, u69, u70, u71, u72, u73, u74, u75, u76, u77, u78, u79, u80, u81, u82, u83, u84, u85, u86, u87, u88, u89, u90, u91, u92, u93, u94, u95, u96, u97, u98, u99, u100, u101, u102, u103, u104, u105, u106, u107, u108, u109, u110, u111, u112, u113, u114, u115, u116, u117, u118, u119, u120, u121, u122, u123, u124, u125, u126, u127, u128, u129, u130, u131, u132, u133, u134, u135, u136, u137, u138, u139, u140, u141, u142, u143, u144, u145, u146, u147, u148, u149, u150, u151, u152, u153, u154, u155, u156, u157, u158, u159, u160, u161, u162, u163, u164, u165, u166, u167, u168, u169, u170, u171, u172, u173, u174, u175, u176, u177, u178, u179, u180, u181, u182, u183, u184, u185, u186, u187, u188, u189, u190, u191, u192, u193, u194, u195, u196, u197, u198, u199, u200, u201, u202, u203, u204, u205, u206, u207, u208, u209, u210, u211, u212, u213, u214, u215, u216, u217, u218, u219, u220, u221, u222, u223, u224, u225, u226, u227, u228, u229, u230, u231, u232, u233, u234, u235, u236, u237, u238, u239, u240, u241, u242, u243, u244, u245, u246, u247, u248, u249, u250, u251, u252, u253, u254, u255, u256, u257, u258, u259, u260, u261, u262, u263, u264, u265, u266, u267, u268, u269, u270, u271, u272, u273, u274, u275, u276, u277, u278, u279, u280, u281, u282, u283, u284, u285, u286, u287, u288, u289, u290, u291, u292, u293, u294, u295, u296, u297, u298, u299, u300, u301, u302, u303, u304, u305, u306, u307, u308, u309, u310, u311, u312, u313, u314, u315, u316, u317, u318, u319, u320, u321, u322, u323, u324, u325, u326, u327, u328, u329, u330, u331], []⟩ wc := by
  have q2 := cellAt hme.hh 2 (.int .i64 ((0 : Nat) : Int)) rfl
  have q2f := frozenAt hme.hh 2
  have H0 : Hid (ME w H LB C (hcA nl nd 19 0 vl vt) (clA ls rest) vl L vt (wc.setCell ⟨H, 2, none⟩ (.int .i64 19))) := hme.seth 2 _
  have HO : Hid (Ord w H LB C) := ho
  clear hme ho
  conv => arg 2; whnf
  go_upto_block 16 with fail
  go_cut [] (fun wx => ME w H LB C (hcA nl nd (ncl ls 19) 0 vl vt) (clA ls rest) vl L vt wx)
  case first =>
    go_wp2_with fail
    go_loopg [] 19 (fun gk wr => gk ≤ 19 ∧ Hid (ncl ls gk = ncl ls 19) ∧ Hid (ME w H LB C (hcA nl nd gk 0 vl vt) (clA ls rest) vl L vt wr))
    case atStart => exact ⟨Nat.le_refl _, rfl, H0.out⟩
    case round =>
      clear H0 q2 q2f
      obtain ⟨hgk, HT, HM⟩ := hrel
      have q2 := cellAt HM.out.hh 2 (.int .i64 (gk : Int)) rfl
      go_upto_region 42 with fail
      go_cut [285] (fun vt2 wx => ∃ (tt : Bool) (q : Nat), vt2 = .bool tt ∧ Hid (tt = true ↔ (4 < gk ∧ ls.getD (ordL.getD (gk - 1) 0) 0 = 0)) ∧ wx = wr.drewN q)
      case first =>
        rcases Nat.lt_or_ge 4 gk with hb | hb
        · obtain ⟨k, hk⟩ : ∃ k, gk = k + 1 := ⟨gk - 1, by omega⟩
          have hk1 : (gk : Int) - 1 = (k : Int) := by omega
          have hk9 : k < 19 := by omega
          obtain ⟨o, hoo⟩ : ∃ o, o = ordL.getD k 0 := ⟨_, rfl⟩
          have ho9 : o < 19 := by rw [hoo]; exact ordL_lt ⟨k, hk9⟩
          have hco : wr.cell? ⟨0, k, none⟩ = some (.int .u8 (o : Int)) := by rw [hoo]; exact HO.out.at HM.out hk9
          obtain ⟨y, hy⟩ : ∃ y, y = ls.getD o 0 := ⟨_, rfl⟩
          have hcy : wr.cell? ⟨C, o, none⟩ = some (.int .u8 (y : Int)) := by
            have h1 : o < ls.length := by omega
            rw [hy, show ls.getD o 0 = ls[o] from by simp [List.getD, h1]]
            exact cellAt HM.out.co o _ (clA_at ls rest o h1)
          have HK2 : Hid (gk - 1 = k ∧ y = ls.getD (ordL.getD k 0) 0) := ⟨by omega, by rw [← hoo]; exact hy⟩
          have ho8 : (o : Int) < 288 := by omega
          have hk8 : (k : Int) < 19 := by omega
          have hb1 : (4 : Int) < (gk : Int) := by omega
          clear hk hy hoo
          go_quiet (first | fail)
          go_wp2_with fail
          go_meet
          case rel => exact ⟨_, _, rfl, by show _ ↔ _; rw [HK2.out.1, ← HK2.out.2]; simp [hb], rfl⟩
        · have hb1 : ¬ 4 < gk := by omega
          have hb2 : decide (4 < gk) = false := decide_eq_false hb1
          have hb3 : decide ((4 : Int) < (gk : Int)) = false := decide_eq_false (by omega)
          go_quiet (first | fail)
          go_wp2_with fail
          go_meet
          case rel => exact ⟨_, _, rfl, by show _ ↔ _; simp [hb1], rfl⟩
      case rest =>
        obtain ⟨tt, q, rfl, HTT, hwc⟩ := hcut
        have HM3 : Hid (ME w H LB C (hcA nl nd gk 0 vl vt) (clA ls rest) vl L vt wc) := by rw [hwc]; exact HM.out.drewN q
        clear hwc q2 HM
        have q2 := cellAt HM3.out.hh 2 (.int .i64 (gk : Int)) rfl
        have q2f := frozenAt HM3.out.hh 2
        cases tt with
        | true =>
          have ht := HTT.out.1 rfl
          obtain ⟨k, hk⟩ : ∃ k, gk = k + 1 := ⟨gk - 1, by omega⟩
          have hk1 : (gk : Int) - 1 = (k : Int) := by omega
          have HT2 : Hid (k ≤ 19 ∧ ncl ls k = ncl ls 19) := ⟨by omega, by rw [← HT.out, hk, ncl_go (by omega) (by rw [hk] at ht; simpa using ht.2)]⟩
          have HM2 : Hid (ME w H LB C (hcA nl nd k 0 vl vt) (clA ls rest) vl L vt (wc.setCell ⟨H, 2, none⟩ (.int .i64 (k : Int)))) := HM3.out.seth 2 _
          have HKG : Hid (k < gk) := by show k < gk; omega
          clear hk ht HTT
          go_wp2_with fail
          go_roundg k
          case measure => exact HKG.out
          case rel => exact ⟨HT2.out.1, HT2.out.2, HM2.out⟩
        | false =>
          have HNL : Hid (gk = ncl ls 19) := by
            show _ = _
            rw [← HT.out, ncl_stop (fun h => by have := HTT.out.2 h; cases this)]
          have HE : Hid (ME w H LB C (hcA nl nd (ncl ls 19) 0 vl vt) (clA ls rest) vl L vt wc) := by rw [← HNL.out]; exact HM3.out
          clear HTT HT HNL
          go_wp2_with fail
          go_meet
          case rel => exact HE.out
  case rest =>
    clear H0 q2 q2f
    rename_i hK
    exact hK _ _ (HF.out _ _ _ _ _ _ _ _ _ _ _ _ _ _ _ _ _ _ _ _ _ _ _ _ _ _ _ _ _ _ _ _ _ _ _ _ _ _ _ _ _ _ _ _ _ _ _ _ _ _ _ _ _ _ _ _ _ _ _ _ _ _ _ _ _ _ _ _ _ _ _ _ _ _ _ _ _ _ _ _ _ _ _ _ _ _ _ _ _ _ _ _ _ _ _ _ _ _ _ _ _ _ _ _ _ _ _ _ _ _ _ _ _ _ _ _ _ _ _ _ _ _ _ _ _ _ _ _ _ _ _ _ _ _ _ _ _ _ _ _ _ _ _ _ _ _ _ _ _ _ _ _ _ _ _ _ _ _ _ _ _ _ _ _ _ _ _ _ _ _ _ _ _ _ _ _ _ _ _ _ _ _ _ _ _ _ _ _ _ _ _ _ _ _ _ _ _ _ _ _ _ _ _ _ _ _ _ _ _ _ _ _ _ _ _ _ _ _ _ _ _ _ _ _ _ _ _ _ _ _ _ _ _ _ _ _ _ _ _ _ _ _ _ _ _ _ _ _ _ _ _ _ _ _ _ _ _ _ _ _ _ _ _ _ _ _ _ _ _ _ _ _ _ _ _ _ _ _ _ _ _ _ _ _ _ _ _ _ _ _ _ _ _ _ _ _ _ _ _ _ _ _ _ _ _ _ _ _ _ _ _ _ _ _ _ _ _ _ _ _ _ _ _ _ _ _ _ _ hcut)
end Go.Proofs.YbulkccziDoor
