import Derived.Test.YbulkccziDoorMk12
import Derived.Test.YbulkccziDoorMkL
import Derived.Test.YbulkccziDoorR48
namespace Go.Proofs.YbulkccziDoor
open Go.RowKit
def bitS (ls : List Nat) (ts : List Tk) : Nat := (ts.map (fun p => ls.getD p.1 0 + exN p.1)).sum
theorem bitS_snoc (ls : List Nat) (ts : List Tk) (p : Tk) : bitS ls (ts ++ [p]) = bitS ls ts + (ls.getD p.1 0 + exN p.1) := by simp [bitS]
theorem exN_le (s : Nat) : exN s ≤ 7 := by unfold exN; split <;> (try split) <;> (try split) <;> omega
theorem bitS_le (ls : List Nat) (h : ∀ s, ls.getD s 0 ≤ 7) : ∀ ts, bitS ls ts ≤ ts.length * 14
  | [] => by simp [bitS]
  | p :: r => by
    have h1 := bitS_le ls h r
    have h2 := h p.1
    have h3 := exN_le p.1
    have e : bitS ls (p :: r) = ls.getD p.1 0 + exN p.1 + bitS ls r := by simp [bitS]
    rw [e, List.length_cons]
    omega
theorem ME.alloc {w : World} {H LB C : Nat} {hc ca : Array Value} {vl : Value} {L : List Nat} {vt : Value} {wr : World} (h : ME w H LB C hc ca vl L vt wr) (o : Obj) : ME w H LB C hc ca vl L vt (wr.alloc o) := by
  have hs := h.size
  have hb : ∀ k, k < w.heap.size → (wr.alloc o).heap[k]? = wr.heap[k]? := fun k hk => Below.heap_alloc _ _ _ (by omega)
  exact ⟨by rw [hb _ h.lt.1]; exact h.hh, by rw [hb _ h.lt.2.2]; exact h.co, h.os, h.tape, h.output, by simp; omega, fun k k1 k2 k3 k4 => (hb k k1).trans (h.blk k k1 k2 k3 k4), h.lt, h.ll.alloc o, h.tt.alloc o⟩
set_option maxRecDepth 8000 in
set_option maxHeartbeats 32000000 in
theorem mk_bit (H LB C g1 c1 g2 c2 n1 n2 nl nd m : Nat) (u5 u6 u7 u8 u9 u10 u11 u12 u13 u14 u15 u16 u17 u18 u19 u20 u21 u22 u23 u24 u25 u26 u27 u28 u29 u30 u31 u32 u33 u34 u35 u36 u37 u38 u39 u40 u41 u42 u43 u44 u45 u46 u47 u48 u49 u50 u51 u52 u53 u54 u55 u56 u57 u58 u59 u60 u61 u62 u63 u64 u65 u66 u67 u68 u69 u70 u71 u72 u73 u74 u75 u76 u77 u78 u79 u80 u81 u82 u83 u84 u85 u86 u87 u88 u89 u90 u91 u92 u93 u94 u95 u96 u97 u98 u99 u100 u101 u102 u103 u104 u105 u106 u107 u108 u109 u110 u111 u112 u113 u114 u115 u116 u117 u118 u119 u120 u121 u122 u123 u124 u125 u126 u127 u128 u129 u130 u131 u132 u133 u134 u135 u136 u137 u138 u139 u140 u141 u142 u143 u144 u145 u146 u147 u148 u149 u150 u151 u152 u153 u154 u155 u156 u157 u158 u159 u160 u161 u162 u163 u164 u165 u166 u167 u168 u169 u170 u171 u172 u173 u174 u175 u176 u177 u178 u179 u180 u181 u182 u183 u184 u185 u186 u187 u188 u189 u190 u191 u192 u193 u194 u195 u196 u197 u198 u199 u200 u201 u202 u203 u204 u205 u206 u207 u208 u209 u210 u211 u212 u213 u214 u215 u216 u217 u218 u219 u220 u221 u222 u223 u224 u225 u226 u227 u228 u229 u230 u231 u232 u233 u234 u235 u236 u237 u238 u239 u240 u241 u242 u243 u244 u245 u246 u247 u248 u249 u250 u251 u252 u253 u254 u255 u256 u257 u258 u259 u260 u261 u262 u263 u264 u265 u266 u267 u268 u269 u270 u271 u272 u273 u274 u275 u276 u277 u278 u279 u280 u281 u282 u283 u284 u285 u286 u287 u288 u289 u290 u291 u292 u293 u294 u295 u296 u297 u298 u299 u300 u301 u302 u303 u304 u305 u306 u307 u308 u309 u310 u311 u312 u313 u314 u315 u316 u317 u318 u319 u320 u321 u322 u323 u324 u325 u326 u327 u328 u329 u330 u331 : Value) (R : Ending → World → Prop) (ls : List Nat) (rest : List Value) (vl vt : Value) (L : List Nat) (w wc : World) (hls : ls.length = 19) (hl7 : ∀ s, ls.getD s 0 ≤ 7) (hm : m ≤ 19) (hL : L.length ≤ 3024) (h16 : ∀ x ∈ L, x < 16)
    (hme : ME w H LB C (hcA nl nd m 0 vl vt) (clA ls rest) vl L vt wc)
    (HR : Hid (∀ wr, ME w H LB C (hcA nl nd m (14 + 3 * m + bitS ls (tk L)) vl vt) (clA ls rest) vl L vt wr → R (.returned (.tuple #[])) wr)) :
    Code.wp Ybad.prog (nthC 14 (bodyOf Ybad.f6)) (bodyPost Ybad.prog Ybad.f6 R) ⟨#[.pointer (some ⟨H, 0, none⟩), .slice (some ⟨g1, 0, none⟩) n1 c1, .slice (some ⟨g2, 0, none⟩) n2 c2, .pointer (some ⟨LB, 0, none⟩), .pointer (some ⟨C, 0, none⟩), u5, u6, u7, u8, u9, u10, u11, u12, u13, u14, u15, u16, u17, u18, u19, u20, u21, u22, u23, u24, u25, u26, u27, u28, u29, u30, u31, u32, u33, u34, u35, u36, u37, u38, u39, u40, u41, u42, u43, u44, u45, u46, u47, u48, u49, u50, u51, u52, u53, u54, u55, u56, u57, u58, u59, u60, u61, u62, u63, u64, u65, u66, u67, u68, u69, u70, u71, u72, u73, u74, u75, u76, u77, u78, u79, u80, u81, u82, u83, u84, u85, u86, u87, u88, u89, u90, u91, u92, u93, u94, u95, u96, u97, u98, u99, u100, u101, u102, u103, u104, u105, u106, u107, u108, u109, u110, u111, u112, u113, u114, u115, u116, u117, u118, u119, u120, u121, u122, u123, u124, u125, u126, u127, u128, u129, u130, u131, u132, u133, u134, u135, u136, u137, u138, u139, u140, u141, u142, u143, u144, u145, u146, u147, u148, u149, u150, u151, u152, u153, u154, u155, u156, u157, u158, u159, u160, u161, u162, u163, u164, u165, u166, u167, u168, u169, u170, u171, u172, u173, u174, u175, u176, u177, u178, u179, u180, u181, u182, u183, u184, u185, u186, u187, u188, u189, u190, u191, u192, u193, u194, u195, u196, u197, u198, u199, u200, u201, u202, u203, u204, u205, u206, u207, u208, u209, u210, u211, u212, u213, u214, u215, u216, u217, u218, u219, u220, u221, u222, u223, u224, u225, u226, u227, u228, u229, u230, u231, u232, u233, u234, u235, u236, u237, u238, u239, u240, u241, u242, u243, u244, u245, u246, u247, u248, u249, u250, u251, u252, u253, u254, u255, u256, u257, u258, u259, u260, u261, u262, u263, u264, u265, u266, u267, u268, u269, u270, u271, u272, u273, u274, u275, u276, u277, u278, u279, u280, u281, u282, u283, u284, u285, u286, u287, u288, u289, u290, u291, u292, u293, u294, u295, u296, u297, u298, u299, u300, u301, u302, u303, u304, u305, u306, u307, u308, u309, u310, u311, u312, u313, u314, u315, u316, u317, u318, u319, u320, u321, u322, u323, u324, u325, u326, u327, u328, u329, u330, u331], []⟩ wc := by
  have q2 := cellAt hme.hh 2 (.int .i64 (m : Int)) rfl
  have q5 := cellAt hme.hh 5 (.int .i64 ((0 : Nat) : Int)) rfl
  have q5f := frozenAt hme.hh 5
  obtain ⟨ta, tc, rfl, _, _, _⟩ := own_rdT hme.tt
  obtain ⟨n, hn⟩ : ∃ n, n = (tk L).length := ⟨_, rfl⟩
  have hnb : n ≤ 3024 := by have := tk_len L; omega
  have HN : Hid (n = (tk L).length) := hn
  rw [← hn] at hme HR
  have q4 := cellAt hme.hh 4 (.slice ta n tc) rfl
  have HOK : Hid (∀ p ∈ tk L, tOk p) := tk_ok L h16
  have HL7 : Hid (∀ s, ls.getD s 0 ≤ 7) := hl7
  obtain ⟨b0, hb0⟩ : ∃ b0, b0 = 14 + 3 * m := ⟨_, rfl⟩
  have hb0b : b0 ≤ 71 := by omega
  have hb0c : 14 + 3 * (m : Int) = (b0 : Int) := by omega
  have H0 : Hid (ME w H LB C (hcA nl nd m b0 vl (.slice ta n tc)) (clA ls rest) vl L (.slice ta n tc) (wc.setCell ⟨H, 5, none⟩ (.int .i64 (b0 : Int)))) := hme.seth 5 _
  rw [← hb0] at HR
  clear hme hn h16 hL hl7 hb0
  conv => arg 2; whnf
  go_wp2_with fail
  go_loopg [307] n (fun gk v307 wr => ∃ (k b : Nat), v307 = .int .i64 k ∧ k + gk = n ∧ b ≤ 71 + k * 14 ∧ Hid (b = b0 + bitS ls ((tk L).take k)) ∧ Hid (ME w H LB C (hcA nl nd m b vl (.slice ta n tc)) (clA ls rest) vl L (.slice ta n tc) wr))
  case atStart => exact ⟨0, b0, rfl, by omega, by omega, by show _ = _; simp [bitS], H0.out⟩
  case round =>
    clear H0 q2 q4 q5 q5f
    obtain ⟨k, b, rfl, hk, hb, HB, HM⟩ := hrel
    rcases Nat.lt_or_ge k n with hlt | hge
    · obtain ⟨a9, c9, h9, h8, _⟩ := own_rdT (ts := tk L) HM.out.tt
      rw [← HN.out] at h9
      simp at h9
      obtain ⟨rfl, rfl⟩ := h9
      obtain ⟨g, rfl, hc1, hc2⟩ := h8 k (by have := HN.out; omega)
      obtain ⟨s, x, hsx⟩ : ∃ s x, (tk L).getD k (0, 0) = (s, x) := ⟨_, _, rfl⟩
      rw [hsx] at hc1 hc2
      have hkl : k < (tk L).length := by have := HN.out; omega
      have hel : (tk L)[k] = (s, x) := by rw [← hsx]; simp [List.getD, hkl]
      have hs18 : s ≤ 18 := by
        have h3 := HOK.out _ (List.getElem_mem hkl)
        rw [hel] at h3
        exact h3.1
      have hc1b : wr.cell? ⟨g, k * 2, none⟩ = some (.int .u8 (s : Int)) := by rw [Nat.mul_comm]; exact hc1
      have hc2b : wr.cell? ⟨g, k * 2 + 1, none⟩ = some (.int .u8 (x : Int)) := by rw [Nat.mul_comm]; exact hc2
      obtain ⟨y, hy⟩ : ∃ y, y = ls.getD s 0 := ⟨_, rfl⟩
      obtain ⟨ex, hex⟩ : ∃ ex, ex = exN s := ⟨_, rfl⟩
      have hy7 : y ≤ 7 := by rw [hy]; exact HL7.out s
      have hex7 : ex ≤ 7 := by rw [hex]; exact exN_le s
      have HM1 : Hid (ME w H LB C (hcA nl nd m b vl (.slice (some ⟨g, 0, none⟩) n tc)) (clA ls rest) vl L (.slice (some ⟨g, 0, none⟩) n tc) (wr.alloc (.cells #[.int .u8 (s : Int), .int .u8 (x : Int)] 45))) := HM.out.alloc _
      have HNB : Hid ((wr.alloc (.cells #[.int .u8 (s : Int), .int .u8 (x : Int)] 45)).heap[wr.heap.size]? = some (.cells #[.int .u8 (s : Int), .int .u8 (x : Int)] 45 (0, 0))) := heap_alloc_new wr _
      have HBN : Hid (b + (y + ex) = b0 + bitS ls ((tk L).take (k + 1))) := by
        show _ = _
        rw [List.take_add_one, List.getElem?_eq_getElem hkl, hel]
        simp only [Option.toList_some]
        rw [bitS_snoc, HB.out, hy, hex]
        exact Nat.add_assoc _ _ _
      have HEX : Hid (ex = exN s) := hex
      have HYS : Hid (y = ls.getD s 0) := hy
      clear hy hex hsx h8 hc1 hc2 hkl hel
      go_upto_region 48 with fail
      have q5 := cellAt HM1.out.hh 5 (.int .i64 (b : Int)) rfl
      have q5f := frozenAt HM1.out.hh 5
      have t0 := cellAt HNB.out 0 (.int .u8 (s : Int)) rfl
      have hcy : (wr.alloc (.cells #[.int .u8 (s : Int), .int .u8 (x : Int)] 45)).cell? ⟨C, s, none⟩ = some (.int .u8 (y : Int)) := by
        have h1 : s < ls.length := by omega
        rw [HYS.out, show ls.getD s 0 = ls[s] from by simp [List.getD, h1]]
        exact cellAt HM1.out.co s _ (clA_at ls rest s h1)
      have HEND : Hid (ME w H LB C (hcA nl nd m (b + (y + ex)) vl (.slice (some ⟨g, 0, none⟩) n tc)) (clA ls rest) vl L (.slice (some ⟨g, 0, none⟩) n tc) ((wr.alloc (.cells #[.int .u8 (s : Int), .int .u8 (x : Int)] 45)).drew.setCell ⟨H, 5, none⟩ (.int .i64 ((b : Int) + ((y : Int) + (ex : Int)))))) := by
        have h1 := (HM1.out.drewN 1).seth 5 (.int .i64 ((b + (y + ex) : Nat) : Int))
        rw [show ((b + (y + ex) : Nat) : Int) = (b : Int) + ((y : Int) + (ex : Int)) from by omega] at h1
        exact h1
      refine Code.wp_mono ?_ (reg48 _ _ H C wr.heap.size s b y ex hs18 hy7 hex7 (by omega) HEX rfl rfl rfl rfl q5 q5f t0 hcy (by omega))
      intro e a' w' h
      cases e with
      | normal =>
        obtain ⟨hs, hw⟩ := h
        have e1 := hs.split (by show 311 + 20 ≤ 332; omega)
        generalize ((wr.alloc (.cells #[.int .u8 (s : Int), .int .u8 (x : Int)] 45)).drew.setCell ⟨H, 5, none⟩ (.int .i64 ((b : Int) + ((y : Int) + (ex : Int))))) = w9 at *
        subst hw
        clear q5 q5f t0 hcy hc1b hc2b HNB hs
        generalize (fun i => a'.tmps.getD (311 + i) undef) = ff at e1
        simp only [List.take_succ_cons, List.take_zero, List.drop_succ_cons, List.drop_zero, List.cons_append, List.nil_append, show List.range 20 = [0,1,2,3,4,5,6,7,8,9,10,11,12,13,14,15,16,17,18,19] from rfl, List.map_cons, List.map_nil, Nat.reduceAdd] at e1
        subst e1
        go_wp2_with fail
        go_roundg (gk - 1)
        case measure => omega
        case rel => exact ⟨k + 1, b + (y + ex), by go_num, by omega, by omega, HBN.out, HEND.out⟩
      | _ => exact h.elim
    · have hkn : n = k := by omega
      subst hkn
      have HE : Hid (R (.returned (.tuple #[])) wr) := by
        apply HR.out
        have h1 := HB.out
        rw [List.take_of_length_le (by have := HN.out; omega)] at h1
        rw [← h1]
        exact HM.out
      go_wp2_with fail
      exact bodyPost_end (v := .tuple #[]) (by simp [results, Ybad.results6, go_sem]) rfl HE.out
end Go.Proofs.YbulkccziDoor
