import Derived.Test.YbulkccziDoorLw0
import Derived.Test.YbulkccziDoorKrf
namespace Go.Proofs.YbulkccziDoor
open Go.RowKit
/-! LawS3960ABits: what the rest reads. -/
structure BX (w : World) (H C mm bb nt tc : Nat) (ta : Option Addr) (ls : List Nat) (bs : List Value) (T : List Tk) (wr : World) : Prop where
  h2 : wr.cell? ⟨H, 2, none⟩ = some (.int .i64 (mm : Int))
  h4 : wr.cell? ⟨H, 4, none⟩ = some (.slice ta nt tc)
  h5 : wr.cell? ⟨H, 5, none⟩ = some (.int .i64 (bb : Int))
  co : wr.heap[C]? = some (.cells (clA ls (List.replicate 269 (.int .u8 0) ++ bs)) 38 (0, 0))
  tt : RdT wr ta T
  bel : Below w.heap.size w wr
section
variable {w : World} {H C mm bb nt tc : Nat} {ta : Option Addr} {ls : List Nat} {bs : List Value} {T : List Tk} {wr : World}
theorem BX.next (h : BX w H C mm bb nt tc ta ls bs T wr) {w' : World} (hb : Below wr.heap.size wr w') : BX w H C mm bb nt tc ta ls bs T w' :=
  ⟨by rw [hb.cell (World.block_lt_of_cell? wr _ h.h2)]; exact h.h2, by rw [hb.cell (World.block_lt_of_cell? wr _ h.h4)]; exact h.h4, by rw [hb.cell (World.block_lt_of_cell? wr _ h.h5)]; exact h.h5,
    by rw [hb.block _ (Array.getElem?_eq_some_iff.1 h.co).1]; exact h.co, h.tt.below hb, h.bel.trans (hb.mono h.bel.size)⟩
theorem BX.alloc (h : BX w H C mm bb nt tc ta ls bs T wr) (o : Obj) : BX w H C mm bb nt tc ta ls bs T (wr.alloc o) := h.next ((Below.refl _ _).alloc (Nat.le_refl _) o)
theorem BX.len (h : BX w H C mm bb nt tc ta ls bs T wr) {s : Nat} (hs : s < ls.length) : wr.cell? ⟨C, s, none⟩ = some (.int .u8 ((ls.getD s 0 : Nat) : Int)) := by
  rw [show ls.getD s 0 = ls[s] from by simp [List.getD, hs]]
  exact cellAt h.co s _ (clA_at ls _ s hs)
end
set_option maxRecDepth 8000 in
set_option maxHeartbeats 8000000 in
theorem q_end (w : World) (H C mm bb nt tc : Nat) (ta : Option Addr) (ls : List Nat) (bs : List Value) (T : List Tk) (u0 u1 u2 u3 u4 u5 u6 u7 u8 u10 u11 u12 u13 u14 u15 u16 u17 u18 u19 u20 u21 u22 u23 u25 u26 u27 u28 u29 u30 u31 u32 u33 u34 u35 u36 u37 u38 u39 u40 u41 u42 u43 u44 u45 u46 u47 u48 u49 u50 u51 u52 u53 u54 u55 u56 u57 u58 u59 u60 u61 u62 u63 u64 u65 u66 u67 u68 u69 u70 u71 u72 u73 u74 u75 u76 u77 u78 u79 u80 u81 u82 u83 u84 u85 u86 u87 u88 u89 u90 u91 u92 u93 u94 u95 u96 u97 u98 u99 u100 u101 u102 u103 u104 u105 u106 u107 u108 u109 u110 u111 u112 u113 u114 u115 u116 u117 u118 u119 u120 u121 u122 u123 u124 u125 u126 u127 u128 u129 u130 u131 u132 u133 u134 u135 u136 u137 u138 u139 u140 u141 u142 u143 u144 u145 u146 u147 u148 u149 u150 u151 u152 u153 u154 u155 u156 u157 u158 u159 u160 u161 u162 u163 u164 u165 u166 u167 u168 u169 u170 u171 u172 u173 u174 u175 u176 u177 u178 u179 u180 u181 u182 u183 u184 u185 u186 u187 u188 u189 u190 u191 : Value) (wr : World) (hx : BX w H C mm bb nt tc ta ls bs T wr) : Code.wp Ybad.prog (nthC 22 (bodyOf Ybad.f4)) (bodyPost Ybad.prog Ybad.f4 (fun e w9 => e = .returned (.bool true) ∧ Below w.heap.size w w9)) ⟨#[u0, u1, u2, u3, u4, u5, u6, u7, u8, .pointer (some ⟨H, 0, none⟩), u10, u11, u12, u13, u14, u15, u16, u17, u18, u19, u20, u21, u22, u23, .int .i64 (bb : Int), u25, u26, u27, u28, u29, u30, u31, u32, u33, u34, u35, u36, u37, u38, u39, u40, u41, u42, u43, u44, u45, u46, u47, u48, u49, u50, u51, u52, u53, u54, u55, u56, u57, u58, u59, u60, u61, u62, u63, u64, u65, u66, u67, u68, u69, u70, u71, u72, u73, u74, u75, u76, u77, u78, u79, u80, u81, u82, u83, u84, u85, u86, u87, u88, u89, u90, u91, u92, u93, u94, u95, u96, u97, u98, u99, u100, u101, u102, u103, u104, u105, u106, u107, u108, u109, u110, u111, u112, u113, u114, u115, u116, u117, u118, u119, u120, u121, u122, u123, u124, u125, u126, u127, u128, u129, u130, u131, u132, u133, u134, u135, u136, u137, u138, u139, u140, u141, u142, u143, u144, u145, u146, u147, u148, u149, u150, u151, u152, u153, u154, u155, u156, u157, u158, u159, u160, u161, u162, u163, u164, u165, u166, u167, u168, u169, u170, u171, u172, u173, u174, u175, u176, u177, u178, u179, u180, u181, u182, u183, u184, u185, u186, u187, u188, u189, u190, u191], []⟩ wr := by
  have h5 := hx.h5
  have HB : Hid (Below w.heap.size w wr) := hx.bel
  clear hx
  conv => arg 2; whnf
  go_wp2_with fail
  go_ret
  exact ⟨rfl, HB.out⟩
set_option maxRecDepth 8000 in
set_option maxHeartbeats 8000000 in
theorem q_bit (w : World) (H C mm bb nt tc : Nat) (ta : Option Addr) (ls : List Nat) (bs : List Value) (T : List Tk) (b0 : Nat) (u0 u1 u2 u3 u4 u5 u6 u7 u8 u10 u12 u13 u14 u15 u16 u17 u18 u19 u20 u21 u22 u23 u25 u26 u27 u28 u29 u30 u31 u32 u33 u34 u35 u36 u37 u38 u39 u40 u41 u42 u43 u44 u45 u46 u47 u48 u49 u50 u51 u52 u53 u54 u55 u56 u57 u58 u59 u60 u61 u62 u63 u64 u65 u66 u67 u68 u69 u70 u71 u72 u73 u74 u75 u76 u77 u78 u79 u80 u81 u82 u83 u84 u85 u86 u87 u88 u89 u90 u91 u92 u93 u94 u95 u96 u97 u98 u99 u100 u101 u102 u103 u104 u105 u106 u107 u108 u109 u110 u111 u112 u113 u114 u115 u116 u117 u118 u119 u120 u121 u122 u123 u124 u125 u126 u127 u128 u129 u130 u131 u132 u133 u134 u135 u136 u137 u138 u139 u140 u141 u142 u143 u144 u145 u146 u147 u148 u149 u150 u151 u152 u153 u154 u155 u156 u157 u158 u159 u160 u161 u162 u163 u164 u165 u166 u167 u168 u169 u170 u171 u172 u173 u174 u175 u176 u177 u178 u179 u180 u181 u182 u183 u184 u185 u186 u187 u188 u189 u190 u191 : Value) (wr : World) (hx : BX w H C mm bb nt tc ta ls bs T wr) (hn : nt = T.length) (hnb : nt ≤ 3000) (hok : ∀ p ∈ T, tOk p) (hls : ls.length = 19) (hl7 : ∀ s, ls.getD s 0 ≤ 7) (hb0 : b0 ≤ 71) (hbb : bb = b0 + bitS ls T) : Code.wp Ybad.prog (nthC 21 (bodyOf Ybad.f4)) (bodyPost Ybad.prog Ybad.f4 (fun e w9 => e = .returned (.bool true) ∧ Below w.heap.size w w9)) ⟨#[u0, u1, u2, u3, u4, u5, u6, u7, u8, .pointer (some ⟨H, 0, none⟩), u10, .pointer (some ⟨C, 0, none⟩), u12, u13, u14, u15, u16, u17, u18, u19, u20, u21, u22, u23, .int .i64 (b0 : Int), u25, u26, u27, u28, u29, u30, u31, u32, u33, u34, u35, u36, u37, u38, u39, u40, u41, u42, u43, u44, u45, u46, u47, u48, u49, u50, u51, u52, u53, u54, u55, u56, u57, u58, u59, u60, u61, u62, u63, u64, u65, u66, u67, u68, u69, u70, u71, u72, u73, u74, u75, u76, u77, u78, u79, u80, u81, u82, u83, u84, u85, u86, u87, u88, u89, u90, u91, u92, u93, u94, u95, u96, u97, u98, u99, u100, u101, u102, u103, u104, u105, u106, u107, u108, u109, u110, u111, u112, u113, u114, u115, u116, u117, u118, u119, u120, u121, u122, u123, u124, u125, u126, u127, u128, u129, u130, u131, u132, u133, u134, u135, u136, u137, u138, u139, u140, u141, u142, u143, u144, u145, u146, u147, u148, u149, u150, u151, u152, u153, u154, u155, u156, u157, u158, u159, u160, u161, u162, u163, u164, u165, u166, u167, u168, u169, u170, u171, u172, u173, u174, u175, u176, u177, u178, u179, u180, u181, u182, u183, u184, u185, u186, u187, u188, u189, u190, u191], []⟩ wr := by
  have HN : Hid (∀ (u0 u1 u2 u3 u4 u5 u6 u7 u8 u10 u11 u12 u13 u14 u15 u16 u17 u18 u19 u20 u21 u22 u23 u25 u26 u27 u28 u29 u30 u31 u32 u33 u34 u35 u36 u37 u38 u39 u40 u41 u42 u43 u44 u45 u46 u47 u48 u49 u50 u51 u52 u53 u54 u55 u56 u57 u58 u59 u60 u61 u62 u63 u64 u65 u66 u67 u68 u69 u70 u71 u72 u73 u74 u75 u76 u77 u78 u79 u80 u81 u82 u83 u84 u85 u86 u87 u88 u89 u90 u91 u92 u93 u94 u95 u96 u97 u98 u99 u100 u101 u102 u103 u104 u105 u106 u107 u108 u109 u110 u111 u112 u113 u114 u115 u116 u117 u118 u119 u120 u121 u122 u123 u124 u125 u126 u127 u128 u129 u130 u131 u132 u133 u134 u135 u136 u137 u138 u139 u140 u141 u142 u143 u144 u145 u146 u147 u148 u149 u150 u151 u152 u153 u154 u155 u156 u157 u158 u159 u160 u161 u162 u163 u164 u165 u166 u167 u168 u169 u170 u171 u172 u173 u174 u175 u176 u177 u178 u179 u180 u181 u182 u183 u184 u185 u186 u187 u188 u189 u190 u191 : Value) (wr : World), BX w H C mm bb nt tc ta ls bs T wr → Code.wp Ybad.prog (nthC 22 (bodyOf Ybad.f4)) (bodyPost Ybad.prog Ybad.f4 (fun e w9 => e = .returned (.bool true) ∧ Below w.heap.size w w9)) ⟨#[u0, u1, u2, u3, u4, u5, u6, u7, u8, .pointer (some ⟨H, 0, none⟩), u10, u11, u12, u13, u14, u15, u16, u17, u18, u19, u20, u21, u22, u23, .int .i64 (bb : Int), u25, u26, u27, u28, u29, u30, u31, u32, u33, u34, u35, u36, u37, u38, u39, u40, u41, u42, u43, u44, u45, u46, u47, u48, u49, u50, u51, u52, u53, u54, u55, u56, u57, u58, u59, u60, u61, u62, u63, u64, u65, u66, u67, u68, u69, u70, u71, u72, u73, u74, u75, u76, u77, u78, u79, u80, u81, u82, u83, u84, u85, u86, u87, u88, u89, u90, u91, u92, u93, u94, u95, u96, u97, u98, u99, u100, u101, u102, u103, u104, u105, u106, u107, u108, u109, u110, u111, u112, u113, u114, u115, u116, u117, u118, u119, u120, u121, u122, u123, u124, u125, u126, u127, u128, u129, u130, u131, u132, u133, u134, u135, u136, u137, u138, u139, u140, u141, u142, u143, u144, u145, u146, u147, u148, u149, u150, u151, u152, u153, u154, u155, u156, u157, u158, u159, u160, u161, u162, u163, u164, u165, u166, u167, u168, u169, u170, u171, u172, u173, u174, u175, u176, u177, u178, u179, u180, u181, u182, u183, u184, u185, u186, u187, u188, u189, u190, u191], []⟩ wr) := fun u0 u1 u2 u3 u4 u5 u6 u7 u8 u10 u11 u12 u13 u14 u15 u16 u17 u18 u19 u20 u21 u22 u23 u25 u26 u27 u28 u29 u30 u31 u32 u33 u34 u35 u36 u37 u38 u39 u40 u41 u42 u43 u44 u45 u46 u47 u48 u49 u50 u51 u52 u53 u54 u55 u56 u57 u58 u59 u60 u61 u62 u63 u64 u65 u66 u67 u68 u69 u70 u71 u72 u73 u74 u75 u76 u77 u78 u79 u80 u81 u82 u83 u84 u85 u86 u87 u88 u89 u90 u91 u92 u93 u94 u95 u96 u97 u98 u99 u100 u101 u102 u103 u104 u105 u106 u107 u108 u109 u110 u111 u112 u113 u114 u115 u116 u117 u118 u119 u120 u121 u122 u123 u124 u125 u126 u127 u128 u129 u130 u131 u132 u133 u134 u135 u136 u137 u138 u139 u140 u141 u142 u143 u144 u145 u146 u147 u148 u149 u150 u151 u152 u153 u154 u155 u156 u157 u158 u159 u160 u161 u162 u163 u164 u165 u166 u167 u168 u169 u170 u171 u172 u173 u174 u175 u176 u177 u178 u179 u180 u181 u182 u183 u184 u185 u186 u187 u188 u189 u190 u191 wr hx => q_end w H C mm bb nt tc ta ls bs T u0 u1 u2 u3 u4 u5 u6 u7 u8 u10 u11 u12 u13 u14 u15 u16 u17 u18 u19 u20 u21 u22 u23 u25 u26 u27 u28 u29 u30 u31 u32 u33 u34 u35 u36 u37 u38 u39 u40 u41 u42 u43 u44 u45 u46 u47 u48 u49 u50 u51 u52 u53 u54 u55 u56 u57 u58 u59 u60 u61 u62 u63 u64 u65 u66 u67 u68 u69 u70 u71 u72 u73 u74 u75 u76 u77 u78 u79 u80 u81 u82 u83 u84 u85 u86 u87 u88 u89 u90 u91 u92 u93 u94 u95 u96 u97 u98 u99 u100 u101 u102 u103 u104 u105 u106 u107 u108 u109 u110 u111 u112 u113 u114 u115 u116 u117 u118 u119 u120 u121 u122 u123 u124 u125 u126 u127 u128 u129 u130 u131 u132 u133 u134 u135 u136 u137 u138 u139 u140 u141 u142 u143 u144 u145 u146 u147 u148 u149 u150 u151 u152 u153 u154 u155 u156 u157 u158 u159 u160 u161 u162 u163 u164 u165 u166 u167 u168 u169 u170 u171 u172 u173 u174 u175 u176 u177 u178 u179 u180 u181 u182 u183 u184 u185 u186 u187 u188 u189 u190 u191 wr hx
  have h4 := hx.h4
  have HX : Hid (BX w H C mm bb nt tc ta ls bs T wr) := hx
  have HNT : Hid (nt = T.length) := hn
  have HOK : Hid (∀ p ∈ T, tOk p) := hok
  have HL7 : Hid (∀ s, ls.getD s 0 ≤ 7) := hl7
  have HBB : Hid (bb = b0 + bitS ls T) := hbb
  have HLS : Hid (ls.length = 19) := hls
  clear hx hn hok hl7 hbb hls
  conv => arg 2; whnf
  go_upto_region 51 with fail
  rename_i k1 hk1 k2 hk2
  have HK : Hid _ := hk1
  clear hk1
  go_wp2_with fail
  go_loopg [24, 159] nt (fun gk v24 v159 wx => ∃ (k b : Nat), v24 = .int .i64 b ∧ v159 = .int .i64 k ∧ k + gk = nt ∧ b ≤ 71 + k * 14 ∧ Hid (b = b0 + bitS ls (T.take k)) ∧ Hid (BX w H C mm bb nt tc ta ls bs T wx))
  case atStart => exact ⟨0, b0, rfl, rfl, by omega, by omega, by show _ = _; simp [bitS], HX.out⟩
  case round =>
    clear h4 HX
    obtain ⟨k, b, rfl, rfl, hk, hb, HB, HX⟩ := hrel
    rcases Nat.lt_or_ge k nt with hlt | hge
    · obtain ⟨g, rfl, hc1, hc2⟩ := HX.out.tt k (by have := HNT.out; omega)
      obtain ⟨s, x, hsx⟩ : ∃ s x, T.getD k (0, 0) = (s, x) := ⟨_, _, rfl⟩
      rw [hsx] at hc1 hc2
      have hkl : k < T.length := by have := HNT.out; omega
      have hel : T[k] = (s, x) := by rw [← hsx]; simp [List.getD, hkl]
      have hs18 : s ≤ 18 := by
        have h3 := HOK.out _ (List.getElem_mem hkl)
        rw [hel] at h3
        exact h3.1
      have hc1b : wr.cell? ⟨g, k * 2, none⟩ = some (.int .u8 (s : Int)) := by rw [Nat.mul_comm]; exact hc1
      have hc2b : wr.cell? ⟨g, k * 2 + 1, none⟩ = some (.int .u8 (x : Int)) := by rw [Nat.mul_comm]; exact hc2
      obtain ⟨y, hy⟩ : ∃ y, y = ls.getD s 0 := ⟨_, rfl⟩
      have hy7 : y ≤ 7 := by rw [hy]; exact HL7.out s
      have hcy : wr.cell? ⟨C, s, none⟩ = some (.int .u8 (y : Int)) := by rw [hy]; exact HX.out.len (by have := HLS.out; omega)
      have hs8 : (s : Int) < 288 := by omega
      have hCl : C < wr.heap.size := (Array.getElem?_eq_some_iff.1 HX.out.co).1
      have hCn : ¬ wr.heap.size = C := by omega
      have hCn2 : C ≠ wr.heap.size := by omega
      have HXA : Hid (∀ ob, BX w H C mm bb nt tc (some ⟨g, 0, none⟩) ls bs T (wr.alloc ob)) := fun ob => HX.out.alloc ob
      have HBN : Hid (b + (y + exN s) = b0 + bitS ls (T.take (k + 1))) := by
        show _ = _
        rw [List.take_add_one, List.getElem?_eq_getElem hkl, hel]
        simp only [Option.toList_some]
        rw [bitS_snoc, HB.out, hy]
        exact Nat.add_assoc _ _ _
      have hex7 := exN_le s
      clear hy hsx hc1 hc2 hkl hel
      by_cases c6 : s = 16
      · subst c6
        have HE : Hid (exN 16 = 2) := rfl
        go_wp2_with fail
        go_roundg (gk - 1)
        case measure => omega
        case rel => exact ⟨k + 1, b + (y + exN 16), by rw [HE.out]; go_num, by go_num, by omega, by omega, HBN.out, HXA.out _⟩
      · by_cases c7 : s = 17
        · subst c7
          have HE : Hid (exN 17 = 3) := rfl
          go_wp2_with fail
          go_roundg (gk - 1)
          case measure => omega
          case rel => exact ⟨k + 1, b + (y + exN 17), by rw [HE.out]; go_num, by go_num, by omega, by omega, HBN.out, HXA.out _⟩
        · by_cases c8 : s = 18
          · subst c8
            have HE : Hid (exN 18 = 7) := rfl
            go_wp2_with fail
            go_roundg (gk - 1)
            case measure => omega
            case rel => exact ⟨k + 1, b + (y + exN 18), by rw [HE.out]; go_num, by go_num, by omega, by omega, HBN.out, HXA.out _⟩
          · have HE : Hid (exN s = 0) := by show _ = _; simp [exN, c6, c7, c8]
            have b1 : ((s : Int) == 16) = false := by simp; omega
            have b2 : ((s : Int) == 17) = false := by simp; omega
            have b3 : ((s : Int) == 18) = false := by simp; omega
            have b4 : (s == 16) = false := by simp; omega
            have b5 : (s == 17) = false := by simp; omega
            have b6 : (s == 18) = false := by simp; omega
            clear c6 c7 c8
            go_wp2_with fail
            go_roundg (gk - 1)
            case measure => omega
            case rel => exact ⟨k + 1, b + (y + exN s), by rw [HE.out]; go_num, by go_num, by omega, by omega, HBN.out, HXA.out _⟩
    · have hkn : nt = k := by omega
      subst hkn
      have hbx : b = bb := by
        rw [HB.out, List.take_of_length_le (by have := HNT.out; omega)]
        exact HBB.out.symm
      subst hbx
      go_wp2_with fail
      exact HK.out _ _ (HN.out _ _ _ _ _ _ _ _ _ _ _ _ _ _ _ _ _ _ _ _ _ _ _ _ _ _ _ _ _ _ _ _ _ _ _ _ _ _ _ _ _ _ _ _ _ _ _ _ _ _ _ _ _ _ _ _ _ _ _ _ _ _ _ _ _ _ _ _ _ _ _ _ _ _ _ _ _ _ _ _ _ _ _ _ _ _ _ _ _ _ _ _ _ _ _ _ _ _ _ _ _ _ _ _ _ _ _ _ _ _ _ _ _ _ _ _ _ _ _ _ _ _ _ _ _ _ _ _ _ _ _ _ _ _ _ _ _ _ _ _ _ _ _ _ _ _ _ _ _ _ _ _ _ _ _ _ _ _ _ _ _ _ _ _ _ _ _ _ _ _ _ _ _ _ _ _ _ _ _ _ _ _ _ _ _ _ _ _ _ _ _ HX.out)
end Go.Proofs.YbulkccziDoor
