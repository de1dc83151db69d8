import Derived.Test.YbulkccziDoorB4b
namespace Go.Proofs.YbulkccziDoor
open Go.RowKit
/-! LawS3960ABits: the counts, and at least two of them. -/
set_option maxRecDepth 8000 in
set_option maxHeartbeats 8000000 in
theorem q_fil (w : World) (H C mm bb nt tc : Nat) (ta : Option Addr) (ls : List Nat) (bs : List Value) (T : List Tk) (F u : Nat) (fs : List Nat) (u0 u1 u2 u3 u4 u5 u6 u7 u8 u10 u13 u14 u16 u17 u18 u19 u20 u21 u22 u23 u24 u25 u26 u27 u28 u29 u30 u31 u32 u33 u34 u35 u36 u37 u38 u39 u40 u41 u42 u43 u44 u45 u46 u47 u48 u49 u50 u51 u52 u53 u54 u55 u56 u57 u58 u59 u60 u61 u62 u63 u64 u65 u66 u67 u68 u69 u70 u71 u72 u73 u74 u75 u76 u77 u78 u79 u80 u81 u82 u83 u84 u85 u86 u87 u88 u89 u90 u91 u92 u93 u94 u95 u96 u97 u98 u99 u100 u101 u102 u103 u104 u105 u106 u107 u108 u109 u110 u111 u112 u113 u114 u115 u116 u117 u118 u119 u120 u121 u122 u123 u124 u125 u126 u127 u128 u129 u130 u131 u132 u133 u134 u135 u136 u137 u138 u139 u140 u141 u142 u143 u144 u145 u146 u147 u148 u149 u150 u151 u152 u153 u154 u155 u156 u157 u158 u159 u160 u161 u162 u163 u164 u165 u166 u167 u168 u169 u170 u171 u172 u173 u174 u175 u176 u177 u178 u179 u180 u181 u182 u183 u184 u185 u186 u187 u188 u189 u190 u191 : Value) (wr : World) (hx : BF w H C mm bb nt tc ta ls bs T F fs wr) (hn : nt = T.length) (hnb : nt ≤ 3000) (hok : ∀ p ∈ T, tOk p) (hls : ls.length = 19) (hl7 : ∀ s, ls.getD s 0 ≤ 7) (hm : mm = ncl ls 19) (hbb : bb = 14 + 3 * mm + bitS ls T) (hfl : fs.length = 19) (hfb : ∀ s, fs.getD s 0 ≤ 4096) (hpos : ∀ s, s < 19 → (0 < ls.getD s 0 ↔ 0 < (two fs).getD s 0)) (hkr : krK ls 19 = 128) (hu : u = (syUp fs 19).length) : Code.wp Ybad.prog (nthC 11 (bodyOf Ybad.f4)) (bodyPost Ybad.prog Ybad.f4 (fun e w9 => e = .returned (.bool true) ∧ Below w.heap.size w w9)) ⟨#[u0, u1, u2, u3, u4, u5, u6, u7, u8, .pointer (some ⟨H, 0, none⟩), u10, .pointer (some ⟨C, 0, none⟩), .pointer (some ⟨F, 0, none⟩), u13, u14, .int .i64 (u : Int), u16, u17, u18, u19, u20, u21, u22, u23, u24, u25, u26, u27, u28, u29, u30, u31, u32, u33, u34, u35, u36, u37, u38, u39, u40, u41, u42, u43, u44, u45, u46, u47, u48, u49, u50, u51, u52, u53, u54, u55, u56, u57, u58, u59, u60, u61, u62, u63, u64, u65, u66, u67, u68, u69, u70, u71, u72, u73, u74, u75, u76, u77, u78, u79, u80, u81, u82, u83, u84, u85, u86, u87, u88, u89, u90, u91, u92, u93, u94, u95, u96, u97, u98, u99, u100, u101, u102, u103, u104, u105, u106, u107, u108, u109, u110, u111, u112, u113, u114, u115, u116, u117, u118, u119, u120, u121, u122, u123, u124, u125, u126, u127, u128, u129, u130, u131, u132, u133, u134, u135, u136, u137, u138, u139, u140, u141, u142, u143, u144, u145, u146, u147, u148, u149, u150, u151, u152, u153, u154, u155, u156, u157, u158, u159, u160, u161, u162, u163, u164, u165, u166, u167, u168, u169, u170, u171, u172, u173, u174, u175, u176, u177, u178, u179, u180, u181, u182, u183, u184, u185, u186, u187, u188, u189, u190, u191], []⟩ wr := by
  have HN : Hid (∀ (u0 u1 u2 u3 u4 u5 u6 u7 u8 u10 u13 u14 u15 u16 u17 u18 u19 u20 u21 u22 u23 u24 u25 u26 u27 u28 u29 u30 u31 u32 u33 u34 u35 u36 u37 u38 u39 u40 u41 u42 u43 u44 u45 u46 u47 u48 u49 u50 u51 u52 u53 u54 u55 u56 u57 u58 u59 u60 u61 u62 u63 u64 u65 u66 u67 u68 u69 u70 u71 u72 u73 u74 u75 u76 u77 u78 u79 u80 u81 u82 u83 u84 u85 u86 u87 u88 u89 u90 u91 u92 u93 u94 u95 u96 u97 u98 u99 u100 u101 u102 u103 u104 u105 u106 u107 u108 u109 u110 u111 u112 u113 u114 u115 u116 u117 u118 u119 u120 u121 u122 u123 u124 u125 u126 u127 u128 u129 u130 u131 u132 u133 u134 u135 u136 u137 u138 u139 u140 u141 u142 u143 u144 u145 u146 u147 u148 u149 u150 u151 u152 u153 u154 u155 u156 u157 u158 u159 u160 u161 u162 u163 u164 u165 u166 u167 u168 u169 u170 u171 u172 u173 u174 u175 u176 u177 u178 u179 u180 u181 u182 u183 u184 u185 u186 u187 u188 u189 u190 u191 : Value) (wr : World), BF w H C mm bb nt tc ta ls bs T F (two fs) wr → Code.wp Ybad.prog (nthC 12 (bodyOf Ybad.f4)) (bodyPost Ybad.prog Ybad.f4 (fun e w9 => e = .returned (.bool true) ∧ Below w.heap.size w w9)) ⟨#[u0, u1, u2, u3, u4, u5, u6, u7, u8, .pointer (some ⟨H, 0, none⟩), u10, .pointer (some ⟨C, 0, none⟩), .pointer (some ⟨F, 0, none⟩), u13, u14, u15, u16, u17, u18, u19, u20, u21, u22, u23, u24, u25, u26, u27, u28, u29, u30, u31, u32, u33, u34, u35, u36, u37, u38, u39, u40, u41, u42, u43, u44, u45, u46, u47, u48, u49, u50, u51, u52, u53, u54, u55, u56, u57, u58, u59, u60, u61, u62, u63, u64, u65, u66, u67, u68, u69, u70, u71, u72, u73, u74, u75, u76, u77, u78, u79, u80, u81, u82, u83, u84, u85, u86, u87, u88, u89, u90, u91, u92, u93, u94, u95, u96, u97, u98, u99, u100, u101, u102, u103, u104, u105, u106, u107, u108, u109, u110, u111, u112, u113, u114, u115, u116, u117, u118, u119, u120, u121, u122, u123, u124, u125, u126, u127, u128, u129, u130, u131, u132, u133, u134, u135, u136, u137, u138, u139, u140, u141, u142, u143, u144, u145, u146, u147, u148, u149, u150, u151, u152, u153, u154, u155, u156, u157, u158, u159, u160, u161, u162, u163, u164, u165, u166, u167, u168, u169, u170, u171, u172, u173, u174, u175, u176, u177, u178, u179, u180, u181, u182, u183, u184, u185, u186, u187, u188, u189, u190, u191], []⟩ wr) := fun u0 u1 u2 u3 u4 u5 u6 u7 u8 u10 u13 u14 u15 u16 u17 u18 u19 u20 u21 u22 u23 u24 u25 u26 u27 u28 u29 u30 u31 u32 u33 u34 u35 u36 u37 u38 u39 u40 u41 u42 u43 u44 u45 u46 u47 u48 u49 u50 u51 u52 u53 u54 u55 u56 u57 u58 u59 u60 u61 u62 u63 u64 u65 u66 u67 u68 u69 u70 u71 u72 u73 u74 u75 u76 u77 u78 u79 u80 u81 u82 u83 u84 u85 u86 u87 u88 u89 u90 u91 u92 u93 u94 u95 u96 u97 u98 u99 u100 u101 u102 u103 u104 u105 u106 u107 u108 u109 u110 u111 u112 u113 u114 u115 u116 u117 u118 u119 u120 u121 u122 u123 u124 u125 u126 u127 u128 u129 u130 u131 u132 u133 u134 u135 u136 u137 u138 u139 u140 u141 u142 u143 u144 u145 u146 u147 u148 u149 u150 u151 u152 u153 u154 u155 u156 u157 u158 u159 u160 u161 u162 u163 u164 u165 u166 u167 u168 u169 u170 u171 u172 u173 u174 u175 u176 u177 u178 u179 u180 u181 u182 u183 u184 u185 u186 u187 u188 u189 u190 u191 wr hx => q_kr w H C mm bb nt tc ta ls bs T F (two fs) u0 u1 u2 u3 u4 u5 u6 u7 u8 u10 u13 u14 u15 u16 u17 u18 u19 u20 u21 u22 u23 u24 u25 u26 u27 u28 u29 u30 u31 u32 u33 u34 u35 u36 u37 u38 u39 u40 u41 u42 u43 u44 u45 u46 u47 u48 u49 u50 u51 u52 u53 u54 u55 u56 u57 u58 u59 u60 u61 u62 u63 u64 u65 u66 u67 u68 u69 u70 u71 u72 u73 u74 u75 u76 u77 u78 u79 u80 u81 u82 u83 u84 u85 u86 u87 u88 u89 u90 u91 u92 u93 u94 u95 u96 u97 u98 u99 u100 u101 u102 u103 u104 u105 u106 u107 u108 u109 u110 u111 u112 u113 u114 u115 u116 u117 u118 u119 u120 u121 u122 u123 u124 u125 u126 u127 u128 u129 u130 u131 u132 u133 u134 u135 u136 u137 u138 u139 u140 u141 u142 u143 u144 u145 u146 u147 u148 u149 u150 u151 u152 u153 u154 u155 u156 u157 u158 u159 u160 u161 u162 u163 u164 u165 u166 u167 u168 u169 u170 u171 u172 u173 u174 u175 u176 u177 u178 u179 u180 u181 u182 u183 u184 u185 u186 u187 u188 u189 u190 u191 wr hx hn hnb hok hls hl7 hm hbb (two_len fs hfl) (two_le fs 4096 hfb (by decide)) hpos hkr
  have HX : Hid (BF w H C mm bb nt tc ta ls bs T F fs wr) := hx
  have HU : Hid (u = (syUp fs 19).length) := hu
  have HFB : Hid (∀ s, fs.getD s 0 ≤ 4096) := hfb
  have hc0 : wr.cell? ⟨F, 0, none⟩ = some (.int .i64 ((fs.getD 0 0 : Nat) : Int)) := hx.at (by omega)
  have hc1 : wr.cell? ⟨F, 1, none⟩ = some (.int .i64 ((fs.getD 1 0 : Nat) : Int)) := hx.at (by omega)
  have f0 := frozenAt hx.nb 0
  have f1 := frozenAt hx.nb 1
  have hub : u ≤ 19 := by rw [hu]; exact syUp_len fs 19
  obtain ⟨a, ha⟩ : ∃ a, a = fs.getD 0 0 := ⟨_, rfl⟩
  obtain ⟨b, hb⟩ : ∃ b, b = fs.getD 1 0 := ⟨_, rfl⟩
  rw [← ha] at hc0
  rw [← hb] at hc1
  have hab : a ≤ 4096 := by rw [ha]; exact HFB.out 0
  have hbb2 : b ≤ 4096 := by rw [hb]; exact HFB.out 1
  have HAB : Hid (a = fs.getD 0 0 ∧ b = fs.getD 1 0) := ⟨ha, hb⟩
  clear hx hn hok hls hl7 hm hbb hfl hfb hpos hkr hu ha hb
  by_cases h2 : 2 ≤ u
  · have hd : decide ((u : Int) < 2) = false := decide_eq_false (by omega)
    have hd2 : decide (u < 2) = false := decide_eq_false (by omega)
    have HE : Hid (two fs = fs) := by show _ = _; unfold two; rw [if_pos (by rw [← HU.out]; exact h2)]
    have HXE : Hid (BF w H C mm bb nt tc ta ls bs T F (two fs) wr) := by rw [HE.out]; exact HX.out
    conv => arg 2; whnf
    go_upto_region 22 with fail
    rename_i k1 hk1 k2 hk2
    have HK : Hid _ := hk1
    clear hk1
    go_wp2_with fail
    refine wp_loop_rounds 1 ?_
    rw [rounds_succ]
    go_wp2_with fail
    exact HK.out _ _ (HN.out _ _ _ _ _ _ _ _ _ _ _ _ _ _ _ _ _ _ _ _ _ _ _ _ _ _ _ _ _ _ _ _ _ _ _ _ _ _ _ _ _ _ _ _ _ _ _ _ _ _ _ _ _ _ _ _ _ _ _ _ _ _ _ _ _ _ _ _ _ _ _ _ _ _ _ _ _ _ _ _ _ _ _ _ _ _ _ _ _ _ _ _ _ _ _ _ _ _ _ _ _ _ _ _ _ _ _ _ _ _ _ _ _ _ _ _ _ _ _ _ _ _ _ _ _ _ _ _ _ _ _ _ _ _ _ _ _ _ _ _ _ _ _ _ _ _ _ _ _ _ _ _ _ _ _ _ _ _ _ _ _ _ _ _ _ _ _ _ _ _ _ _ _ _ _ _ _ _ _ _ _ _ _ _ _ _ _ _ _ _ HXE.out)
  · have hu1 : u = 0 ∨ u = 1 := by omega
    rcases hu1 with rfl | rfl
    · have h00 : syUp fs 19 = [] := List.eq_nil_of_length_eq_zero HU.out.symm
      have ha0 : a = 0 := by
        rcases Nat.eq_zero_or_pos a with h | h
        · exact h
        · have : 0 ∈ syUp fs 19 := syUp_mem.2 ⟨by omega, by rw [← HAB.out.1]; exact h⟩
          rw [h00] at this; cases this
      have hb0 : b = 0 := by
        rcases Nat.eq_zero_or_pos b with h | h
        · exact h
        · have : 1 ∈ syUp fs 19 := syUp_mem.2 ⟨by omega, by rw [← HAB.out.2]; exact h⟩
          rw [h00] at this; cases this
      have HE : Hid (two fs = (fs.set 0 1).set 1 1) := by show _ = _; unfold two; rw [h00]; rfl
      have HXE : Hid (BF w H C mm bb nt tc ta ls bs T F (two fs) ((wr.setCell ⟨F, 0, none⟩ (.int .i64 1)).setCell ⟨F, 1, none⟩ (.int .i64 1))) := by rw [HE.out]; exact (HX.out.inc 0 1).inc 1 1
      clear h00 HAB
      subst ha0
      subst hb0
      conv => arg 2; whnf
      go_upto_region 22 with fail
      rename_i k1 hk1 k2 hk2
      have HK : Hid _ := hk1
      clear hk1
      go_wp2_with fail
      refine wp_loop_rounds 3 ?_
      rw [rounds_succ]
      go_wp2_with fail
      rw [rounds_succ]
      go_wp2_with fail
      rw [rounds_succ]
      go_wp2_with fail
      exact HK.out _ _ (HN.out _ _ _ _ _ _ _ _ _ _ _ _ _ _ _ _ _ _ _ _ _ _ _ _ _ _ _ _ _ _ _ _ _ _ _ _ _ _ _ _ _ _ _ _ _ _ _ _ _ _ _ _ _ _ _ _ _ _ _ _ _ _ _ _ _ _ _ _ _ _ _ _ _ _ _ _ _ _ _ _ _ _ _ _ _ _ _ _ _ _ _ _ _ _ _ _ _ _ _ _ _ _ _ _ _ _ _ _ _ _ _ _ _ _ _ _ _ _ _ _ _ _ _ _ _ _ _ _ _ _ _ _ _ _ _ _ _ _ _ _ _ _ _ _ _ _ _ _ _ _ _ _ _ _ _ _ _ _ _ _ _ _ _ _ _ _ _ _ _ _ _ _ _ _ _ _ _ _ _ _ _ _ _ _ _ _ _ _ _ _ HXE.out)
    · by_cases ha0 : a = 0
      · have HE : Hid (two fs = fs.set 0 1) := by show _ = _; unfold two; rw [if_neg (by rw [← HU.out]; omega), if_pos HU.out.symm, if_pos (by rw [← HAB.out.1]; exact ha0)]
        have HXE : Hid (BF w H C mm bb nt tc ta ls bs T F (two fs) (wr.setCell ⟨F, 0, none⟩ (.int .i64 1))) := by rw [HE.out]; exact HX.out.inc 0 1
        clear HAB
        subst ha0
        conv => arg 2; whnf
        go_upto_region 22 with fail
        rename_i k1 hk1 k2 hk2
        have HK : Hid _ := hk1
        clear hk1
        go_wp2_with fail
        refine wp_loop_rounds 2 ?_
        rw [rounds_succ]
        go_wp2_with fail
        rw [rounds_succ]
        go_wp2_with fail
        exact HK.out _ _ (HN.out _ _ _ _ _ _ _ _ _ _ _ _ _ _ _ _ _ _ _ _ _ _ _ _ _ _ _ _ _ _ _ _ _ _ _ _ _ _ _ _ _ _ _ _ _ _ _ _ _ _ _ _ _ _ _ _ _ _ _ _ _ _ _ _ _ _ _ _ _ _ _ _ _ _ _ _ _ _ _ _ _ _ _ _ _ _ _ _ _ _ _ _ _ _ _ _ _ _ _ _ _ _ _ _ _ _ _ _ _ _ _ _ _ _ _ _ _ _ _ _ _ _ _ _ _ _ _ _ _ _ _ _ _ _ _ _ _ _ _ _ _ _ _ _ _ _ _ _ _ _ _ _ _ _ _ _ _ _ _ _ _ _ _ _ _ _ _ _ _ _ _ _ _ _ _ _ _ _ _ _ _ _ _ _ _ _ _ _ _ _ HXE.out)
      · have hb0 : b = 0 := by
          rcases Nat.eq_zero_or_pos b with h | h
          · exact h
          · exfalso
            have m0 : 0 ∈ syUp fs 19 := syUp_mem.2 ⟨by omega, by rw [← HAB.out.1]; omega⟩
            have m1 : 1 ∈ syUp fs 19 := syUp_mem.2 ⟨by omega, by rw [← HAB.out.2]; exact h⟩
            obtain ⟨y, hy⟩ := List.length_eq_one_iff.1 HU.out.symm
            rw [hy] at m0 m1
            simp at m0 m1
            omega
        have HE : Hid (two fs = fs.set 1 1) := by show _ = _; unfold two; rw [if_neg (by rw [← HU.out]; omega), if_pos HU.out.symm, if_neg (by rw [← HAB.out.1]; exact ha0)]
        have HXE : Hid (BF w H C mm bb nt tc ta ls bs T F (two fs) (wr.setCell ⟨F, 1, none⟩ (.int .i64 1))) := by rw [HE.out]; exact HX.out.inc 1 1
        have ba1 : ((a : Int) == 0) = false := by simp; omega
        have ba2 : (a == 0) = false := by simp; omega
        clear HAB
        subst hb0
        conv => arg 2; whnf
        go_upto_region 22 with fail
        rename_i k1 hk1 k2 hk2
        have HK : Hid _ := hk1
        clear hk1
        go_wp2_with fail
        refine wp_loop_rounds 3 ?_
        rw [rounds_succ]
        go_wp2_with fail
        rw [rounds_succ]
        go_wp2_with fail
        rw [rounds_succ]
        go_wp2_with fail
        exact HK.out _ _ (HN.out _ _ _ _ _ _ _ _ _ _ _ _ _ _ _ _ _ _ _ _ _ _ _ _ _ _ _ _ _ _ _ _ _ _ _ _ _ _ _ _ _ _ _ _ _ _ _ _ _ _ _ _ _ _ _ _ _ _ _ _ _ _ _ _ _ _ _ _ _ _ _ _ _ _ _ _ _ _ _ _ _ _ _ _ _ _ _ _ _ _ _ _ _ _ _ _ _ _ _ _ _ _ _ _ _ _ _ _ _ _ _ _ _ _ _ _ _ _ _ _ _ _ _ _ _ _ _ _ _ _ _ _ _ _ _ _ _ _ _ _ _ _ _ _ _ _ _ _ _ _ _ _ _ _ _ _ _ _ _ _ _ _ _ _ _ _ _ _ _ _ _ _ _ _ _ _ _ _ _ _ _ _ _ _ _ _ _ _ _ _ HXE.out)
set_option maxRecDepth 8000 in
set_option maxHeartbeats 8000000 in
theorem q_use (w : World) (H C mm bb nt tc : Nat) (ta : Option Addr) (ls : List Nat) (bs : List Value) (T : List Tk) (F : Nat) (fs : List Nat) (u0 u1 u2 u3 u4 u5 u6 u7 u8 u10 u13 u14 u15 u16 u17 u18 u19 u20 u21 u22 u23 u24 u25 u26 u27 u28 u29 u30 u31 u32 u33 u34 u35 u36 u37 u38 u39 u40 u41 u42 u43 u44 u45 u46 u47 u48 u49 u50 u51 u52 u53 u54 u55 u56 u57 u58 u59 u60 u61 u62 u63 u64 u65 u66 u67 u68 u69 u70 u71 u72 u73 u74 u75 u76 u77 u78 u79 u80 u81 u82 u83 u84 u85 u86 u87 u88 u89 u90 u91 u92 u93 u94 u95 u96 u97 u98 u99 u100 u101 u102 u103 u104 u105 u106 u107 u108 u109 u110 u111 u112 u113 u114 u115 u116 u117 u118 u119 u120 u121 u122 u123 u124 u125 u126 u127 u128 u129 u130 u131 u132 u133 u134 u135 u136 u137 u138 u139 u140 u141 u142 u143 u144 u145 u146 u147 u148 u149 u150 u151 u152 u153 u154 u155 u156 u157 u158 u159 u160 u161 u162 u163 u164 u165 u166 u167 u168 u169 u170 u171 u172 u173 u174 u175 u176 u177 u178 u179 u180 u181 u182 u183 u184 u185 u186 u187 u188 u189 u190 u191 : Value) (wr : World) (hx : BF w H C mm bb nt tc ta ls bs T F fs wr) (hn : nt = T.length) (hnb : nt ≤ 3000) (hok : ∀ p ∈ T, tOk p) (hls : ls.length = 19) (hl7 : ∀ s, ls.getD s 0 ≤ 7) (hm : mm = ncl ls 19) (hbb : bb = 14 + 3 * mm + bitS ls T) (hfl : fs.length = 19) (hfb : ∀ s, fs.getD s 0 ≤ 4096) (hpos : ∀ s, s < 19 → (0 < ls.getD s 0 ↔ 0 < (two fs).getD s 0)) (hkr : krK ls 19 = 128) : Code.wp Ybad.prog (nthC 9 (bodyOf Ybad.f4)) (bodyPost Ybad.prog Ybad.f4 (fun e w9 => e = .returned (.bool true) ∧ Below w.heap.size w w9)) ⟨#[u0, u1, u2, u3, u4, u5, u6, u7, u8, .pointer (some ⟨H, 0, none⟩), u10, .pointer (some ⟨C, 0, none⟩), .pointer (some ⟨F, 0, none⟩), u13, u14, u15, u16, u17, u18, u19, u20, u21, u22, u23, u24, u25, u26, u27, u28, u29, u30, u31, u32, u33, u34, u35, u36, u37, u38, u39, u40, u41, u42, u43, u44, u45, u46, u47, u48, u49, u50, u51, u52, u53, u54, u55, u56, u57, u58, u59, u60, u61, u62, u63, u64, u65, u66, u67, u68, u69, u70, u71, u72, u73, u74, u75, u76, u77, u78, u79, u80, u81, u82, u83, u84, u85, u86, u87, u88, u89, u90, u91, u92, u93, u94, u95, u96, u97, u98, u99, u100, u101, u102, u103, u104, u105, u106, u107, u108, u109, u110, u111, u112, u113, u114, u115, u116, u117, u118, u119, u120, u121, u122, u123, u124, u125, u126, u127, u128, u129, u130, u131, u132, u133, u134, u135, u136, u137, u138, u139, u140, u141, u142, u143, u144, u145, u146, u147, u148, u149, u150, u151, u152, u153, u154, u155, u156, u157, u158, u159, u160, u161, u162, u163, u164, u165, u166, u167, u168, u169, u170, u171, u172, u173, u174, u175, u176, u177, u178, u179, u180, u181, u182, u183, u184, u185, u186, u187, u188, u189, u190, u191], []⟩ wr := by
  have HN : Hid (∀ (u0 u1 u2 u3 u4 u5 u6 u7 u8 u10 u13 u14 u16 u17 u18 u19 u20 u21 u22 u23 u24 u25 u26 u27 u28 u29 u30 u31 u32 u33 u34 u35 u36 u37 u38 u39 u40 u41 u42 u43 u44 u45 u46 u47 u48 u49 u50 u51 u52 u53 u54 u55 u56 u57 u58 u59 u60 u61 u62 u63 u64 u65 u66 u67 u68 u69 u70 u71 u72 u73 u74 u75 u76 u77 u78 u79 u80 u81 u82 u83 u84 u85 u86 u87 u88 u89 u90 u91 u92 u93 u94 u95 u96 u97 u98 u99 u100 u101 u102 u103 u104 u105 u106 u107 u108 u109 u110 u111 u112 u113 u114 u115 u116 u117 u118 u119 u120 u121 u122 u123 u124 u125 u126 u127 u128 u129 u130 u131 u132 u133 u134 u135 u136 u137 u138 u139 u140 u141 u142 u143 u144 u145 u146 u147 u148 u149 u150 u151 u152 u153 u154 u155 u156 u157 u158 u159 u160 u161 u162 u163 u164 u165 u166 u167 u168 u169 u170 u171 u172 u173 u174 u175 u176 u177 u178 u179 u180 u181 u182 u183 u184 u185 u186 u187 u188 u189 u190 u191 : Value) (u : Nat), u = (syUp fs 19).length → Code.wp Ybad.prog (nthC 11 (bodyOf Ybad.f4)) (bodyPost Ybad.prog Ybad.f4 (fun e w9 => e = .returned (.bool true) ∧ Below w.heap.size w w9)) ⟨#[u0, u1, u2, u3, u4, u5, u6, u7, u8, .pointer (some ⟨H, 0, none⟩), u10, .pointer (some ⟨C, 0, none⟩), .pointer (some ⟨F, 0, none⟩), u13, u14, .int .i64 (u : Int), u16, u17, u18, u19, u20, u21, u22, u23, u24, u25, u26, u27, u28, u29, u30, u31, u32, u33, u34, u35, u36, u37, u38, u39, u40, u41, u42, u43, u44, u45, u46, u47, u48, u49, u50, u51, u52, u53, u54, u55, u56, u57, u58, u59, u60, u61, u62, u63, u64, u65, u66, u67, u68, u69, u70, u71, u72, u73, u74, u75, u76, u77, u78, u79, u80, u81, u82, u83, u84, u85, u86, u87, u88, u89, u90, u91, u92, u93, u94, u95, u96, u97, u98, u99, u100, u101, u102, u103, u104, u105, u106, u107, u108, u109, u110, u111, u112, u113, u114, u115, u116, u117, u118, u119, u120, u121, u122, u123, u124, u125, u126, u127, u128, u129, u130, u131, u132, u133, u134, u135, u136, u137, u138, u139, u140, u141, u142, u143, u144, u145, u146, u147, u148, u149, u150, u151, u152, u153, u154, u155, u156, u157, u158, u159, u160, u161, u162, u163, u164, u165, u166, u167, u168, u169, u170, u171, u172, u173, u174, u175, u176, u177, u178, u179, u180, u181, u182, u183, u184, u185, u186, u187, u188, u189, u190, u191], []⟩ wr) := fun u0 u1 u2 u3 u4 u5 u6 u7 u8 u10 u13 u14 u16 u17 u18 u19 u20 u21 u22 u23 u24 u25 u26 u27 u28 u29 u30 u31 u32 u33 u34 u35 u36 u37 u38 u39 u40 u41 u42 u43 u44 u45 u46 u47 u48 u49 u50 u51 u52 u53 u54 u55 u56 u57 u58 u59 u60 u61 u62 u63 u64 u65 u66 u67 u68 u69 u70 u71 u72 u73 u74 u75 u76 u77 u78 u79 u80 u81 u82 u83 u84 u85 u86 u87 u88 u89 u90 u91 u92 u93 u94 u95 u96 u97 u98 u99 u100 u101 u102 u103 u104 u105 u106 u107 u108 u109 u110 u111 u112 u113 u114 u115 u116 u117 u118 u119 u120 u121 u122 u123 u124 u125 u126 u127 u128 u129 u130 u131 u132 u133 u134 u135 u136 u137 u138 u139 u140 u141 u142 u143 u144 u145 u146 u147 u148 u149 u150 u151 u152 u153 u154 u155 u156 u157 u158 u159 u160 u161 u162 u163 u164 u165 u166 u167 u168 u169 u170 u171 u172 u173 u174 u175 u176 u177 u178 u179 u180 u181 u182 u183 u184 u185 u186 u187 u188 u189 u190 u191 u hu => q_fil w H C mm bb nt tc ta ls bs T F u fs u0 u1 u2 u3 u4 u5 u6 u7 u8 u10 u13 u14 u16 u17 u18 u19 u20 u21 u22 u23 u24 u25 u26 u27 u28 u29 u30 u31 u32 u33 u34 u35 u36 u37 u38 u39 u40 u41 u42 u43 u44 u45 u46 u47 u48 u49 u50 u51 u52 u53 u54 u55 u56 u57 u58 u59 u60 u61 u62 u63 u64 u65 u66 u67 u68 u69 u70 u71 u72 u73 u74 u75 u76 u77 u78 u79 u80 u81 u82 u83 u84 u85 u86 u87 u88 u89 u90 u91 u92 u93 u94 u95 u96 u97 u98 u99 u100 u101 u102 u103 u104 u105 u106 u107 u108 u109 u110 u111 u112 u113 u114 u115 u116 u117 u118 u119 u120 u121 u122 u123 u124 u125 u126 u127 u128 u129 u130 u131 u132 u133 u134 u135 u136 u137 u138 u139 u140 u141 u142 u143 u144 u145 u146 u147 u148 u149 u150 u151 u152 u153 u154 u155 u156 u157 u158 u159 u160 u161 u162 u163 u164 u165 u166 u167 u168 u169 u170 u171 u172 u173 u174 u175 u176 u177 u178 u179 u180 u181 u182 u183 u184 u185 u186 u187 u188 u189 u190 u191 wr hx hn hnb hok hls hl7 hm hbb hfl hfb hpos hkr hu
  have HC : Hid (∀ t, t < 19 → wr.cell? ⟨F, t, none⟩ = some (.int .i64 ((fs.getD t 0 : Nat) : Int))) := fun t ht => hx.at (by omega)
  have HFB : Hid (∀ s, fs.getD s 0 ≤ 4096) := hfb
  clear hx hn hok hls hl7 hm hbb hfl hfb hpos hkr
  conv => arg 2; whnf
  go_upto_region 17 with fail
  rename_i k1 hk1 k2 hk2
  have HK : Hid _ := hk1
  clear hk1
  go_wp2_with fail
  go_loopg [15, 16] 19 (fun gk v15 v16 wx => ∃ (k u : Nat), v15 = .int .i64 u ∧ v16 = .int .i64 k ∧ k + gk = 19 ∧ Hid (u = (syUp fs k).length) ∧ wr = wx)
  case atStart => exact ⟨0, 0, rfl, rfl, rfl, rfl, rfl⟩
  case round =>
    obtain ⟨k, u, rfl, rfl, hk, HU, hw⟩ := hrel
    subst hw
    have hu : u ≤ k := by rw [HU.out]; exact syUp_len fs k
    rcases Nat.lt_or_ge k 19 with hlt | hge
    · obtain ⟨f, hfe⟩ : ∃ f, f = fs.getD k 0 := ⟨_, rfl⟩
      have hc := HC.out k hlt
      rw [← hfe] at hc
      have hfbk : f ≤ 4096 := by rw [hfe]; exact HFB.out k
      have HFE : Hid (f = fs.getD k 0) := hfe
      have hk8 : (k : Int) < 19 := by omega
      clear hfe
      rcases Nat.eq_zero_or_pos f with hf0 | hf0
      · subst hf0
        go_wp2_with fail
        go_roundg (gk - 1)
        case measure => omega
        case rel => exact ⟨k + 1, u, rfl, by go_num, by omega, by show u = _; rw [HU.out, syUp_no (by rw [← HFE.out]; omega)], rfl⟩
      · have hf1 : (0 : Int) < (f : Int) := by omega
        go_wp2_with fail
        go_roundg (gk - 1)
        case measure => omega
        case rel => exact ⟨k + 1, u + 1, by go_num, by go_num, by omega, by show u + 1 = _; rw [HU.out, syUp_yes (by rw [← HFE.out]; exact hf0)]; simp, rfl⟩
    · have hk9 : k = 19 := by omega
      subst hk9
      go_wp2_with fail
      exact HK.out _ _ (HN.out _ _ _ _ _ _ _ _ _ _ _ _ _ _ _ _ _ _ _ _ _ _ _ _ _ _ _ _ _ _ _ _ _ _ _ _ _ _ _ _ _ _ _ _ _ _ _ _ _ _ _ _ _ _ _ _ _ _ _ _ _ _ _ _ _ _ _ _ _ _ _ _ _ _ _ _ _ _ _ _ _ _ _ _ _ _ _ _ _ _ _ _ _ _ _ _ _ _ _ _ _ _ _ _ _ _ _ _ _ _ _ _ _ _ _ _ _ _ _ _ _ _ _ _ _ _ _ _ _ _ _ _ _ _ _ _ _ _ _ _ _ _ _ _ _ _ _ _ _ _ _ _ _ _ _ _ _ _ _ _ _ _ _ _ _ _ _ _ _ _ _ _ _ _ _ _ _ _ _ _ _ _ _ _ _ _ _ _ u HU.out)
end Go.Proofs.YbulkccziDoor
