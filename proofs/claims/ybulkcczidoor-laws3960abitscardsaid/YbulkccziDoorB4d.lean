import Derived.Test.YbulkccziDoorB4e
namespace Go.Proofs.YbulkccziDoor
open Go.RowKit
/-! LawS3960ABits: from the Kraft sum on. -/
set_option maxRecDepth 8000 in
set_option maxHeartbeats 8000000 in
theorem q_cmp (w : World) (H C mm bb nt tc : Nat) (ta : Option Addr) (ls : List Nat) (bs : List Value) (T : List Tk) (u0 u1 u2 u3 u4 u5 u6 u7 u8 u10 u12 u13 u14 u15 u16 u17 u18 u19 u20 u21 u22 u24 u25 u26 u27 u28 u29 u30 u31 u32 u33 u34 u35 u36 u37 u38 u39 u40 u41 u42 u43 u44 u45 u46 u47 u48 u49 u50 u51 u52 u53 u54 u55 u56 u57 u58 u59 u60 u61 u62 u63 u64 u65 u66 u67 u68 u69 u70 u71 u72 u73 u74 u75 u76 u77 u78 u79 u80 u81 u82 u83 u84 u85 u86 u87 u88 u89 u90 u91 u92 u93 u94 u95 u96 u97 u98 u99 u100 u101 u102 u103 u104 u105 u106 u107 u108 u109 u110 u111 u112 u113 u114 u115 u116 u117 u118 u119 u120 u121 u122 u123 u124 u125 u126 u127 u128 u129 u130 u131 u132 u133 u134 u135 u136 u137 u138 u139 u140 u141 u142 u143 u144 u145 u146 u147 u148 u149 u150 u151 u152 u153 u154 u155 u156 u157 u158 u159 u160 u161 u162 u163 u164 u165 u166 u167 u168 u169 u170 u171 u172 u173 u174 u175 u176 u177 u178 u179 u180 u181 u182 u183 u184 u185 u186 u187 u188 u189 u190 u191 : Value) (wr : World) (hx : BX w H C mm bb nt tc ta ls bs T wr) (hn : nt = T.length) (hnb : nt ≤ 3000) (hok : ∀ p ∈ T, tOk p) (hls : ls.length = 19) (hl7 : ∀ s, ls.getD s 0 ≤ 7) (hm : mm = ncl ls 19) (hbb : bb = 14 + 3 * mm + bitS ls T) : Code.wp Ybad.prog (nthC 19 (bodyOf Ybad.f4)) (bodyPost Ybad.prog Ybad.f4 (fun e w9 => e = .returned (.bool true) ∧ Below w.heap.size w w9)) ⟨#[u0, u1, u2, u3, u4, u5, u6, u7, u8, .pointer (some ⟨H, 0, none⟩), u10, .pointer (some ⟨C, 0, none⟩), u12, u13, u14, u15, u16, u17, u18, u19, u20, u21, u22, .int .i64 (mm : Int), u24, u25, u26, u27, u28, u29, u30, u31, u32, u33, u34, u35, u36, u37, u38, u39, u40, u41, u42, u43, u44, u45, u46, u47, u48, u49, u50, u51, u52, u53, u54, u55, u56, u57, u58, u59, u60, u61, u62, u63, u64, u65, u66, u67, u68, u69, u70, u71, u72, u73, u74, u75, u76, u77, u78, u79, u80, u81, u82, u83, u84, u85, u86, u87, u88, u89, u90, u91, u92, u93, u94, u95, u96, u97, u98, u99, u100, u101, u102, u103, u104, u105, u106, u107, u108, u109, u110, u111, u112, u113, u114, u115, u116, u117, u118, u119, u120, u121, u122, u123, u124, u125, u126, u127, u128, u129, u130, u131, u132, u133, u134, u135, u136, u137, u138, u139, u140, u141, u142, u143, u144, u145, u146, u147, u148, u149, u150, u151, u152, u153, u154, u155, u156, u157, u158, u159, u160, u161, u162, u163, u164, u165, u166, u167, u168, u169, u170, u171, u172, u173, u174, u175, u176, u177, u178, u179, u180, u181, u182, u183, u184, u185, u186, u187, u188, u189, u190, u191], []⟩ wr := by
  have hm19 : mm ≤ 19 := by rw [hm]; exact ncl_le ls 19
  have HN : Hid (∀ (u0 u1 u2 u3 u4 u5 u6 u7 u8 u10 u12 u13 u14 u15 u16 u17 u18 u19 u20 u21 u22 u23 u25 u26 u27 u28 u29 u30 u31 u32 u33 u34 u35 u36 u37 u38 u39 u40 u41 u42 u43 u44 u45 u46 u47 u48 u49 u50 u51 u52 u53 u54 u55 u56 u57 u58 u59 u60 u61 u62 u63 u64 u65 u66 u67 u68 u69 u70 u71 u72 u73 u74 u75 u76 u77 u78 u79 u80 u81 u82 u83 u84 u85 u86 u87 u88 u89 u90 u91 u92 u93 u94 u95 u96 u97 u98 u99 u100 u101 u102 u103 u104 u105 u106 u107 u108 u109 u110 u111 u112 u113 u114 u115 u116 u117 u118 u119 u120 u121 u122 u123 u124 u125 u126 u127 u128 u129 u130 u131 u132 u133 u134 u135 u136 u137 u138 u139 u140 u141 u142 u143 u144 u145 u146 u147 u148 u149 u150 u151 u152 u153 u154 u155 u156 u157 u158 u159 u160 u161 u162 u163 u164 u165 u166 u167 u168 u169 u170 u171 u172 u173 u174 u175 u176 u177 u178 u179 u180 u181 u182 u183 u184 u185 u186 u187 u188 u189 u190 u191 : Value) (b0 : Nat) (wr : World), b0 = 14 + 3 * mm → BX w H C mm bb nt tc ta ls bs T wr → Code.wp Ybad.prog (nthC 21 (bodyOf Ybad.f4)) (bodyPost Ybad.prog Ybad.f4 (fun e w9 => e = .returned (.bool true) ∧ Below w.heap.size w w9)) ⟨#[u0, u1, u2, u3, u4, u5, u6, u7, u8, .pointer (some ⟨H, 0, none⟩), u10, .pointer (some ⟨C, 0, none⟩), u12, u13, u14, u15, u16, u17, u18, u19, u20, u21, u22, u23, .int .i64 (b0 : Int), u25, u26, u27, u28, u29, u30, u31, u32, u33, u34, u35, u36, u37, u38, u39, u40, u41, u42, u43, u44, u45, u46, u47, u48, u49, u50, u51, u52, u53, u54, u55, u56, u57, u58, u59, u60, u61, u62, u63, u64, u65, u66, u67, u68, u69, u70, u71, u72, u73, u74, u75, u76, u77, u78, u79, u80, u81, u82, u83, u84, u85, u86, u87, u88, u89, u90, u91, u92, u93, u94, u95, u96, u97, u98, u99, u100, u101, u102, u103, u104, u105, u106, u107, u108, u109, u110, u111, u112, u113, u114, u115, u116, u117, u118, u119, u120, u121, u122, u123, u124, u125, u126, u127, u128, u129, u130, u131, u132, u133, u134, u135, u136, u137, u138, u139, u140, u141, u142, u143, u144, u145, u146, u147, u148, u149, u150, u151, u152, u153, u154, u155, u156, u157, u158, u159, u160, u161, u162, u163, u164, u165, u166, u167, u168, u169, u170, u171, u172, u173, u174, u175, u176, u177, u178, u179, u180, u181, u182, u183, u184, u185, u186, u187, u188, u189, u190, u191], []⟩ wr) := fun u0 u1 u2 u3 u4 u5 u6 u7 u8 u10 u12 u13 u14 u15 u16 u17 u18 u19 u20 u21 u22 u23 u25 u26 u27 u28 u29 u30 u31 u32 u33 u34 u35 u36 u37 u38 u39 u40 u41 u42 u43 u44 u45 u46 u47 u48 u49 u50 u51 u52 u53 u54 u55 u56 u57 u58 u59 u60 u61 u62 u63 u64 u65 u66 u67 u68 u69 u70 u71 u72 u73 u74 u75 u76 u77 u78 u79 u80 u81 u82 u83 u84 u85 u86 u87 u88 u89 u90 u91 u92 u93 u94 u95 u96 u97 u98 u99 u100 u101 u102 u103 u104 u105 u106 u107 u108 u109 u110 u111 u112 u113 u114 u115 u116 u117 u118 u119 u120 u121 u122 u123 u124 u125 u126 u127 u128 u129 u130 u131 u132 u133 u134 u135 u136 u137 u138 u139 u140 u141 u142 u143 u144 u145 u146 u147 u148 u149 u150 u151 u152 u153 u154 u155 u156 u157 u158 u159 u160 u161 u162 u163 u164 u165 u166 u167 u168 u169 u170 u171 u172 u173 u174 u175 u176 u177 u178 u179 u180 u181 u182 u183 u184 u185 u186 u187 u188 u189 u190 u191 b0 wr hb hx => q_bit w H C mm bb nt tc ta ls bs T b0 u0 u1 u2 u3 u4 u5 u6 u7 u8 u10 u12 u13 u14 u15 u16 u17 u18 u19 u20 u21 u22 u23 u25 u26 u27 u28 u29 u30 u31 u32 u33 u34 u35 u36 u37 u38 u39 u40 u41 u42 u43 u44 u45 u46 u47 u48 u49 u50 u51 u52 u53 u54 u55 u56 u57 u58 u59 u60 u61 u62 u63 u64 u65 u66 u67 u68 u69 u70 u71 u72 u73 u74 u75 u76 u77 u78 u79 u80 u81 u82 u83 u84 u85 u86 u87 u88 u89 u90 u91 u92 u93 u94 u95 u96 u97 u98 u99 u100 u101 u102 u103 u104 u105 u106 u107 u108 u109 u110 u111 u112 u113 u114 u115 u116 u117 u118 u119 u120 u121 u122 u123 u124 u125 u126 u127 u128 u129 u130 u131 u132 u133 u134 u135 u136 u137 u138 u139 u140 u141 u142 u143 u144 u145 u146 u147 u148 u149 u150 u151 u152 u153 u154 u155 u156 u157 u158 u159 u160 u161 u162 u163 u164 u165 u166 u167 u168 u169 u170 u171 u172 u173 u174 u175 u176 u177 u178 u179 u180 u181 u182 u183 u184 u185 u186 u187 u188 u189 u190 u191 wr hx hn hnb hok hls hl7 (by omega) (by rw [hb]; exact hbb)
  have h2 := hx.h2
  have HX : Hid (BX w H C mm bb nt tc ta ls bs T wr) := hx
  obtain ⟨b0, hb0⟩ : ∃ b0, b0 = 14 + 3 * mm := ⟨_, rfl⟩
  have HB0 : Hid (b0 = 14 + 3 * mm) := hb0
  have hb0c : 14 + 3 * (mm : Int) = (b0 : Int) := by omega
  clear hx hn hok hls hl7 hm hbb hb0
  conv => arg 2; whnf
  go_upto_region 50 with fail
  rename_i hK
  have HK : Hid _ := hK
  clear hK
  go_wp2_with fail
  exact HK.out _ _ (HN.out _ _ _ _ _ _ _ _ _ _ _ _ _ _ _ _ _ _ _ _ _ _ _ _ _ _ _ _ _ _ _ _ _ _ _ _ _ _ _ _ _ _ _ _ _ _ _ _ _ _ _ _ _ _ _ _ _ _ _ _ _ _ _ _ _ _ _ _ _ _ _ _ _ _ _ _ _ _ _ _ _ _ _ _ _ _ _ _ _ _ _ _ _ _ _ _ _ _ _ _ _ _ _ _ _ _ _ _ _ _ _ _ _ _ _ _ _ _ _ _ _ _ _ _ _ _ _ _ _ _ _ _ _ _ _ _ _ _ _ _ _ _ _ _ _ _ _ _ _ _ _ _ _ _ _ _ _ _ _ _ _ _ _ _ _ _ _ _ _ _ _ _ _ _ _ _ _ _ _ _ _ _ _ _ _ _ _ _ _ b0 _ HB0.out HX.out)
structure OX (w : World) (H C mm bb nt tc : Nat) (ta : Option Addr) (ls : List Nat) (bs : List Value) (T : List Tk) (O : Nat) (wr : World) : Prop where
  x : BX w H C mm bb nt tc ta ls bs T wr
  o : ∀ t, t < 19 → wr.cell? ⟨O, t, none⟩ = some (.int .u8 ((ordL.getD t 0 : Nat) : Int))
set_option maxRecDepth 8000 in
set_option maxHeartbeats 8000000 in
theorem q_ncl (w : World) (H C mm bb nt tc : Nat) (ta : Option Addr) (ls : List Nat) (bs : List Value) (T : List Tk) (O : Nat) (u0 u1 u2 u3 u4 u5 u6 u7 u8 u10 u12 u13 u14 u15 u16 u17 u18 u19 u20 u21 u24 u25 u26 u27 u28 u29 u30 u31 u32 u33 u34 u35 u36 u37 u38 u39 u40 u41 u42 u43 u44 u45 u46 u47 u48 u49 u50 u51 u52 u53 u54 u55 u56 u57 u58 u59 u60 u61 u62 u63 u64 u65 u66 u67 u68 u69 u70 u71 u72 u73 u74 u75 u76 u77 u78 u79 u80 u81 u82 u83 u84 u85 u86 u87 u88 u89 u90 u91 u92 u93 u94 u95 u96 u97 u98 u99 u100 u101 u102 u103 u104 u105 u106 u107 u108 u109 u110 u111 u112 u113 u114 u115 u116 u117 u118 u119 u120 u121 u122 u123 u124 u125 u126 u127 u128 u129 u130 u131 u132 u133 u134 u135 u136 u137 u138 u139 u140 u141 u142 u143 u144 u145 u146 u147 u148 u149 u150 u151 u152 u153 u154 u155 u156 u157 u158 u159 u160 u161 u162 u163 u164 u165 u166 u167 u168 u169 u170 u171 u172 u173 u174 u175 u176 u177 u178 u179 u180 u181 u182 u183 u184 u185 u186 u187 u188 u189 u190 u191 : Value) (wr : World) (ho : OX w H C mm bb nt tc ta ls bs T O wr) (hn : nt = T.length) (hnb : nt ≤ 3000) (hok : ∀ p ∈ T, tOk p) (hls : ls.length = 19) (hl7 : ∀ s, ls.getD s 0 ≤ 7) (hm : mm = ncl ls 19) (hbb : bb = 14 + 3 * mm + bitS ls T) : Code.wp Ybad.prog (nthC 18 (bodyOf Ybad.f4)) (bodyPost Ybad.prog Ybad.f4 (fun e w9 => e = .returned (.bool true) ∧ Below w.heap.size w w9)) ⟨#[u0, u1, u2, u3, u4, u5, u6, u7, u8, .pointer (some ⟨H, 0, none⟩), u10, .pointer (some ⟨C, 0, none⟩), u12, u13, u14, u15, u16, u17, u18, u19, u20, u21, .pointer (some ⟨O, 0, none⟩), .int .i64 19, u24, u25, u26, u27, u28, u29, u30, u31, u32, u33, u34, u35, u36, u37, u38, u39, u40, u41, u42, u43, u44, u45, u46, u47, u48, u49, u50, u51, u52, u53, u54, u55, u56, u57, u58, u59, u60, u61, u62, u63, u64, u65, u66, u67, u68, u69, u70, u71, u72, u73, u74, u75, u76, u77, u78, u79, u80, u81, u82, u83, u84, u85, u86, u87, u88, u89, u90, u91, u92, u93, u94, u95, u96, u97, u98, u99, u100, u101, u102, u103, u104, u105, u106, u107, u108, u109, u110, u111, u112, u113, u114, u115, u116, u117, u118, u119, u120, u121, u122, u123, u124, u125, u126, u127, u128, u129, u130, u131, u132, u133, u134, u135, u136, u137, u138, u139, u140, u141, u142, u143, u144, u145, u146, u147, u148, u149, u150, u151, u152, u153, u154, u155, u156, u157, u158, u159, u160, u161, u162, u163, u164, u165, u166, u167, u168, u169, u170, u171, u172, u173, u174, u175, u176, u177, u178, u179, u180, u181, u182, u183, u184, u185, u186, u187, u188, u189, u190, u191], []⟩ wr := by
  have HN : Hid (∀ (u0 u1 u2 u3 u4 u5 u6 u7 u8 u10 u12 u13 u14 u15 u16 u17 u18 u19 u20 u21 u22 u24 u25 u26 u27 u28 u29 u30 u31 u32 u33 u34 u35 u36 u37 u38 u39 u40 u41 u42 u43 u44 u45 u46 u47 u48 u49 u50 u51 u52 u53 u54 u55 u56 u57 u58 u59 u60 u61 u62 u63 u64 u65 u66 u67 u68 u69 u70 u71 u72 u73 u74 u75 u76 u77 u78 u79 u80 u81 u82 u83 u84 u85 u86 u87 u88 u89 u90 u91 u92 u93 u94 u95 u96 u97 u98 u99 u100 u101 u102 u103 u104 u105 u106 u107 u108 u109 u110 u111 u112 u113 u114 u115 u116 u117 u118 u119 u120 u121 u122 u123 u124 u125 u126 u127 u128 u129 u130 u131 u132 u133 u134 u135 u136 u137 u138 u139 u140 u141 u142 u143 u144 u145 u146 u147 u148 u149 u150 u151 u152 u153 u154 u155 u156 u157 u158 u159 u160 u161 u162 u163 u164 u165 u166 u167 u168 u169 u170 u171 u172 u173 u174 u175 u176 u177 u178 u179 u180 u181 u182 u183 u184 u185 u186 u187 u188 u189 u190 u191 : Value) (wr : World), BX w H C mm bb nt tc ta ls bs T wr → Code.wp Ybad.prog (nthC 19 (bodyOf Ybad.f4)) (bodyPost Ybad.prog Ybad.f4 (fun e w9 => e = .returned (.bool true) ∧ Below w.heap.size w w9)) ⟨#[u0, u1, u2, u3, u4, u5, u6, u7, u8, .pointer (some ⟨H, 0, none⟩), u10, .pointer (some ⟨C, 0, none⟩), u12, u13, u14, u15, u16, u17, u18, u19, u20, u21, u22, .int .i64 (mm : Int), u24, u25, u26, u27, u28, u29, u30, u31, u32, u33, u34, u35, u36, u37, u38, u39, u40, u41, u42, u43, u44, u45, u46, u47, u48, u49, u50, u51, u52, u53, u54, u55, u56, u57, u58, u59, u60, u61, u62, u63, u64, u65, u66, u67, u68, u69, u70, u71, u72, u73, u74, u75, u76, u77, u78, u79, u80, u81, u82, u83, u84, u85, u86, u87, u88, u89, u90, u91, u92, u93, u94, u95, u96, u97, u98, u99, u100, u101, u102, u103, u104, u105, u106, u107, u108, u109, u110, u111, u112, u113, u114, u115, u116, u117, u118, u119, u120, u121, u122, u123, u124, u125, u126, u127, u128, u129, u130, u131, u132, u133, u134, u135, u136, u137, u138, u139, u140, u141, u142, u143, u144, u145, u146, u147, u148, u149, u150, u151, u152, u153, u154, u155, u156, u157, u158, u159, u160, u161, u162, u163, u164, u165, u166, u167, u168, u169, u170, u171, u172, u173, u174, u175, u176, u177, u178, u179, u180, u181, u182, u183, u184, u185, u186, u187, u188, u189, u190, u191], []⟩ wr) := fun u0 u1 u2 u3 u4 u5 u6 u7 u8 u10 u12 u13 u14 u15 u16 u17 u18 u19 u20 u21 u22 u24 u25 u26 u27 u28 u29 u30 u31 u32 u33 u34 u35 u36 u37 u38 u39 u40 u41 u42 u43 u44 u45 u46 u47 u48 u49 u50 u51 u52 u53 u54 u55 u56 u57 u58 u59 u60 u61 u62 u63 u64 u65 u66 u67 u68 u69 u70 u71 u72 u73 u74 u75 u76 u77 u78 u79 u80 u81 u82 u83 u84 u85 u86 u87 u88 u89 u90 u91 u92 u93 u94 u95 u96 u97 u98 u99 u100 u101 u102 u103 u104 u105 u106 u107 u108 u109 u110 u111 u112 u113 u114 u115 u116 u117 u118 u119 u120 u121 u122 u123 u124 u125 u126 u127 u128 u129 u130 u131 u132 u133 u134 u135 u136 u137 u138 u139 u140 u141 u142 u143 u144 u145 u146 u147 u148 u149 u150 u151 u152 u153 u154 u155 u156 u157 u158 u159 u160 u161 u162 u163 u164 u165 u166 u167 u168 u169 u170 u171 u172 u173 u174 u175 u176 u177 u178 u179 u180 u181 u182 u183 u184 u185 u186 u187 u188 u189 u190 u191 wr hx => q_cmp w H C mm bb nt tc ta ls bs T u0 u1 u2 u3 u4 u5 u6 u7 u8 u10 u12 u13 u14 u15 u16 u17 u18 u19 u20 u21 u22 u24 u25 u26 u27 u28 u29 u30 u31 u32 u33 u34 u35 u36 u37 u38 u39 u40 u41 u42 u43 u44 u45 u46 u47 u48 u49 u50 u51 u52 u53 u54 u55 u56 u57 u58 u59 u60 u61 u62 u63 u64 u65 u66 u67 u68 u69 u70 u71 u72 u73 u74 u75 u76 u77 u78 u79 u80 u81 u82 u83 u84 u85 u86 u87 u88 u89 u90 u91 u92 u93 u94 u95 u96 u97 u98 u99 u100 u101 u102 u103 u104 u105 u106 u107 u108 u109 u110 u111 u112 u113 u114 u115 u116 u117 u118 u119 u120 u121 u122 u123 u124 u125 u126 u127 u128 u129 u130 u131 u132 u133 u134 u135 u136 u137 u138 u139 u140 u141 u142 u143 u144 u145 u146 u147 u148 u149 u150 u151 u152 u153 u154 u155 u156 u157 u158 u159 u160 u161 u162 u163 u164 u165 u166 u167 u168 u169 u170 u171 u172 u173 u174 u175 u176 u177 u178 u179 u180 u181 u182 u183 u184 u185 u186 u187 u188 u189 u190 u191 wr hx hn hnb hok hls hl7 hm hbb
  have HO : Hid (OX w H C mm bb nt tc ta ls bs T O wr) := ho
  have HM : Hid (mm = ncl ls 19) := hm
  have HLS : Hid (ls.length = 19) := hls
  clear ho hn hok hls hl7 hm hbb
  conv => arg 2; whnf
  go_upto_block 10 with fail
  rename_i hK
  have HK : Hid _ := hK
  clear hK
  go_wp2_with fail
  go_loopg [23] 19 (fun gk vs wx => vs = .int .i64 (gk : Int) ∧ gk ≤ 19 ∧ Hid (ncl ls gk = ncl ls 19) ∧ wr = wx)
  case atStart => exact ⟨rfl, Nat.le_refl _, rfl, rfl⟩
  case round =>
    obtain ⟨rfl, hgk, HT, hw⟩ := hrel
    subst hw
    go_upto_region 46 with fail
    go_cut [142] (fun vt wx => ∃ tt : Bool, vt = .bool tt ∧ Hid (tt = true ↔ (4 < gk ∧ ls.getD (ordL.getD (gk - 1) 0) 0 = 0)) ∧ wx = wr)
    case first =>
      rcases Nat.lt_or_ge 4 gk with hb | hb
      · obtain ⟨k, hk⟩ : ∃ k, gk = k + 1 := ⟨gk - 1, by omega⟩
        have hk1 : (gk : Int) - 1 = (k : Int) := by omega
        have hk9 : k < 19 := by omega
        obtain ⟨o, hoo⟩ : ∃ o, o = ordL.getD k 0 := ⟨_, rfl⟩
        have ho9 : o < 19 := by rw [hoo]; exact ordL_lt ⟨k, hk9⟩
        have hco : wr.cell? ⟨O, k, none⟩ = some (.int .u8 (o : Int)) := by rw [hoo]; exact HO.out.o k hk9
        obtain ⟨y, hy⟩ : ∃ y, y = ls.getD o 0 := ⟨_, rfl⟩
        have hcy : wr.cell? ⟨C, o, none⟩ = some (.int .u8 (y : Int)) := by rw [hy]; exact HO.out.x.len (by have := HLS.out; omega)
        have HK2 : Hid (gk - 1 = k ∧ y = ls.getD (ordL.getD k 0) 0) := ⟨by omega, by rw [← hoo]; exact hy⟩
        have ho8 : (o : Int) < 288 := by omega
        have hk8 : (k : Int) < 19 := by omega
        have hb1 : (4 : Int) < (gk : Int) := by omega
        clear hk hy hoo
        go_wp2_with fail
        go_meet
        case rel => exact ⟨_, rfl, by show _ ↔ _; rw [HK2.out.1, ← HK2.out.2]; simp [hb], rfl⟩
      · have hb1 : ¬ 4 < gk := by omega
        have hb2 : decide (4 < gk) = false := decide_eq_false hb1
        have hb3 : decide ((4 : Int) < (gk : Int)) = false := decide_eq_false (by omega)
        go_wp2_with fail
        go_meet
        case rel => exact ⟨_, rfl, by show _ ↔ _; simp [hb1], rfl⟩
    case rest =>
      obtain ⟨tt, rfl, HTT, hwc⟩ := hcut
      rw [hwc]
      clear hwc
      cases tt with
      | true =>
        have ht := HTT.out.1 rfl
        obtain ⟨k, hk⟩ : ∃ k, gk = k + 1 := ⟨gk - 1, by omega⟩
        have hk1 : (gk : Int) - 1 = (k : Int) := by omega
        have HT2 : Hid (k ≤ 19 ∧ ncl ls k = ncl ls 19) := ⟨by omega, by rw [← HT.out, hk, ncl_go (by omega) (by rw [hk] at ht; simpa using ht.2)]⟩
        have HKG : Hid (k < gk) := by show k < gk; omega
        clear hk ht HTT
        go_wp2_with fail
        go_roundg k
        case measure => exact HKG.out
        case rel => exact ⟨rfl, HT2.out.1, HT2.out.2, rfl⟩
      | false =>
        have HNL : Hid (gk = ncl ls 19) := by
          show _ = _
          rw [← HT.out, ncl_stop (fun h => by have := HTT.out.2 h; cases this)]
        have hgx : gk = mm := HNL.out.trans HM.out.symm
        clear HTT HT HNL
        subst hgx
        go_wp2_with fail
        exact HK.out _ _ (HN.out _ _ _ _ _ _ _ _ _ _ _ _ _ _ _ _ _ _ _ _ _ _ _ _ _ _ _ _ _ _ _ _ _ _ _ _ _ _ _ _ _ _ _ _ _ _ _ _ _ _ _ _ _ _ _ _ _ _ _ _ _ _ _ _ _ _ _ _ _ _ _ _ _ _ _ _ _ _ _ _ _ _ _ _ _ _ _ _ _ _ _ _ _ _ _ _ _ _ _ _ _ _ _ _ _ _ _ _ _ _ _ _ _ _ _ _ _ _ _ _ _ _ _ _ _ _ _ _ _ _ _ _ _ _ _ _ _ _ _ _ _ _ _ _ _ _ _ _ _ _ _ _ _ _ _ _ _ _ _ _ _ _ _ _ _ _ _ _ _ _ _ _ _ _ _ _ _ _ _ _ _ _ _ _ _ _ _ _ _ _ HO.out.x)
end Go.Proofs.YbulkccziDoor
