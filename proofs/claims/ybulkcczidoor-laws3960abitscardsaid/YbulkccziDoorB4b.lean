import Derived.Test.YbulkccziDoorB4c
namespace Go.Proofs.YbulkccziDoor
open Go.RowKit
/-! LawS3960ABits: the Kraft sum. -/
def iA (fs : List Nat) : Array Value := (fs.map (fun z => Value.int .i64 (z : Nat))).toArray
theorem iA_at (fs : List Nat) (i : Nat) (h : i < fs.length) : (iA fs)[i]? = some (.int .i64 ((fs.getD i 0 : Nat) : Int)) := by simp [iA, List.getD, h]
theorem iA_set (fs : List Nat) (i z : Nat) : (iA fs).setIfInBounds i (.int .i64 (z : Nat)) = iA (fs.set i z) := by
  apply Array.ext'
  simp [iA, List.map_set]
structure BF (w : World) (H C mm bb nt tc : Nat) (ta : Option Addr) (ls : List Nat) (bs : List Value) (T : List Tk) (F : Nat) (fs : List Nat) (wr : World) : Prop where
  base : ∃ w3, BX w H C mm bb nt tc ta ls bs T w3 ∧ Below w3.heap.size w3 wr ∧ w3.heap.size ≤ F
  nb : wr.heap[F]? = some (.cells (iA fs) 50 (0, 0))
section
variable {w : World} {H C mm bb nt tc : Nat} {ta : Option Addr} {ls : List Nat} {bs : List Value} {T : List Tk} {F : Nat} {fs : List Nat} {wr : World}
theorem BF.bx (h : BF w H C mm bb nt tc ta ls bs T F fs wr) : BX w H C mm bb nt tc ta ls bs T wr := by
  obtain ⟨w3, hx, hb, _⟩ := h.base
  exact hx.next hb
theorem BF.alloc (h : BF w H C mm bb nt tc ta ls bs T F fs wr) (o : Obj) : BF w H C mm bb nt tc ta ls bs T F fs (wr.alloc o) := by
  obtain ⟨w3, hx, hb, hl⟩ := h.base
  exact ⟨⟨w3, hx, hb.alloc hb.size o, hl⟩, by rw [Below.heap_alloc _ _ _ (Array.getElem?_eq_some_iff.1 h.nb).1]; exact h.nb⟩
theorem BF.inc (h : BF w H C mm bb nt tc ta ls bs T F fs wr) (s z : Nat) : BF w H C mm bb nt tc ta ls bs T F (fs.set s z) (wr.setCell ⟨F, s, none⟩ (.int .i64 (z : Int))) := by
  obtain ⟨w3, hx, hb, hl⟩ := h.base
  exact ⟨⟨w3, hx, hb.setCell hl _, hl⟩, by rw [heap_setCell_same' _ _ _ _ _ _ h.nb, iA_set]⟩
theorem BF.start (h : BX w H C mm bb nt tc ta ls bs T wr) : BF w H C mm bb nt tc ta ls bs T wr.heap.size zeroL (wr.alloc (.cells (iA zeroL) 50)) :=
  ⟨⟨wr, h, (Below.refl _ _).alloc (Nat.le_refl _) _, Nat.le_refl _⟩, heap_alloc_new wr _⟩
theorem BF.at (h : BF w H C mm bb nt tc ta ls bs T F fs wr) {s : Nat} (hs : s < fs.length) : wr.cell? ⟨F, s, none⟩ = some (.int .i64 ((fs.getD s 0 : Nat) : Int)) := cellAt h.nb s _ (iA_at fs s hs)
end
set_option maxRecDepth 8000 in
set_option maxHeartbeats 8000000 in
theorem q_kr (w : World) (H C mm bb nt tc : Nat) (ta : Option Addr) (ls : List Nat) (bs : List Value) (T : List Tk) (F : Nat) (fs : List Nat) (u0 u1 u2 u3 u4 u5 u6 u7 u8 u10 u13 u14 u15 u16 u17 u18 u19 u20 u21 u22 u23 u24 u25 u26 u27 u28 u29 u30 u31 u32 u33 u34 u35 u36 u37 u38 u39 u40 u41 u42 u43 u44 u45 u46 u47 u48 u49 u50 u51 u52 u53 u54 u55 u56 u57 u58 u59 u60 u61 u62 u63 u64 u65 u66 u67 u68 u69 u70 u71 u72 u73 u74 u75 u76 u77 u78 u79 u80 u81 u82 u83 u84 u85 u86 u87 u88 u89 u90 u91 u92 u93 u94 u95 u96 u97 u98 u99 u100 u101 u102 u103 u104 u105 u106 u107 u108 u109 u110 u111 u112 u113 u114 u115 u116 u117 u118 u119 u120 u121 u122 u123 u124 u125 u126 u127 u128 u129 u130 u131 u132 u133 u134 u135 u136 u137 u138 u139 u140 u141 u142 u143 u144 u145 u146 u147 u148 u149 u150 u151 u152 u153 u154 u155 u156 u157 u158 u159 u160 u161 u162 u163 u164 u165 u166 u167 u168 u169 u170 u171 u172 u173 u174 u175 u176 u177 u178 u179 u180 u181 u182 u183 u184 u185 u186 u187 u188 u189 u190 u191 : Value) (wr : World) (hx : BF w H C mm bb nt tc ta ls bs T F fs wr) (hn : nt = T.length) (hnb : nt ≤ 3000) (hok : ∀ p ∈ T, tOk p) (hls : ls.length = 19) (hl7 : ∀ s, ls.getD s 0 ≤ 7) (hm : mm = ncl ls 19) (hbb : bb = 14 + 3 * mm + bitS ls T) (hfl : fs.length = 19) (hfb : ∀ s, fs.getD s 0 ≤ 4096) (hpos : ∀ s, s < 19 → (0 < ls.getD s 0 ↔ 0 < fs.getD s 0)) (hkr : krK ls 19 = 128) : Code.wp Ybad.prog (nthC 12 (bodyOf Ybad.f4)) (bodyPost Ybad.prog Ybad.f4 (fun e w9 => e = .returned (.bool true) ∧ Below w.heap.size w w9)) ⟨#[u0, u1, u2, u3, u4, u5, u6, u7, u8, .pointer (some ⟨H, 0, none⟩), u10, .pointer (some ⟨C, 0, none⟩), .pointer (some ⟨F, 0, none⟩), u13, u14, u15, u16, u17, u18, u19, u20, u21, u22, u23, u24, u25, u26, u27, u28, u29, u30, u31, u32, u33, u34, u35, u36, u37, u38, u39, u40, u41, u42, u43, u44, u45, u46, u47, u48, u49, u50, u51, u52, u53, u54, u55, u56, u57, u58, u59, u60, u61, u62, u63, u64, u65, u66, u67, u68, u69, u70, u71, u72, u73, u74, u75, u76, u77, u78, u79, u80, u81, u82, u83, u84, u85, u86, u87, u88, u89, u90, u91, u92, u93, u94, u95, u96, u97, u98, u99, u100, u101, u102, u103, u104, u105, u106, u107, u108, u109, u110, u111, u112, u113, u114, u115, u116, u117, u118, u119, u120, u121, u122, u123, u124, u125, u126, u127, u128, u129, u130, u131, u132, u133, u134, u135, u136, u137, u138, u139, u140, u141, u142, u143, u144, u145, u146, u147, u148, u149, u150, u151, u152, u153, u154, u155, u156, u157, u158, u159, u160, u161, u162, u163, u164, u165, u166, u167, u168, u169, u170, u171, u172, u173, u174, u175, u176, u177, u178, u179, u180, u181, u182, u183, u184, u185, u186, u187, u188, u189, u190, u191], []⟩ wr := by
  have HN : Hid (∀ (u0 u1 u2 u3 u4 u5 u6 u7 u8 u10 u12 u13 u14 u15 u16 u17 u19 u20 u21 u22 u23 u24 u25 u26 u27 u28 u29 u30 u31 u32 u33 u34 u35 u36 u37 u38 u39 u40 u41 u42 u43 u44 u45 u46 u47 u48 u49 u50 u51 u52 u53 u54 u55 u56 u57 u58 u59 u60 u61 u62 u63 u64 u65 u66 u67 u68 u69 u70 u71 u72 u73 u74 u75 u76 u77 u78 u79 u80 u81 u82 u83 u84 u85 u86 u87 u88 u89 u90 u91 u92 u93 u94 u95 u96 u97 u98 u99 u100 u101 u102 u103 u104 u105 u106 u107 u108 u109 u110 u111 u112 u113 u114 u115 u116 u117 u118 u119 u120 u121 u122 u123 u124 u125 u126 u127 u128 u129 u130 u131 u132 u133 u134 u135 u136 u137 u138 u139 u140 u141 u142 u143 u144 u145 u146 u147 u148 u149 u150 u151 u152 u153 u154 u155 u156 u157 u158 u159 u160 u161 u162 u163 u164 u165 u166 u167 u168 u169 u170 u171 u172 u173 u174 u175 u176 u177 u178 u179 u180 u181 u182 u183 u184 u185 u186 u187 u188 u189 u190 u191 : Value), Code.wp Ybad.prog (nthC 14 (bodyOf Ybad.f4)) (bodyPost Ybad.prog Ybad.f4 (fun e w9 => e = .returned (.bool true) ∧ Below w.heap.size w w9)) ⟨#[u0, u1, u2, u3, u4, u5, u6, u7, u8, .pointer (some ⟨H, 0, none⟩), u10, .pointer (some ⟨C, 0, none⟩), u12, u13, u14, u15, u16, u17, .int .u32 128, u19, u20, u21, u22, u23, u24, u25, u26, u27, u28, u29, u30, u31, u32, u33, u34, u35, u36, u37, u38, u39, u40, u41, u42, u43, u44, u45, u46, u47, u48, u49, u50, u51, u52, u53, u54, u55, u56, u57, u58, u59, u60, u61, u62, u63, u64, u65, u66, u67, u68, u69, u70, u71, u72, u73, u74, u75, u76, u77, u78, u79, u80, u81, u82, u83, u84, u85, u86, u87, u88, u89, u90, u91, u92, u93, u94, u95, u96, u97, u98, u99, u100, u101, u102, u103, u104, u105, u106, u107, u108, u109, u110, u111, u112, u113, u114, u115, u116, u117, u118, u119, u120, u121, u122, u123, u124, u125, u126, u127, u128, u129, u130, u131, u132, u133, u134, u135, u136, u137, u138, u139, u140, u141, u142, u143, u144, u145, u146, u147, u148, u149, u150, u151, u152, u153, u154, u155, u156, u157, u158, u159, u160, u161, u162, u163, u164, u165, u166, u167, u168, u169, u170, u171, u172, u173, u174, u175, u176, u177, u178, u179, u180, u181, u182, u183, u184, u185, u186, u187, u188, u189, u190, u191], []⟩ wr) := fun u0 u1 u2 u3 u4 u5 u6 u7 u8 u10 u12 u13 u14 u15 u16 u17 u19 u20 u21 u22 u23 u24 u25 u26 u27 u28 u29 u30 u31 u32 u33 u34 u35 u36 u37 u38 u39 u40 u41 u42 u43 u44 u45 u46 u47 u48 u49 u50 u51 u52 u53 u54 u55 u56 u57 u58 u59 u60 u61 u62 u63 u64 u65 u66 u67 u68 u69 u70 u71 u72 u73 u74 u75 u76 u77 u78 u79 u80 u81 u82 u83 u84 u85 u86 u87 u88 u89 u90 u91 u92 u93 u94 u95 u96 u97 u98 u99 u100 u101 u102 u103 u104 u105 u106 u107 u108 u109 u110 u111 u112 u113 u114 u115 u116 u117 u118 u119 u120 u121 u122 u123 u124 u125 u126 u127 u128 u129 u130 u131 u132 u133 u134 u135 u136 u137 u138 u139 u140 u141 u142 u143 u144 u145 u146 u147 u148 u149 u150 u151 u152 u153 u154 u155 u156 u157 u158 u159 u160 u161 u162 u163 u164 u165 u166 u167 u168 u169 u170 u171 u172 u173 u174 u175 u176 u177 u178 u179 u180 u181 u182 u183 u184 u185 u186 u187 u188 u189 u190 u191 => q_krf w H C mm bb nt tc ta ls bs T u0 u1 u2 u3 u4 u5 u6 u7 u8 u10 u12 u13 u14 u15 u16 u17 u19 u20 u21 u22 u23 u24 u25 u26 u27 u28 u29 u30 u31 u32 u33 u34 u35 u36 u37 u38 u39 u40 u41 u42 u43 u44 u45 u46 u47 u48 u49 u50 u51 u52 u53 u54 u55 u56 u57 u58 u59 u60 u61 u62 u63 u64 u65 u66 u67 u68 u69 u70 u71 u72 u73 u74 u75 u76 u77 u78 u79 u80 u81 u82 u83 u84 u85 u86 u87 u88 u89 u90 u91 u92 u93 u94 u95 u96 u97 u98 u99 u100 u101 u102 u103 u104 u105 u106 u107 u108 u109 u110 u111 u112 u113 u114 u115 u116 u117 u118 u119 u120 u121 u122 u123 u124 u125 u126 u127 u128 u129 u130 u131 u132 u133 u134 u135 u136 u137 u138 u139 u140 u141 u142 u143 u144 u145 u146 u147 u148 u149 u150 u151 u152 u153 u154 u155 u156 u157 u158 u159 u160 u161 u162 u163 u164 u165 u166 u167 u168 u169 u170 u171 u172 u173 u174 u175 u176 u177 u178 u179 u180 u181 u182 u183 u184 u185 u186 u187 u188 u189 u190 u191 wr hx.bx hn hnb hok hls hl7 hm hbb
  have HC : Hid (∀ t, t < 19 → wr.cell? ⟨C, t, none⟩ = some (.int .u8 ((ls.getD t 0 : Nat) : Int)) ∧ wr.cell? ⟨F, t, none⟩ = some (.int .i64 ((fs.getD t 0 : Nat) : Int))) := fun t ht => ⟨hx.bx.len (by omega), hx.at (by omega)⟩
  have HL7 : Hid (∀ s, ls.getD s 0 ≤ 7) := hl7
  have HFB : Hid (∀ s, fs.getD s 0 ≤ 4096) := hfb
  have HPOS : Hid (∀ s, s < 19 → (0 < ls.getD s 0 ↔ 0 < fs.getD s 0)) := hpos
  have HKRF : Hid (krK ls 19 = 128) := hkr
  clear hx hn hok hls hl7 hm hbb hfl hfb hpos hkr
  conv => arg 2; whnf
  go_upto_region 29 with fail
  rename_i k1 hk1 k2 hk2
  have HK : Hid _ := hk1
  clear hk1
  go_wp2_with fail
  go_loopg [18, 19] 19 (fun gk v18 v19 wx => ∃ k kr : Nat, v18 = .int .u32 (kr : Int) ∧ v19 = .int .i64 (k : Int) ∧ k + gk = 19 ∧ kr ≤ 128 * k ∧ Hid (kr = krK ls k) ∧ wr = wx)
  case atStart => exact ⟨0, 0, rfl, rfl, rfl, by omega, by simp [Hid, krK], rfl⟩
  case round =>
    obtain ⟨k, kr, rfl, rfl, hk, hkb, HKR, hw⟩ := hrel
    subst hw
    rcases Nat.lt_or_ge k 19 with hlt | hge
    · obtain ⟨l, hl⟩ : ∃ l, l = ls.getD k 0 := ⟨_, rfl⟩
      obtain ⟨c, hc⟩ : ∃ c, c = fs.getD k 0 := ⟨_, rfl⟩
      have hcl := (HC.out k hlt).1
      have hcf := (HC.out k hlt).2
      rw [← hl] at hcl
      rw [← hc] at hcf
      have hl7 : l ≤ 7 := by rw [hl]; exact HL7.out k
      have hcb : c ≤ 4096 := by rw [hc]; exact HFB.out k
      have hps : 0 < l ↔ 0 < c := by rw [hl, hc]; exact HPOS.out k hlt
      have HL : Hid (l = ls.getD k 0 ∧ c = fs.getD k 0) := ⟨hl, hc⟩
      have hk8 : (k : Int) < 19 := by omega
      have hk88 : (k : Int) < 288 := by omega
      clear hl hc
      rcases Nat.eq_zero_or_pos l with h0 | h0
      · have c0 : c = 0 := by omega
        subst h0
        subst c0
        have HKS : Hid (krS ls k = 0) := by show _ = _; unfold krS; rw [← HL.out.1]; rfl
        clear hps
        go_wp2_with fail
        go_roundg (gk - 1)
        case measure => omega
        case rel => exact ⟨k + 1, kr, rfl, by go_num, by omega, by omega, by show _ = _; rw [krK_succ, ← HKR.out, HKS.out]; rfl, rfl⟩
      · have hc0 : 0 < c := hps.1 h0
        have hc1 : (0 : Int) < (c : Int) := by omega
        clear hps
        have hcase : l = 1 ∨ l = 2 ∨ l = 3 ∨ l = 4 ∨ l = 5 ∨ l = 6 ∨ l = 7 := by omega
        rcases hcase with rfl | rfl | rfl | rfl | rfl | rfl | rfl
        · have HKS : Hid (krS ls k = 64) := by show _ = _; unfold krS; rw [← HL.out.1]; rfl
          go_wp2_with fail
          go_roundg (gk - 1)
          case measure => omega
          case rel => exact ⟨k + 1, kr + 64, by go_num, by go_num, by omega, by omega, by show _ = _; rw [krK_succ, ← HKR.out, HKS.out], rfl⟩
        · have HKS : Hid (krS ls k = 32) := by show _ = _; unfold krS; rw [← HL.out.1]; rfl
          go_wp2_with fail
          go_roundg (gk - 1)
          case measure => omega
          case rel => exact ⟨k + 1, kr + 32, by go_num, by go_num, by omega, by omega, by show _ = _; rw [krK_succ, ← HKR.out, HKS.out], rfl⟩
        · have HKS : Hid (krS ls k = 16) := by show _ = _; unfold krS; rw [← HL.out.1]; rfl
          go_wp2_with fail
          go_roundg (gk - 1)
          case measure => omega
          case rel => exact ⟨k + 1, kr + 16, by go_num, by go_num, by omega, by omega, by show _ = _; rw [krK_succ, ← HKR.out, HKS.out], rfl⟩
        · have HKS : Hid (krS ls k = 8) := by show _ = _; unfold krS; rw [← HL.out.1]; rfl
          go_wp2_with fail
          go_roundg (gk - 1)
          case measure => omega
          case rel => exact ⟨k + 1, kr + 8, by go_num, by go_num, by omega, by omega, by show _ = _; rw [krK_succ, ← HKR.out, HKS.out], rfl⟩
        · have HKS : Hid (krS ls k = 4) := by show _ = _; unfold krS; rw [← HL.out.1]; rfl
          go_wp2_with fail
          go_roundg (gk - 1)
          case measure => omega
          case rel => exact ⟨k + 1, kr + 4, by go_num, by go_num, by omega, by omega, by show _ = _; rw [krK_succ, ← HKR.out, HKS.out], rfl⟩
        · have HKS : Hid (krS ls k = 2) := by show _ = _; unfold krS; rw [← HL.out.1]; rfl
          go_wp2_with fail
          go_roundg (gk - 1)
          case measure => omega
          case rel => exact ⟨k + 1, kr + 2, by go_num, by go_num, by omega, by omega, by show _ = _; rw [krK_succ, ← HKR.out, HKS.out], rfl⟩
        · have HKS : Hid (krS ls k = 1) := by show _ = _; unfold krS; rw [← HL.out.1]; rfl
          go_wp2_with fail
          go_roundg (gk - 1)
          case measure => omega
          case rel => exact ⟨k + 1, kr + 1, by go_num, by go_num, by omega, by omega, by show _ = _; rw [krK_succ, ← HKR.out, HKS.out], rfl⟩
    · have hk9 : k = 19 := by omega
      subst hk9
      have hkx : kr = 128 := HKR.out.trans HKRF.out
      subst hkx
      go_wp2_with fail
      exact HK.out _ _ (HN.out _ _ _ _ _ _ _ _ _ _ _ _ _ _ _ _ _ _ _ _ _ _ _ _ _ _ _ _ _ _ _ _ _ _ _ _ _ _ _ _ _ _ _ _ _ _ _ _ _ _ _ _ _ _ _ _ _ _ _ _ _ _ _ _ _ _ _ _ _ _ _ _ _ _ _ _ _ _ _ _ _ _ _ _ _ _ _ _ _ _ _ _ _ _ _ _ _ _ _ _ _ _ _ _ _ _ _ _ _ _ _ _ _ _ _ _ _ _ _ _ _ _ _ _ _ _ _ _ _ _ _ _ _ _ _ _ _ _ _ _ _ _ _ _ _ _ _ _ _ _ _ _ _ _ _ _ _ _ _ _ _ _ _ _ _ _ _ _ _ _ _ _ _ _ _ _ _ _ _ _ _ _ _ _ _ _ _ _ _)
end Go.Proofs.YbulkccziDoor
