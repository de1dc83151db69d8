import Derived.Test.YbulkccziDoorT3d
namespace Go.Proofs.YbulkccziDoor
open Go.RowKit
/-! LawS3960ATokens: the trims. -/
set_option maxRecDepth 8000 in
set_option maxHeartbeats 8000000 in
theorem t3_cmp (w wr : World) (H C nl nd mm bb g1 g2 c1 c2 lc tc n1 n2 : Nat) (la ta : Option Addr) (ca : Array Value) (lit dist : List Nat) (u0 u1 u2 u3 u4 u5 u6 u10 u11 u12 u13 u16 u17 u18 u19 u20 u21 u22 u23 u24 u25 u26 u27 u28 u29 u30 u31 u32 u33 u34 u35 u36 u37 u38 u39 u40 u41 u42 u43 u44 u45 u46 u47 u48 u49 u50 u51 u52 u53 u54 u55 u56 u57 u58 u59 u60 u61 u62 u63 u64 u65 u66 u67 u68 u69 u70 u71 u72 u73 u74 u75 u76 u77 u78 u79 u80 u81 u82 u83 u84 u85 u86 u87 u88 u89 u90 u91 u92 u93 u94 u95 u96 u97 u98 u99 u100 u101 u102 u103 u104 u105 u106 u107 u108 u109 u110 u111 u112 u113 u114 u115 u116 u117 u118 u119 u120 u121 u122 u123 u124 u125 u126 u127 u128 u129 u130 u131 u132 u133 u134 u135 u136 u137 u138 u139 u140 u141 : Value) (hx : LX w H C (hcA nl nd mm bb (.slice la (lit.take nl ++ dist.take nd).length lc) (.slice ta (tk (lit.take nl ++ dist.take nd)).length tc)) ca lit dist (lit.take nl ++ dist.take nd) g1 g2 la ta wr) (hn1 : n1 = lit.length) (hn2 : n2 = dist.length) (hc1 : n1 ≤ c1) (hc2 : n2 ≤ c2) (hnl : nl ≤ n1) (hnd : nd ≤ n2) (hl1 : n1 ≤ 1320) (hl2 : n2 ≤ 1024) (h16 : ∀ x ∈ (lit.take nl ++ dist.take nd), x < 16) (hd : dec (tk (lit.take nl ++ dist.take nd)) [] = some (lit.take nl ++ dist.take nd)) :
    Code.wp Ybad.prog (nthC 13 (bodyOf Ybad.f3)) (bodyPost Ybad.prog Ybad.f3 (fun e w9 => e = .returned (.bool true) ∧ Below w.heap.size w w9)) ⟨#[u0, u1, u2, u3, u4, u5, u6, .slice (some ⟨g1, 0, none⟩) n1 c1, .slice (some ⟨g2, 0, none⟩) n2 c2, .pointer (some ⟨H, 0, none⟩), u10, u11, u12, u13, .int .i64 (nl : Int), .int .i64 (nd : Int), u16, u17, u18, u19, u20, u21, u22, u23, u24, u25, u26, u27, u28, u29, u30, u31, u32, u33, u34, u35, u36, u37, u38, u39, u40, u41, u42, u43, u44, u45, u46, u47, u48, u49, u50, u51, u52, u53, u54, u55, u56, u57, u58, u59, u60, u61, u62, u63, u64, u65, u66, u67, u68, u69, u70, u71, u72, u73, u74, u75, u76, u77, u78, u79, u80, u81, u82, u83, u84, u85, u86, u87, u88, u89, u90, u91, u92, u93, u94, u95, u96, u97, u98, u99, u100, u101, u102, u103, u104, u105, u106, u107, u108, u109, u110, u111, u112, u113, u114, u115, u116, u117, u118, u119, u120, u121, u122, u123, u124, u125, u126, u127, u128, u129, u130, u131, u132, u133, u134, u135, u136, u137, u138, u139, u140, u141], []⟩ wr := by
  have HN : Hid (∀ u0 u1 u2 u3 u4 u5 u6 u10 u11 u12 u13 u16 u17 u18 u19 u20 u21 u22 u23 u24 u25 u26 u27 u28 u29 u30 u31 u32 u33 u34 u35 u36 u37 u38 u39 u40 u41 u42 u43 u44 u45 u46 u47 u48 u49 u50 u51 u52 u53 u54 u55 u56 u57 u58 u59 u60 u61 u62 u63 u64 u65 u66 u67 u68 u69 u70 u71 u72 u73 u74 u75 u76 u77 u78 u79 u80 u81 u82 u83 u84 u85 u86 u87 u88 u89 u90 u91 u92 u93 u94 u95 u96 u97 u98 u99 u100 u101 u102 u103 u104 u105 u106 u107 u108 u109 u110 u111 u112 u113 u114 u115 u116 u117 u118 u119 u120 u121 u122 u123 u124 u125 u126 u127 u128 u129 u130 u131 u132 u133 u134 u135 u136 u137 u138 u139 u140 u141 : Value, Code.wp Ybad.prog (nthC 14 (bodyOf Ybad.f3)) (bodyPost Ybad.prog Ybad.f3 (fun e w9 => e = .returned (.bool true) ∧ Below w.heap.size w w9)) ⟨#[u0, u1, u2, u3, u4, u5, u6, .slice (some ⟨g1, 0, none⟩) n1 c1, .slice (some ⟨g2, 0, none⟩) n2 c2, .pointer (some ⟨H, 0, none⟩), u10, u11, u12, u13, .int .i64 (nl : Int), .int .i64 (nd : Int), u16, u17, u18, u19, u20, u21, u22, u23, u24, u25, u26, u27, u28, u29, u30, u31, u32, u33, u34, u35, u36, u37, u38, u39, u40, u41, u42, u43, u44, u45, u46, u47, u48, u49, u50, u51, u52, u53, u54, u55, u56, u57, u58, u59, u60, u61, u62, u63, u64, u65, u66, u67, u68, u69, u70, u71, u72, u73, u74, u75, u76, u77, u78, u79, u80, u81, u82, u83, u84, u85, u86, u87, u88, u89, u90, u91, u92, u93, u94, u95, u96, u97, u98, u99, u100, u101, u102, u103, u104, u105, u106, u107, u108, u109, u110, u111, u112, u113, u114, u115, u116, u117, u118, u119, u120, u121, u122, u123, u124, u125, u126, u127, u128, u129, u130, u131, u132, u133, u134, u135, u136, u137, u138, u139, u140, u141], []⟩ wr) := fun u0 u1 u2 u3 u4 u5 u6 u10 u11 u12 u13 u16 u17 u18 u19 u20 u21 u22 u23 u24 u25 u26 u27 u28 u29 u30 u31 u32 u33 u34 u35 u36 u37 u38 u39 u40 u41 u42 u43 u44 u45 u46 u47 u48 u49 u50 u51 u52 u53 u54 u55 u56 u57 u58 u59 u60 u61 u62 u63 u64 u65 u66 u67 u68 u69 u70 u71 u72 u73 u74 u75 u76 u77 u78 u79 u80 u81 u82 u83 u84 u85 u86 u87 u88 u89 u90 u91 u92 u93 u94 u95 u96 u97 u98 u99 u100 u101 u102 u103 u104 u105 u106 u107 u108 u109 u110 u111 u112 u113 u114 u115 u116 u117 u118 u119 u120 u121 u122 u123 u124 u125 u126 u127 u128 u129 u130 u131 u132 u133 u134 u135 u136 u137 u138 u139 u140 u141 => t3_wnt w wr H C nl nd mm bb g1 g2 c1 c2 lc tc n1 n2 la ta ca lit dist u0 u1 u2 u3 u4 u5 u6 u10 u11 u12 u13 u16 u17 u18 u19 u20 u21 u22 u23 u24 u25 u26 u27 u28 u29 u30 u31 u32 u33 u34 u35 u36 u37 u38 u39 u40 u41 u42 u43 u44 u45 u46 u47 u48 u49 u50 u51 u52 u53 u54 u55 u56 u57 u58 u59 u60 u61 u62 u63 u64 u65 u66 u67 u68 u69 u70 u71 u72 u73 u74 u75 u76 u77 u78 u79 u80 u81 u82 u83 u84 u85 u86 u87 u88 u89 u90 u91 u92 u93 u94 u95 u96 u97 u98 u99 u100 u101 u102 u103 u104 u105 u106 u107 u108 u109 u110 u111 u112 u113 u114 u115 u116 u117 u118 u119 u120 u121 u122 u123 u124 u125 u126 u127 u128 u129 u130 u131 u132 u133 u134 u135 u136 u137 u138 u139 u140 u141 hx hn1 hn2 hc1 hc2 hnl hnd hl1 hl2 h16 hd
  have q0 := cellAt hx.hh 0 (.int .i64 (nl : Int)) rfl
  have q1 := cellAt hx.hh 1 (.int .i64 (nd : Int)) rfl
  clear hx hn1 hn2 h16 hd
  conv => arg 2; whnf
  go_upto_region 17 with fail
  rename_i k1 hk1 k2 hk2
  have HK : Hid _ := hk1
  clear hk1
  go_wp2_with fail
  exact HK.out _ _ (HN.out _ _ _ _ _ _ _ _ _ _ _ _ _ _ _ _ _ _ _ _ _ _ _ _ _ _ _ _ _ _ _ _ _ _ _ _ _ _ _ _ _ _ _ _ _ _ _ _ _ _ _ _ _ _ _ _ _ _ _ _ _ _ _ _ _ _ _ _ _ _ _ _ _ _ _ _ _ _ _ _ _ _ _ _ _ _ _ _ _ _ _ _ _ _ _ _ _ _ _ _ _ _ _ _ _ _ _ _ _ _ _ _ _ _ _ _ _ _ _ _ _ _ _ _ _ _ _ _ _ _ _ _ _ _ _ _ _)
set_option maxRecDepth 8000 in
set_option maxHeartbeats 8000000 in
theorem t3_tr2 (w wr : World) (H C nl nd mm bb g1 g2 c1 c2 lc tc n1 n2 : Nat) (la ta : Option Addr) (ca : Array Value) (lit dist : List Nat) (u0 u1 u2 u3 u4 u5 u6 u10 u11 u12 u13 u15 u16 u17 u18 u19 u20 u21 u22 u23 u24 u25 u26 u27 u28 u29 u30 u31 u32 u33 u34 u35 u36 u37 u38 u39 u40 u41 u42 u43 u44 u45 u46 u47 u48 u49 u50 u51 u52 u53 u54 u55 u56 u57 u58 u59 u60 u61 u62 u63 u64 u65 u66 u67 u68 u69 u70 u71 u72 u73 u74 u75 u76 u77 u78 u79 u80 u81 u82 u83 u84 u85 u86 u87 u88 u89 u90 u91 u92 u93 u94 u95 u96 u97 u98 u99 u100 u101 u102 u103 u104 u105 u106 u107 u108 u109 u110 u111 u112 u113 u114 u115 u116 u117 u118 u119 u120 u121 u122 u123 u124 u125 u126 u127 u128 u129 u130 u131 u132 u133 u134 u135 u136 u137 u138 u139 u140 u141 : Value) (hx : LX w H C (hcA nl nd mm bb (.slice la (lit.take nl ++ dist.take nd).length lc) (.slice ta (tk (lit.take nl ++ dist.take nd)).length tc)) ca lit dist (lit.take nl ++ dist.take nd) g1 g2 la ta wr) (hn1 : n1 = lit.length) (hn2 : n2 = dist.length) (hc1 : n1 ≤ c1) (hc2 : n2 ≤ c2) (hnl : nl ≤ n1) (hnd : nd ≤ n2) (hl1 : n1 ≤ 1320) (hl2 : n2 ≤ 1024) (h16 : ∀ x ∈ (lit.take nl ++ dist.take nd), x < 16) (hd : dec (tk (lit.take nl ++ dist.take nd)) [] = some (lit.take nl ++ dist.take nd)) (htr : nd = trimN 1 dist n2) :
    Code.wp Ybad.prog (nthC 11 (bodyOf Ybad.f3)) (bodyPost Ybad.prog Ybad.f3 (fun e w9 => e = .returned (.bool true) ∧ Below w.heap.size w w9)) ⟨#[u0, u1, u2, u3, u4, u5, u6, .slice (some ⟨g1, 0, none⟩) n1 c1, .slice (some ⟨g2, 0, none⟩) n2 c2, .pointer (some ⟨H, 0, none⟩), u10, u11, u12, u13, .int .i64 (nl : Int), u15, u16, u17, u18, u19, u20, u21, u22, u23, u24, u25, u26, u27, u28, u29, u30, u31, u32, u33, u34, u35, u36, u37, u38, u39, u40, u41, u42, u43, u44, u45, u46, u47, u48, u49, u50, u51, u52, u53, u54, u55, u56, u57, u58, u59, u60, u61, u62, u63, u64, u65, u66, u67, u68, u69, u70, u71, u72, u73, u74, u75, u76, u77, u78, u79, u80, u81, u82, u83, u84, u85, u86, u87, u88, u89, u90, u91, u92, u93, u94, u95, u96, u97, u98, u99, u100, u101, u102, u103, u104, u105, u106, u107, u108, u109, u110, u111, u112, u113, u114, u115, u116, u117, u118, u119, u120, u121, u122, u123, u124, u125, u126, u127, u128, u129, u130, u131, u132, u133, u134, u135, u136, u137, u138, u139, u140, u141], []⟩ wr := by
  have HN : Hid (∀ u0 u1 u2 u3 u4 u5 u6 u10 u11 u12 u13 u16 u17 u18 u19 u20 u21 u22 u23 u24 u25 u26 u27 u28 u29 u30 u31 u32 u33 u34 u35 u36 u37 u38 u39 u40 u41 u42 u43 u44 u45 u46 u47 u48 u49 u50 u51 u52 u53 u54 u55 u56 u57 u58 u59 u60 u61 u62 u63 u64 u65 u66 u67 u68 u69 u70 u71 u72 u73 u74 u75 u76 u77 u78 u79 u80 u81 u82 u83 u84 u85 u86 u87 u88 u89 u90 u91 u92 u93 u94 u95 u96 u97 u98 u99 u100 u101 u102 u103 u104 u105 u106 u107 u108 u109 u110 u111 u112 u113 u114 u115 u116 u117 u118 u119 u120 u121 u122 u123 u124 u125 u126 u127 u128 u129 u130 u131 u132 u133 u134 u135 u136 u137 u138 u139 u140 u141 : Value, Code.wp Ybad.prog (nthC 13 (bodyOf Ybad.f3)) (bodyPost Ybad.prog Ybad.f3 (fun e w9 => e = .returned (.bool true) ∧ Below w.heap.size w w9)) ⟨#[u0, u1, u2, u3, u4, u5, u6, .slice (some ⟨g1, 0, none⟩) n1 c1, .slice (some ⟨g2, 0, none⟩) n2 c2, .pointer (some ⟨H, 0, none⟩), u10, u11, u12, u13, .int .i64 (nl : Int), .int .i64 (nd : Int), u16, u17, u18, u19, u20, u21, u22, u23, u24, u25, u26, u27, u28, u29, u30, u31, u32, u33, u34, u35, u36, u37, u38, u39, u40, u41, u42, u43, u44, u45, u46, u47, u48, u49, u50, u51, u52, u53, u54, u55, u56, u57, u58, u59, u60, u61, u62, u63, u64, u65, u66, u67, u68, u69, u70, u71, u72, u73, u74, u75, u76, u77, u78, u79, u80, u81, u82, u83, u84, u85, u86, u87, u88, u89, u90, u91, u92, u93, u94, u95, u96, u97, u98, u99, u100, u101, u102, u103, u104, u105, u106, u107, u108, u109, u110, u111, u112, u113, u114, u115, u116, u117, u118, u119, u120, u121, u122, u123, u124, u125, u126, u127, u128, u129, u130, u131, u132, u133, u134, u135, u136, u137, u138, u139, u140, u141], []⟩ wr) := fun u0 u1 u2 u3 u4 u5 u6 u10 u11 u12 u13 u16 u17 u18 u19 u20 u21 u22 u23 u24 u25 u26 u27 u28 u29 u30 u31 u32 u33 u34 u35 u36 u37 u38 u39 u40 u41 u42 u43 u44 u45 u46 u47 u48 u49 u50 u51 u52 u53 u54 u55 u56 u57 u58 u59 u60 u61 u62 u63 u64 u65 u66 u67 u68 u69 u70 u71 u72 u73 u74 u75 u76 u77 u78 u79 u80 u81 u82 u83 u84 u85 u86 u87 u88 u89 u90 u91 u92 u93 u94 u95 u96 u97 u98 u99 u100 u101 u102 u103 u104 u105 u106 u107 u108 u109 u110 u111 u112 u113 u114 u115 u116 u117 u118 u119 u120 u121 u122 u123 u124 u125 u126 u127 u128 u129 u130 u131 u132 u133 u134 u135 u136 u137 u138 u139 u140 u141 => t3_cmp w wr H C nl nd mm bb g1 g2 c1 c2 lc tc n1 n2 la ta ca lit dist u0 u1 u2 u3 u4 u5 u6 u10 u11 u12 u13 u16 u17 u18 u19 u20 u21 u22 u23 u24 u25 u26 u27 u28 u29 u30 u31 u32 u33 u34 u35 u36 u37 u38 u39 u40 u41 u42 u43 u44 u45 u46 u47 u48 u49 u50 u51 u52 u53 u54 u55 u56 u57 u58 u59 u60 u61 u62 u63 u64 u65 u66 u67 u68 u69 u70 u71 u72 u73 u74 u75 u76 u77 u78 u79 u80 u81 u82 u83 u84 u85 u86 u87 u88 u89 u90 u91 u92 u93 u94 u95 u96 u97 u98 u99 u100 u101 u102 u103 u104 u105 u106 u107 u108 u109 u110 u111 u112 u113 u114 u115 u116 u117 u118 u119 u120 u121 u122 u123 u124 u125 u126 u127 u128 u129 u130 u131 u132 u133 u134 u135 u136 u137 u138 u139 u140 u141 hx hn1 hn2 hc1 hc2 hnl hnd hl1 hl2 h16 hd
  have HC : Hid (∀ t, t < n2 → wr.cell? ⟨g2, t, none⟩ = some (.int .u8 ((dist.getD t 0 : Nat) : Int))) := fun t ht => by
    obtain ⟨g, h1, h2⟩ := hx.r2 t (by omega)
    simp at h1
    subst h1
    exact h2
  have HTR : Hid (nd = trimN 1 dist n2) := htr
  clear hx hn1 hn2 h16 hd htr
  conv => arg 2; whnf
  go_upto_block 2 with fail
  rename_i hK
  have HK : Hid _ := hK
  clear hK
  go_wp2_with fail
  go_loopg [15] n2 (fun gk vs wx => vs = .int .i64 (gk : Int) ∧ gk ≤ n2 ∧ Hid (trimN 1 dist gk = trimN 1 dist n2) ∧ wr = wx)
  case atStart => exact ⟨rfl, Nat.le_refl _, rfl, rfl⟩
  case round =>
    obtain ⟨rfl, hgk, HT, hw⟩ := hrel
    subst hw
    go_upto_region 15 with fail
    go_cut [82] (fun vt wx => ∃ tt : Bool, vt = .bool tt ∧ Hid (tt = true ↔ (1 < gk ∧ dist.getD (gk - 1) 0 = 0)) ∧ wx = wr)
    case first =>
      rcases Nat.lt_or_ge 1 gk with hb | hb
      · obtain ⟨k, hk⟩ : ∃ k, gk = k + 1 := ⟨gk - 1, by omega⟩
        have hk1 : (gk : Int) - 1 = (k : Int) := by omega
        have hk2 : gk - 1 = k := by omega
        have hkn : k < n2 := by omega
        have hc := HC.out k hkn
        obtain ⟨y, hy⟩ : ∃ y, y = dist.getD k 0 := ⟨_, rfl⟩
        rw [← hy] at hc
        have HK2 : Hid (gk - 1 = k ∧ y = dist.getD k 0) := ⟨hk2, hy⟩
        clear hk hk2 hy
        go_wp2_with fail
        go_meet
        case rel => exact ⟨_, rfl, by show _ ↔ _; rw [HK2.out.1, ← HK2.out.2]; simp [hb], rfl⟩
      · have hb1 : ¬ 1 < gk := by omega
        have hb2 : decide (1 < gk) = false := decide_eq_false hb1
        have hb3 : decide ((1 : Int) < (gk : Int)) = false := decide_eq_false (by omega)
        go_wp2_with fail
        go_meet
        case rel => exact ⟨_, rfl, by show _ ↔ _; simp [hb1], rfl⟩
    case rest =>
      obtain ⟨tt, rfl, HTT, hwc⟩ := hcut
      rw [hwc]
      clear hwc
      cases tt with
      | true =>
        have ht := HTT.out.1 rfl
        obtain ⟨k, hk⟩ : ∃ k, gk = k + 1 := ⟨gk - 1, by omega⟩
        have hk1 : (gk : Int) - 1 = (k : Int) := by omega
        have HT2 : Hid (k ≤ n2 ∧ trimN 1 dist k = trimN 1 dist n2) := ⟨by omega, by rw [← HT.out, hk, trimN_go (by omega) (by rw [hk] at ht; simpa using ht.2)]⟩
        have HKG : Hid (k < gk) := by show k < gk; omega
        clear hk ht HTT
        go_wp2_with fail
        go_roundg k
        case measure => exact HKG.out
        case rel => exact ⟨rfl, HT2.out.1, HT2.out.2, rfl⟩
      | false =>
        have HNL : Hid (gk = trimN 1 dist n2) := by
          show _ = _
          rw [← HT.out, trimN_stop (fun h => by have := HTT.out.2 h; cases this)]
        have hgx : gk = nd := HNL.out.trans HTR.out.symm
        clear HTT HT HNL
        subst hgx
        go_wp2_with fail
        exact HK.out _ _ (HN.out _ _ _ _ _ _ _ _ _ _ _ _ _ _ _ _ _ _ _ _ _ _ _ _ _ _ _ _ _ _ _ _ _ _ _ _ _ _ _ _ _ _ _ _ _ _ _ _ _ _ _ _ _ _ _ _ _ _ _ _ _ _ _ _ _ _ _ _ _ _ _ _ _ _ _ _ _ _ _ _ _ _ _ _ _ _ _ _ _ _ _ _ _ _ _ _ _ _ _ _ _ _ _ _ _ _ _ _ _ _ _ _ _ _ _ _ _ _ _ _ _ _ _ _ _ _ _ _ _ _ _ _ _ _ _ _ _)
set_option maxRecDepth 8000 in
set_option maxHeartbeats 8000000 in
theorem t3_tr1 (w wr : World) (H C nl nd mm bb g1 g2 c1 c2 lc tc n1 n2 : Nat) (la ta : Option Addr) (ca : Array Value) (lit dist : List Nat) (u0 u1 u2 u3 u4 u5 u6 u10 u11 u12 u13 u14 u15 u16 u17 u18 u19 u20 u21 u22 u23 u24 u25 u26 u27 u28 u29 u30 u31 u32 u33 u34 u35 u36 u37 u38 u39 u40 u41 u42 u43 u44 u45 u46 u47 u48 u49 u50 u51 u52 u53 u54 u55 u56 u57 u58 u59 u60 u61 u62 u63 u64 u65 u66 u67 u68 u69 u70 u71 u72 u73 u74 u75 u76 u77 u78 u79 u80 u81 u82 u83 u84 u85 u86 u87 u88 u89 u90 u91 u92 u93 u94 u95 u96 u97 u98 u99 u100 u101 u102 u103 u104 u105 u106 u107 u108 u109 u110 u111 u112 u113 u114 u115 u116 u117 u118 u119 u120 u121 u122 u123 u124 u125 u126 u127 u128 u129 u130 u131 u132 u133 u134 u135 u136 u137 u138 u139 u140 u141 : Value) (hx : LX w H C (hcA nl nd mm bb (.slice la (lit.take nl ++ dist.take nd).length lc) (.slice ta (tk (lit.take nl ++ dist.take nd)).length tc)) ca lit dist (lit.take nl ++ dist.take nd) g1 g2 la ta wr) (hn1 : n1 = lit.length) (hn2 : n2 = dist.length) (hc1 : n1 ≤ c1) (hc2 : n2 ≤ c2) (hnl : nl ≤ n1) (hnd : nd ≤ n2) (hl1 : n1 ≤ 1320) (hl2 : n2 ≤ 1024) (h16 : ∀ x ∈ (lit.take nl ++ dist.take nd), x < 16) (hd : dec (tk (lit.take nl ++ dist.take nd)) [] = some (lit.take nl ++ dist.take nd)) (htr : nl = trimN 257 lit n1) (htr2 : nd = trimN 1 dist n2) :
    Code.wp Ybad.prog (nthC 9 (bodyOf Ybad.f3)) (bodyPost Ybad.prog Ybad.f3 (fun e w9 => e = .returned (.bool true) ∧ Below w.heap.size w w9)) ⟨#[u0, u1, u2, u3, u4, u5, u6, .slice (some ⟨g1, 0, none⟩) n1 c1, .slice (some ⟨g2, 0, none⟩) n2 c2, .pointer (some ⟨H, 0, none⟩), u10, u11, u12, u13, u14, u15, u16, u17, u18, u19, u20, u21, u22, u23, u24, u25, u26, u27, u28, u29, u30, u31, u32, u33, u34, u35, u36, u37, u38, u39, u40, u41, u42, u43, u44, u45, u46, u47, u48, u49, u50, u51, u52, u53, u54, u55, u56, u57, u58, u59, u60, u61, u62, u63, u64, u65, u66, u67, u68, u69, u70, u71, u72, u73, u74, u75, u76, u77, u78, u79, u80, u81, u82, u83, u84, u85, u86, u87, u88, u89, u90, u91, u92, u93, u94, u95, u96, u97, u98, u99, u100, u101, u102, u103, u104, u105, u106, u107, u108, u109, u110, u111, u112, u113, u114, u115, u116, u117, u118, u119, u120, u121, u122, u123, u124, u125, u126, u127, u128, u129, u130, u131, u132, u133, u134, u135, u136, u137, u138, u139, u140, u141], []⟩ wr := by
  have HN : Hid (∀ u0 u1 u2 u3 u4 u5 u6 u10 u11 u12 u13 u15 u16 u17 u18 u19 u20 u21 u22 u23 u24 u25 u26 u27 u28 u29 u30 u31 u32 u33 u34 u35 u36 u37 u38 u39 u40 u41 u42 u43 u44 u45 u46 u47 u48 u49 u50 u51 u52 u53 u54 u55 u56 u57 u58 u59 u60 u61 u62 u63 u64 u65 u66 u67 u68 u69 u70 u71 u72 u73 u74 u75 u76 u77 u78 u79 u80 u81 u82 u83 u84 u85 u86 u87 u88 u89 u90 u91 u92 u93 u94 u95 u96 u97 u98 u99 u100 u101 u102 u103 u104 u105 u106 u107 u108 u109 u110 u111 u112 u113 u114 u115 u116 u117 u118 u119 u120 u121 u122 u123 u124 u125 u126 u127 u128 u129 u130 u131 u132 u133 u134 u135 u136 u137 u138 u139 u140 u141 : Value, Code.wp Ybad.prog (nthC 11 (bodyOf Ybad.f3)) (bodyPost Ybad.prog Ybad.f3 (fun e w9 => e = .returned (.bool true) ∧ Below w.heap.size w w9)) ⟨#[u0, u1, u2, u3, u4, u5, u6, .slice (some ⟨g1, 0, none⟩) n1 c1, .slice (some ⟨g2, 0, none⟩) n2 c2, .pointer (some ⟨H, 0, none⟩), u10, u11, u12, u13, .int .i64 (nl : Int), u15, u16, u17, u18, u19, u20, u21, u22, u23, u24, u25, u26, u27, u28, u29, u30, u31, u32, u33, u34, u35, u36, u37, u38, u39, u40, u41, u42, u43, u44, u45, u46, u47, u48, u49, u50, u51, u52, u53, u54, u55, u56, u57, u58, u59, u60, u61, u62, u63, u64, u65, u66, u67, u68, u69, u70, u71, u72, u73, u74, u75, u76, u77, u78, u79, u80, u81, u82, u83, u84, u85, u86, u87, u88, u89, u90, u91, u92, u93, u94, u95, u96, u97, u98, u99, u100, u101, u102, u103, u104, u105, u106, u107, u108, u109, u110, u111, u112, u113, u114, u115, u116, u117, u118, u119, u120, u121, u122, u123, u124, u125, u126, u127, u128, u129, u130, u131, u132, u133, u134, u135, u136, u137, u138, u139, u140, u141], []⟩ wr) := fun u0 u1 u2 u3 u4 u5 u6 u10 u11 u12 u13 u15 u16 u17 u18 u19 u20 u21 u22 u23 u24 u25 u26 u27 u28 u29 u30 u31 u32 u33 u34 u35 u36 u37 u38 u39 u40 u41 u42 u43 u44 u45 u46 u47 u48 u49 u50 u51 u52 u53 u54 u55 u56 u57 u58 u59 u60 u61 u62 u63 u64 u65 u66 u67 u68 u69 u70 u71 u72 u73 u74 u75 u76 u77 u78 u79 u80 u81 u82 u83 u84 u85 u86 u87 u88 u89 u90 u91 u92 u93 u94 u95 u96 u97 u98 u99 u100 u101 u102 u103 u104 u105 u106 u107 u108 u109 u110 u111 u112 u113 u114 u115 u116 u117 u118 u119 u120 u121 u122 u123 u124 u125 u126 u127 u128 u129 u130 u131 u132 u133 u134 u135 u136 u137 u138 u139 u140 u141 => t3_tr2 w wr H C nl nd mm bb g1 g2 c1 c2 lc tc n1 n2 la ta ca lit dist u0 u1 u2 u3 u4 u5 u6 u10 u11 u12 u13 u15 u16 u17 u18 u19 u20 u21 u22 u23 u24 u25 u26 u27 u28 u29 u30 u31 u32 u33 u34 u35 u36 u37 u38 u39 u40 u41 u42 u43 u44 u45 u46 u47 u48 u49 u50 u51 u52 u53 u54 u55 u56 u57 u58 u59 u60 u61 u62 u63 u64 u65 u66 u67 u68 u69 u70 u71 u72 u73 u74 u75 u76 u77 u78 u79 u80 u81 u82 u83 u84 u85 u86 u87 u88 u89 u90 u91 u92 u93 u94 u95 u96 u97 u98 u99 u100 u101 u102 u103 u104 u105 u106 u107 u108 u109 u110 u111 u112 u113 u114 u115 u116 u117 u118 u119 u120 u121 u122 u123 u124 u125 u126 u127 u128 u129 u130 u131 u132 u133 u134 u135 u136 u137 u138 u139 u140 u141 hx hn1 hn2 hc1 hc2 hnl hnd hl1 hl2 h16 hd htr2
  have HC : Hid (∀ t, t < n1 → wr.cell? ⟨g1, t, none⟩ = some (.int .u8 ((lit.getD t 0 : Nat) : Int))) := fun t ht => by
    obtain ⟨g, h1, h2⟩ := hx.r1 t (by omega)
    simp at h1
    subst h1
    exact h2
  have HTR : Hid (nl = trimN 257 lit n1) := htr
  clear hx hn1 hn2 h16 hd htr htr2
  conv => arg 2; whnf
  go_upto_block 0 with fail
  rename_i hK
  have HK : Hid _ := hK
  clear hK
  go_wp2_with fail
  go_loopg [14] n1 (fun gk vs wx => vs = .int .i64 (gk : Int) ∧ gk ≤ n1 ∧ Hid (trimN 257 lit gk = trimN 257 lit n1) ∧ wr = wx)
  case atStart => exact ⟨rfl, Nat.le_refl _, rfl, rfl⟩
  case round =>
    obtain ⟨rfl, hgk, HT, hw⟩ := hrel
    subst hw
    go_upto_region 12 with fail
    go_cut [68] (fun vt wx => ∃ tt : Bool, vt = .bool tt ∧ Hid (tt = true ↔ (257 < gk ∧ lit.getD (gk - 1) 0 = 0)) ∧ wx = wr)
    case first =>
      rcases Nat.lt_or_ge 257 gk with hb | hb
      · obtain ⟨k, hk⟩ : ∃ k, gk = k + 1 := ⟨gk - 1, by omega⟩
        have hk1 : (gk : Int) - 1 = (k : Int) := by omega
        have hk2 : gk - 1 = k := by omega
        have hkn : k < n1 := by omega
        have hc := HC.out k hkn
        obtain ⟨y, hy⟩ : ∃ y, y = lit.getD k 0 := ⟨_, rfl⟩
        rw [← hy] at hc
        have HK2 : Hid (gk - 1 = k ∧ y = lit.getD k 0) := ⟨hk2, hy⟩
        clear hk hk2 hy
        go_wp2_with fail
        go_meet
        case rel => exact ⟨_, rfl, by show _ ↔ _; rw [HK2.out.1, ← HK2.out.2]; simp [hb], rfl⟩
      · have hb1 : ¬ 257 < gk := by omega
        have hb2 : decide (257 < gk) = false := decide_eq_false hb1
        have hb3 : decide ((257 : Int) < (gk : Int)) = false := decide_eq_false (by omega)
        go_wp2_with fail
        go_meet
        case rel => exact ⟨_, rfl, by show _ ↔ _; simp [hb1], rfl⟩
    case rest =>
      obtain ⟨tt, rfl, HTT, hwc⟩ := hcut
      rw [hwc]
      clear hwc
      cases tt with
      | true =>
        have ht := HTT.out.1 rfl
        obtain ⟨k, hk⟩ : ∃ k, gk = k + 1 := ⟨gk - 1, by omega⟩
        have hk1 : (gk : Int) - 1 = (k : Int) := by omega
        have HT2 : Hid (k ≤ n1 ∧ trimN 257 lit k = trimN 257 lit n1) := ⟨by omega, by rw [← HT.out, hk, trimN_go (by omega) (by rw [hk] at ht; simpa using ht.2)]⟩
        have HKG : Hid (k < gk) := by show k < gk; omega
        clear hk ht HTT
        go_wp2_with fail
        go_roundg k
        case measure => exact HKG.out
        case rel => exact ⟨rfl, HT2.out.1, HT2.out.2, rfl⟩
      | false =>
        have HNL : Hid (gk = trimN 257 lit n1) := by
          show _ = _
          rw [← HT.out, trimN_stop (fun h => by have := HTT.out.2 h; cases this)]
        have hgx : gk = nl := HNL.out.trans HTR.out.symm
        clear HTT HT HNL
        subst hgx
        go_wp2_with fail
        exact HK.out _ _ (HN.out _ _ _ _ _ _ _ _ _ _ _ _ _ _ _ _ _ _ _ _ _ _ _ _ _ _ _ _ _ _ _ _ _ _ _ _ _ _ _ _ _ _ _ _ _ _ _ _ _ _ _ _ _ _ _ _ _ _ _ _ _ _ _ _ _ _ _ _ _ _ _ _ _ _ _ _ _ _ _ _ _ _ _ _ _ _ _ _ _ _ _ _ _ _ _ _ _ _ _ _ _ _ _ _ _ _ _ _ _ _ _ _ _ _ _ _ _ _ _ _ _ _ _ _ _ _ _ _ _ _ _ _ _ _ _ _ _ _)
end Go.Proofs.YbulkccziDoor
