import Derived.Test.YbulkccziDoorT3b
namespace Go.Proofs.YbulkccziDoor
open Go.RowKit
/-- make behind the build. -/
theorem mk_of_ab {w w1 : World} {g1 c1 g2 c2 n1 n2 : Nat} {lit dist : List Nat} (h1 : w1.ownsRow w.heap.size 5 1 (.slice (some ⟨g1, 0, none⟩) lit.length c1) lit.length (bL lit)) (h2 : w1.ownsRow w.heap.size 5 1 (.slice (some ⟨g2, 0, none⟩) dist.length c2) dist.length (bL dist)) (hb : Below w.heap.size w w1) (hpos : 0 < w.heap.size) (ho : ∀ t, t < 19 → w.cell? ⟨0, t, none⟩ = some (.int .u8 ((ordL.getD t 0 : Nat) : Int)))
    (hn1 : n1 = lit.length) (hn2 : n2 = dist.length) (hl1 : n1 ≤ 1320) (hl2 : n2 ≤ 1024) (h16 : ∀ x ∈ lit, x < 16) (h16' : ∀ x ∈ dist, x < 16) :
    Calls Ybad.prog 6 #[.pointer (some ⟨w1.heap.size, 0, none⟩), .slice (some ⟨g1, 0, none⟩) n1 c1, .slice (some ⟨g2, 0, none⟩) n2 c2, .pointer (some ⟨w1.heap.size + 1, 0, none⟩), .pointer (some ⟨w1.heap.size + 2, 0, none⟩)] (wThree w1) fun e w3 => e = .returned (.tuple #[]) ∧ ∃ (zs : List Nat) (bs : List Value) (la ta : Option Addr) (lc tc : Nat), LI (mkF lit dist) zs 12 ∧ (∀ t, t < zs.length → dpt zs t ≤ 7) ∧ bs.length = 288 ∧
      LX w w1.heap.size (w1.heap.size + 2) (hcA (trimN 257 lit lit.length) (trimN 1 dist dist.length) (ncl (cdL zs) 19) (14 + 3 * ncl (cdL zs) 19 + bitS (cdL zs) (tk (mkL lit dist))) (.slice la (mkL lit dist).length lc) (.slice ta (tk (mkL lit dist)).length tc)) (clA (cdL zs) (List.replicate 269 (.int .u8 0) ++ bs)) lit dist (mkL lit dist) g1 g2 la ta w3 := by
  refine (mk_any w1.heap.size (w1.heap.size + 1) (w1.heap.size + 2) g1 c1 g2 c2 n1 n2 lit dist zeroL (List.replicate 269 (.int .u8 0)) (List.replicate 288 (.int .u16 0)) (wThree w1) (pre_out h1) (pre_out h2) hn1 hn2 (by omega) hl2 h16 h16' rfl List.length_replicate List.length_replicate (pre_ord hb hpos ho) (pre_mk w1)).mono ?_
  rintro e w3 ⟨he, zs, bs, vl, vt, hli, h7, hbs, hme⟩
  obtain ⟨la, lc, ta, tc, rfl, rfl, hx⟩ := made_lx h1 h2 hb hme
  exact ⟨he, zs, bs, la, ta, lc, tc, hli, h7, hbs, hx⟩
set_option maxRecDepth 8000 in
set_option maxHeartbeats 8000000 in
theorem law3 (a d : Option Addr) (n m ca1 cd1 P : Nat) (zs ys : List Int) (w : World) (hz : Src w a n zs) (hy : Src w d m ys) (hn : n ≤ 1024) (hm : m ≤ 1024) (hP : P < 65536) (hzb : ∀ j, 0 ≤ zs.getD j 0 ∧ zs.getD j 0 ≤ 255) (hyb : ∀ j, 0 ≤ ys.getD j 0 ∧ ys.getD j 0 ≤ 255)
    (hpos : 0 < w.heap.size) (ho : ∀ t, t < 19 → w.cell? ⟨0, t, none⟩ = some (.int .u8 ((ordL.getD t 0 : Nat) : Int))) :
    Calls Ybad.prog 3 #[.slice a n ca1, .slice d m cd1, .int .u16 (P : Int)] w fun e w' => e = .returned (.bool true) ∧ Below w.heap.size w w' := by
  obtain ⟨lit, hl⟩ : ∃ lit, lit = litL zs P := ⟨_, rfl⟩
  obtain ⟨dist, hdl⟩ : ∃ dist, dist = m16 ys := ⟨_, rfl⟩
  obtain ⟨n1, hn1⟩ : ∃ n1, n1 = lit.length := ⟨_, rfl⟩
  obtain ⟨n2, hn2⟩ : ∃ n2, n2 = dist.length := ⟨_, rfl⟩
  have hl1 : n1 ≤ 1320 := by rw [hn1, hl]; exact litL_len hz.1 hn
  have hl2 : n2 ≤ 1024 := by rw [hn2, hdl, m16_len, hy.1]; exact hm
  have H16 : Hid (∀ x ∈ lit, x < 16) := by rw [hl]; exact litL_16 zs P
  have H16' : Hid (∀ x ∈ dist, x < 16) := by rw [hdl]; exact m16_16 ys
  have HAB : Hid (Calls Ybad.prog 5 _ _ _) := ab_rd a d n m ca1 cd1 P zs ys w lit dist n1 n2 hz hy hn hm hP hzb hyb hl hdl hn1 hn2
  have HZ : Hid (Src w a n zs ∧ Src w d m ys ∧ (∀ j, 0 ≤ zs.getD j 0 ∧ zs.getD j 0 ≤ 255) ∧ (∀ j, 0 ≤ ys.getD j 0 ∧ ys.getD j 0 ≤ 255) ∧ lit = litL zs P ∧ dist = m16 ys ∧ n1 = lit.length ∧ n2 = dist.length) := ⟨hz, hy, hzb, hyb, hl, hdl, hn1, hn2⟩
  have HO : Hid (0 < w.heap.size ∧ ∀ t, t < 19 → w.cell? ⟨0, t, none⟩ = some (.int .u8 ((ordL.getD t 0 : Nat) : Int))) := ⟨hpos, ho⟩
  clear hz hy hzb hyb hl hdl hn1 hn2 ho hpos
  have hd1 : decide ((1024 : Int) < (n : Int)) = false := decide_eq_false (by omega)
  have hd2 : decide ((1024 : Int) < (m : Int)) = false := decide_eq_false (by omega)
  have hz38 : ∀ W, (zeroValue 38).run Ybad.prog W = .ok (.agg z38) W := zero38
  go_enter Ybad.func3, Ybad.ntmps3
  go_wp2_with fail
  refine HAB.out.mono ?_
  rintro e w1 ⟨g1, c1, g2, c2, rfl, ho1, ho2, hc1, hc2, hb⟩
  dsimp only
  have HMK : Hid (Calls Ybad.prog 6 _ _ _) := mk_of_ab ho1 ho2 hb HO.out.1 HO.out.2 HZ.out.2.2.2.2.2.2.1 HZ.out.2.2.2.2.2.2.2 hl1 hl2 H16.out H16'.out
  have HB : Hid (Below w.heap.size w w1) := hb
  clear HAB ho1 ho2 hb
  go_upto_region 7 with fail
  rename_i hK
  have HK : Hid _ := hK
  clear hK
  go_wp2_with fail
  refine HMK.out.mono ?_
  rintro e w3 ⟨rfl, zs', bs, la, ta, lc, tc, hli, h7, hbs, hx⟩
  dsimp only
  have HX : Hid _ := hx
  clear HMK hli h7 hbs hx hz38
  go_wp2_with fail
  refine HK.out _ _ ?_
  obtain ⟨z1, z2, z3, z4, z5, z6, z7, z8⟩ := HZ.out
  subst z7 z8
  exact t3_two a d n m ca1 cd1 P zs ys w w3 _ _ _ _ _ _ g1 g2 c1 c2 lc tc _ _ la ta _ lit dist _ _ _ _ _ _ _ _ _ _ _ _ _ _ _ _ _ _ _ _ _ _ _ _ _ _ _ _ _ _ _ _ _ _ _ _ _ _ _ _ _ _ _ _ _ _ _ _ _ _ _ _ _ _ _ _ _ _ _ _ _ _ _ _ _ _ _ _ _ _ _ _ _ _ _ _ _ _ _ _ _ _ _ _ _ _ _ _ _ _ _ _ _ _ _ _ _ _ _ _ _ _ _ _ _ _ _ _ _ _ _ _ _ _ _ _ _ _ _ _ _ _ _ _ _ _ _ _ _ _ _ _ _ _ _ _ HX.out rfl rfl hc1 hc2 (trimN_le _ _ _) (trimN_le _ _ _) hl1 hl2 (mkL_16 H16.out H16'.out) (dec_tokens _ (mkL_16 H16.out H16'.out)) rfl rfl z1 z2 hn hm hP z3 z4 z5 z6
end Go.Proofs.YbulkccziDoor
