import Derived.Test.YbulkccziDoorEq
namespace Go.Proofs.YbulkccziDoor
open Go.RowKit
theorem infoT : (Ybad.prog.info? 45).map (fun i => (i.zero, i.size, i.bytes)) = some (some (.agg #[.int .u8 0, .int .u8 0]), 2, 2) := by kernel_rfl
theorem own_slice2 {w : World} {base : Nat} {e : TypeId} {z : Nat} {v : Value} {n : Nat} {xs : List Value} (h : w.ownsRow base e z v n xs) : ∃ a c, v = .slice a n c := by
  rcases h.2 with ⟨rfl, rfl⟩ | ⟨g, cap, cu, rfl, _⟩
  · exact ⟨none, 0, rfl⟩
  · exact ⟨_, _, rfl⟩
structure T9 (w : World) (done : List Tk) (v : Value) (wr : World) : Prop where
  own : wr.ownsRow w.heap.size 45 2 v done.length (tC done)
  bel : Below w.heap.size w wr
theorem T9.app {w : World} {done : List Tk} {v v' : Value} {wr w1 : World} {o : Obj} {x y : Nat} (h : T9 w done v wr) (ho : w1.ownsRow w.heap.size 45 2 v' (done.length + 1) (tC done ++ [.int .u8 (x : Nat), .int .u8 (y : Nat)])) (hg : (wr.alloc o).grownBy w1 v.ownBlock) : T9 w (done ++ [(x, y)]) v' w1 := by
  refine ⟨?_, (h.bel.alloc h.bel.size o).grown hg (by have := h.bel.size; simp; omega) (fun k hk => (h.own.lt k hk).1)⟩
  rw [tC_app, List.length_append]
  exact ho
def AtTo (l : List Nat) (w : World) (e : Ending) (w' : World) : Prop := ∃ v, e = .returned v ∧ T9 w (tk l) v w'
theorem Rd.below {w wr : World} {a : Option Addr} {l : List Nat} (h : Rd w a l) (hb : Below w.heap.size w wr) : Rd wr a l := fun t ht => by
  obtain ⟨g, h1, h2⟩ := h t ht
  exact ⟨g, h1, by rw [hb.cell (World.block_lt_of_cell? w _ h2)]; exact h2⟩
set_option maxRecDepth 8000 in
set_option maxHeartbeats 16000000 in
theorem at_any (a : Option Addr) (c : Nat) (l : List Nat) (w : World) (ha : Rd w a l) (hl : l.length ≤ 3000) (h16 : ∀ x ∈ l, x < 16) :
    Calls Ybad.prog 9 #[.slice a l.length c] w fun e w' => AtTo l w e w' := by
  have HA : Hid (Rd w a l) := ha
  have H16 : Hid (∀ x ∈ l, x < 16) := h16
  obtain ⟨n, hn⟩ : ∃ n, n = l.length := ⟨_, rfl⟩
  rw [← hn] at hl ⊢
  have HN : Hid (n = l.length) := hn
  obtain ⟨iv, hiv, hz0, hz1, hz2⟩ := info_parts infoT
  have HI : Hid (_ ∧ _ ∧ _ ∧ _) := ⟨hiv, hz0, hz1, hz2⟩
  clear hn ha h16 hiv hz0 hz1 hz2
  go_enter Ybad.func9, Ybad.ntmps9
  go_wp2_with fail
  go_loopg [3, 4] n (fun gk v3 v4 wr => ∃ (i : Nat) (done : List Tk), v4 = .int .i64 i ∧ i + gk = n ∧ Hid (done ++ tk (l.drop i) = tk l) ∧ Hid (T9 w done v3 wr))
  case atStart => exact ⟨0, [], rfl, by omega, by show _ = _; simp, ⟨World.ownsRow_nil _ _ _ _, Below.refl _ _⟩⟩
  case round =>
    obtain ⟨i, done, rfl, hi, HD, HT⟩ := hrel
    obtain ⟨va, vc, hv⟩ := own_slice2 HT.out.own
    subst hv
    rcases Nat.lt_or_ge i n with hlt | hge
    · obtain ⟨g, rfl, hc⟩ := HA.out.below HT.out.bel i (by have := HN.out; omega)
      obtain ⟨v, hv⟩ : ∃ v, v = l.getD i 0 := ⟨_, rfl⟩
      rw [← hv] at hc
      have hv16 : v < 16 := by
        have h1 : i < l.length := by have := HN.out; omega
        rw [hv, show l.getD i 0 = l[i] from by simp [List.getD, h1]]
        exact H16.out _ (List.getElem_mem h1)
      have HV : Hid (l[i]? = some v) := by
        have h1 : i < l.length := by have := HN.out; omega
        show _ = _
        rw [hv]; simp [List.getD, h1]
      clear hv
      have HR : Hid (Rd wr (some ⟨g, 0, none⟩) l) := HA.out.below HT.out.bel
      go_wp2_with fail
      go_loopg [6] (n - (i + 1)) (fun g2 v6 w2 => ∃ (j : Nat), v6 = .int .i64 j ∧ i < j ∧ j ≤ n ∧ g2 = n - j ∧ Hid (∀ t, i ≤ t → t < j → l[t]? = some v) ∧ w2 = wr)
      case atStart => exact ⟨i + 1, by go_num, by omega, by omega, rfl, fun t h1 h2 => by rw [show t = i from by omega]; exact HV.out, rfl⟩
      case round =>
        obtain ⟨j, rfl, hij, hjn, rfl, HJ, hw2⟩ := hrel
        subst hw2
        have hcj : j < n → ∃ y : Nat, y < 256 ∧ wr.cell? ⟨g, j, none⟩ = some (.int .u8 (y : Int)) ∧ Hid (l[j]? = some y) := fun h => by
          obtain ⟨_, h1, hcj⟩ := HR.out j (by have := HN.out; omega)
          simp at h1
          subst h1
          have h2 : j < l.length := by have := HN.out; omega
          have h3 : l.getD j 0 = l[j] := by simp [List.getD, h2]
          have h4 := H16.out _ (List.getElem_mem h2)
          rw [h3] at hcj
          exact ⟨l[j], by omega, hcj, by show _ = _; simp [h2]⟩
        go_upto_region 6 with fail
        go_cut [31] (fun vt wx => ∃ (tt : Bool), vt = .bool tt ∧ Hid (tt = true ↔ (j < n ∧ l[j]? = some v)) ∧ wx = wr)
        case first =>
          rcases Nat.lt_or_ge j n with hjl | hjl
          · obtain ⟨y, hy, hc2, HY⟩ := hcj hjl
            clear hcj
            go_wp2_with fail
            go_meet
            case rel => exact ⟨_, rfl, by show _ ↔ _; rw [HY.out]; simp [hjl]; omega, rfl⟩
          · have hjl1 : ¬ j < n := by omega
            have hjl2 : decide (j < n) = false := decide_eq_false hjl1
            have hjl3 : decide ((j : Int) < (n : Int)) = false := decide_eq_false (by omega)
            clear hcj
            go_wp2_with fail
            go_meet
            case rel => exact ⟨_, rfl, by show _ ↔ _; simp [hjl1], rfl⟩
        case rest =>
          obtain ⟨tt, rfl, HTT, hwc⟩ := hcut
          rw [hwc]
          clear hwc hcj
          cases tt with
          | true =>
            have hjl : j < n := (HTT.out.1 rfl).1
            have HJV : Hid (l[j]? = some v) := (HTT.out.1 rfl).2
            go_wp2_with fail
            go_roundg (n - (j + 1))
            case measure => omega
            case rel => exact ⟨j + 1, by go_num, by omega, by omega, rfl, fun t h1 h2 => by
              rcases Nat.lt_or_ge t j with h | h
              · exact HJ.out t h1 h
              · rw [show t = j from by omega]; exact HJV.out, rfl⟩
          | false =>
            have HEND : Hid (tk (l.drop i) = runT v (j - i) ++ tk (l.drop j)) := tk_run hij HJ.out (fun h => by
              have h9 := (List.getElem?_eq_some_iff.1 h).1
              have h8 := HTT.out.2 ⟨by have := HN.out; omega, h⟩
              cases h8)
            have HD2 : Hid (done ++ (runT v (j - i) ++ tk (l.drop j)) = tk l) := by show _ = _; rw [← HEND.out]; exact HD.out
            clear HJ HEND HD HTT
            obtain ⟨r, hr⟩ : ∃ r, j = i + r := ⟨j - i, by omega⟩
            have hr2 : (j : Int) - (i : Int) = (r : Int) := by omega
            have HR2 : Hid (j = i + r) := hr
            clear hr
            generalize hTL : tk (l.drop j) = TL at *
            have HTL : Hid (tk (l.drop j) = TL) := hTL
            clear hTL
            have hrn : r ≤ 3000 := by have := HR2.out; omega
            have hji : (j : Int) - (i : Int) = (r : Int) := by have := HR2.out; omega
            have hjr : j - i = r := by have := HR2.out; omega
            rw [hjr] at HD2
            clear hjr
            go_upto_if 39 with fail
            go_cut [3, 7, 39] (fun v3 v7 _ wx => ∃ (r : Nat) (done : List Tk), v7 = .int .i64 r ∧ r ≤ 3000 ∧ Hid (done ++ (List.replicate r (v, 0) ++ TL) = tk l) ∧ Hid (T9 w done v3 wx))
            case first =>
              rcases Nat.eq_zero_or_pos v with hv0 | hv0
              · subst hv0
                have HD3 : Hid (done ++ (zTok r ++ TL) = tk l) := HD2.out
                clear HD2
                go_wp2_with fail
                go_loopg [3, 7] r (fun g3 v3 v7 w3 => ∃ (done : List Tk), v7 = .int .i64 g3 ∧ g3 ≤ 3000 ∧ Hid (done ++ (zTok g3 ++ TL) = tk l) ∧ Hid (T9 w done v3 w3))
                case atStart => exact ⟨done, rfl, hrn, HD3.out, HT.out⟩
                case round =>
                  clear HD3 HT
                  obtain ⟨done2, rfl, hg3, HD3, HT⟩ := hrel
                  obtain ⟨va, vc, hv⟩ := own_slice2 HT.out.own
                  subst hv
                  have HLN : Hid (done2.length ≤ 3000) := by show _ ≤ _; have h1 := tk_len l; have h2 := congrArg List.length HD3.out; simp only [List.length_append] at h2; have := HN.out; omega
                  by_cases h11 : 11 ≤ gk
                  · by_cases h138 : 138 < gk
                    · have HD4 : Hid ((done2 ++ [(18, 127)]) ++ (zTok (gk - 138) ++ TL) = tk l) := by
                        show _ = _
                        rw [← HD3.out, zTok_big h11, show min gk 138 = 138 from by omega]
                        simp
                      have hs : (gk : Int) - 138 = ((gk - 138 : Nat) : Int) := by omega
                      go_wp2_with (first | (at_builtin; refine wpList_append_own _ rfl _ _ 27 rfl w.heap.size 45 iv (.agg #[.int .u8 0, .int .u8 0]) 2 2 Ybad.underlying27 HI.out.1 HI.out.2.1 HI.out.2.2.1 HI.out.2.2.2 rfl (by decide) _ _ _ rfl (HT.out.own.alloc _) ⟨_, 0, none⟩ 1 1 [.int .u8 ((18 : Nat) : Int), .int .u8 ((127 : Nat) : Int)] rfl rfl ?c1 ?c2 ?c3 ?c4 ?c5 ?_) | fail)
                      case c1 => exact cell_two_new _ _ _ _
                      case c2 => intro u hu; simp at hu; rcases hu with rfl | rfl <;> rfl
                      case c3 => have := HLN.out; unfold maxLen; omega
                      case c4 => have := HLN.out; omega
                      case c5 => have := HT.out.bel.size; simp; omega
                      intro v' w8 ho hgr _
                      have HT2 : Hid (T9 w (done2 ++ [(18, 127)]) v' w8) := HT.out.app ho hgr
                      obtain ⟨va8, vc8, hv8⟩ := own_slice2 ho
                      subst hv8
                      clear ho hgr HT
                      go_wp2_with fail
                      go_roundg (gk - 138)
                      case measure => omega
                      case rel => exact ⟨_, by go_num, by omega, HD4.out, HT2.out⟩
                    · obtain ⟨y, hy⟩ : ∃ y : Nat, gk = y + 11 := ⟨gk - 11, by omega⟩
                      have hyc : (gk : Int) - 11 = (y : Int) := by omega
                      have HD4 : Hid ((done2 ++ [(18, y)]) ++ (zTok 0 ++ TL) = tk l) := by
                        show _ = _
                        rw [← HD3.out, zTok_big h11, show min gk 138 = gk from by omega, Nat.sub_self, show gk - 11 = y from by omega]
                        simp
                      have hyb : y ≤ 127 := by omega
                      have h138b : (gk : Int) ≤ 138 := by omega
                      clear hy
                      go_wp2_with (first | (at_builtin; refine wpList_append_own _ rfl _ _ 27 rfl w.heap.size 45 iv (.agg #[.int .u8 0, .int .u8 0]) 2 2 Ybad.underlying27 HI.out.1 HI.out.2.1 HI.out.2.2.1 HI.out.2.2.2 rfl (by decide) _ _ _ rfl (HT.out.own.alloc _) ⟨_, 0, none⟩ 1 1 [.int .u8 ((18 : Nat) : Int), .int .u8 ((y : Nat) : Int)] rfl rfl ?c1 ?c2 ?c3 ?c4 ?c5 ?_) | fail)
                      case c1 => exact cell_two_new _ _ _ _
                      case c2 => intro u hu; simp at hu; rcases hu with rfl | rfl <;> rfl
                      case c3 => have := HLN.out; unfold maxLen; omega
                      case c4 => have := HLN.out; omega
                      case c5 => have := HT.out.bel.size; simp; omega
                      intro v' w8 ho hgr _
                      have HT2 : Hid (T9 w (done2 ++ [(18, y)]) v' w8) := HT.out.app ho hgr
                      obtain ⟨va8, vc8, hv8⟩ := own_slice2 ho
                      subst hv8
                      clear ho hgr HT
                      go_wp2_with fail
                      go_roundg 0
                      case measure => omega
                      case rel => exact ⟨_, by go_num, by omega, HD4.out, HT2.out⟩
                  · have h11a : decide ((11 : Int) ≤ (gk : Int)) = false := decide_eq_false (by omega)
                    have h11b : decide (11 ≤ gk) = false := decide_eq_false h11
                    by_cases h3 : 3 ≤ gk
                    · obtain ⟨y, hy⟩ : ∃ y : Nat, gk = y + 3 := ⟨gk - 3, by omega⟩
                      have hyc : (gk : Int) - 3 = (y : Int) := by omega
                      have HD4 : Hid ((done2 ++ [(17, y)]) ++ (List.replicate 0 (0, 0) ++ TL) = tk l) := by
                        show _ = _
                        rw [← HD3.out, zTok_mid h11 h3, show gk - 3 = y from by omega]
                        simp
                      have hyb : y ≤ 127 := by omega
                      clear hy
                      go_wp2_with (first | (at_builtin; refine wpList_append_own _ rfl _ _ 27 rfl w.heap.size 45 iv (.agg #[.int .u8 0, .int .u8 0]) 2 2 Ybad.underlying27 HI.out.1 HI.out.2.1 HI.out.2.2.1 HI.out.2.2.2 rfl (by decide) _ _ _ rfl (HT.out.own.alloc _) ⟨_, 0, none⟩ 1 1 [.int .u8 ((17 : Nat) : Int), .int .u8 ((y : Nat) : Int)] rfl rfl ?c1 ?c2 ?c3 ?c4 ?c5 ?_) | fail)
                      case c1 => exact cell_two_new _ _ _ _
                      case c2 => intro u hu; simp at hu; rcases hu with rfl | rfl <;> rfl
                      case c3 => have := HLN.out; unfold maxLen; omega
                      case c4 => have := HLN.out; omega
                      case c5 => have := HT.out.bel.size; simp; omega
                      intro v' w8 ho hgr _
                      have HT2 : Hid (T9 w (done2 ++ [(17, y)]) v' w8) := HT.out.app ho hgr
                      obtain ⟨va8, vc8, hv8⟩ := own_slice2 ho
                      subst hv8
                      clear ho hgr HT
                      go_wp2_with fail
                      go_meet
                      case rel => exact ⟨0, _, rfl, by omega, HD4.out, HT2.out⟩
                    · have h3a : decide ((3 : Int) ≤ (gk : Int)) = false := decide_eq_false (by omega)
                      have h3b : decide (3 ≤ gk) = false := decide_eq_false h3
                      go_wp2_with fail
                      go_meet
                      case rel => exact ⟨gk, done2, rfl, by omega, by (show _ = _; rw [← HD3.out, zTok_small h3]), HT.out⟩
              · have hvb1 : ((v : Int) == 0) = false := by simp; omega
                have hvb2 : (v == 0) = false := by simp; omega
                have HD3 : Hid ((done ++ [(v, 0)]) ++ (vTok v (r - 1) ++ TL) = tk l) := by
                  show _ = _
                  rw [← HD2.out, runT, if_neg (by omega)]
                  simp
                have HLN : Hid (done.length ≤ 3000) := by show _ ≤ _; have h1 := tk_len l; have h2 := congrArg List.length HD2.out; simp only [List.length_append] at h2; have := HN.out; omega
                have hr1 : (r : Int) - 1 = ((r - 1 : Nat) : Int) := by have := HR2.out; omega
                generalize hr9 : r - 1 = r9 at HD3 hr1
                have hr9b : r9 ≤ 3000 := by omega
                clear hr9
                go_wp2_with (first | (at_builtin; refine wpList_append_own _ rfl _ _ 27 rfl w.heap.size 45 iv (.agg #[.int .u8 0, .int .u8 0]) 2 2 Ybad.underlying27 HI.out.1 HI.out.2.1 HI.out.2.2.1 HI.out.2.2.2 rfl (by decide) _ _ _ rfl (HT.out.own.alloc _) ⟨_, 0, none⟩ 1 1 [.int .u8 ((v : Nat) : Int), .int .u8 ((0 : Nat) : Int)] rfl rfl ?c1 ?c2 ?c3 ?c4 ?c5 ?_) | fail)
                case c1 => exact cell_two_new _ _ _ _
                case c2 => intro u hu; simp at hu; rcases hu with rfl | rfl <;> rfl
                case c3 => have := HLN.out; unfold maxLen; omega
                case c4 => have := HLN.out; omega
                case c5 => have := HT.out.bel.size; simp; omega
                intro v' w8 ho hgr _
                have HT2 : Hid (T9 w (done ++ [(v, 0)]) v' w8) := HT.out.app ho hgr
                obtain ⟨va8, vc8, hv8⟩ := own_slice2 ho
                subst hv8
                clear ho hgr HT
                go_wp2_with fail
                go_loopg [3, 7] r9 (fun g3 v3 v7 w3 => ∃ (done : List Tk), v7 = .int .i64 g3 ∧ g3 ≤ 3000 ∧ Hid (done ++ (vTok v g3 ++ TL) = tk l) ∧ Hid (T9 w done v3 w3))
                case atStart => exact ⟨_, rfl, hr9b, HD3.out, HT2.out⟩
                case round =>
                  clear HD3 HT2 HLN
                  obtain ⟨done2, rfl, hg3, HD3, HT⟩ := hrel
                  obtain ⟨va, vc, hv⟩ := own_slice2 HT.out.own
                  subst hv
                  have HLN : Hid (done2.length ≤ 3000) := by show _ ≤ _; have h1 := tk_len l; have h2 := congrArg List.length HD3.out; simp only [List.length_append] at h2; have := HN.out; omega
                  by_cases h11 : 3 ≤ gk
                  · by_cases h138 : 6 < gk
                    · have HD4 : Hid ((done2 ++ [(16, 3)]) ++ (vTok v (gk - 6) ++ TL) = tk l) := by
                        show _ = _
                        rw [← HD3.out, vTok_big h11, show min gk 6 = 6 from by omega]
                        simp
                      have hs : (gk : Int) - 6 = ((gk - 6 : Nat) : Int) := by omega
                      go_wp2_with (first | (at_builtin; refine wpList_append_own _ rfl _ _ 27 rfl w.heap.size 45 iv (.agg #[.int .u8 0, .int .u8 0]) 2 2 Ybad.underlying27 HI.out.1 HI.out.2.1 HI.out.2.2.1 HI.out.2.2.2 rfl (by decide) _ _ _ rfl (HT.out.own.alloc _) ⟨_, 0, none⟩ 1 1 [.int .u8 ((16 : Nat) : Int), .int .u8 ((3 : Nat) : Int)] rfl rfl ?c1 ?c2 ?c3 ?c4 ?c5 ?_) | fail)
                      case c1 => exact cell_two_new _ _ _ _
                      case c2 => intro u hu; simp at hu; rcases hu with rfl | rfl <;> rfl
                      case c3 => have := HLN.out; unfold maxLen; omega
                      case c4 => have := HLN.out; omega
                      case c5 => have := HT.out.bel.size; simp; omega
                      intro v' w8 ho hgr _
                      have HT2 : Hid (T9 w (done2 ++ [(16, 3)]) v' w8) := HT.out.app ho hgr
                      obtain ⟨va8, vc8, hv8⟩ := own_slice2 ho
                      subst hv8
                      clear ho hgr HT
                      go_wp2_with fail
                      go_roundg (gk - 6)
                      case measure => omega
                      case rel => exact ⟨_, by go_num, by omega, HD4.out, HT2.out⟩
                    · obtain ⟨y, hy⟩ : ∃ y : Nat, gk = y + 3 := ⟨gk - 3, by omega⟩
                      have hyc : (gk : Int) - 3 = (y : Int) := by omega
                      have HD4 : Hid ((done2 ++ [(16, y)]) ++ (vTok v 0 ++ TL) = tk l) := by
                        show _ = _
                        rw [← HD3.out, vTok_big h11, show min gk 6 = gk from by omega, Nat.sub_self, show gk - 3 = y from by omega]
                        simp
                      have hyb : y ≤ 127 := by omega
                      have h138b : (gk : Int) ≤ 6 := by omega
                      clear hy
                      go_wp2_with (first | (at_builtin; refine wpList_append_own _ rfl _ _ 27 rfl w.heap.size 45 iv (.agg #[.int .u8 0, .int .u8 0]) 2 2 Ybad.underlying27 HI.out.1 HI.out.2.1 HI.out.2.2.1 HI.out.2.2.2 rfl (by decide) _ _ _ rfl (HT.out.own.alloc _) ⟨_, 0, none⟩ 1 1 [.int .u8 ((16 : Nat) : Int), .int .u8 ((y : Nat) : Int)] rfl rfl ?c1 ?c2 ?c3 ?c4 ?c5 ?_) | fail)
                      case c1 => exact cell_two_new _ _ _ _
                      case c2 => intro u hu; simp at hu; rcases hu with rfl | rfl <;> rfl
                      case c3 => have := HLN.out; unfold maxLen; omega
                      case c4 => have := HLN.out; omega
                      case c5 => have := HT.out.bel.size; simp; omega
                      intro v' w8 ho hgr _
                      have HT2 : Hid (T9 w (done2 ++ [(16, y)]) v' w8) := HT.out.app ho hgr
                      obtain ⟨va8, vc8, hv8⟩ := own_slice2 ho
                      subst hv8
                      clear ho hgr HT
                      go_wp2_with fail
                      go_roundg 0
                      case measure => omega
                      case rel => exact ⟨_, by go_num, by omega, HD4.out, HT2.out⟩
                  · have h11a : decide ((3 : Int) ≤ (gk : Int)) = false := decide_eq_false (by omega)
                    have h11b : decide (3 ≤ gk) = false := decide_eq_false h11
                    go_wp2_with fail
                    go_meet
                    case rel => exact ⟨gk, done2, rfl, by omega, by (show _ = _; rw [← HD3.out, vTok_small h11]), HT.out⟩
            case rest =>
              clear HD2 HT
              obtain ⟨r5, done5, rfl, hr5, HD5, HT5⟩ := hcut
              go_wp2_with fail
              go_loopg [3, 7] r5 (fun g3 v3 v7 w3 => ∃ (done : List Tk), v7 = .int .i64 g3 ∧ g3 ≤ 3000 ∧ Hid (done ++ (List.replicate g3 (v, 0) ++ TL) = tk l) ∧ Hid (T9 w done v3 w3))
              case atStart => exact ⟨done5, rfl, hr5, HD5.out, HT5.out⟩
              case round =>
                clear HD5 HT5
                obtain ⟨done2, rfl, hg3, HD3, HT⟩ := hrel
                obtain ⟨va, vc, hv⟩ := own_slice2 HT.out.own
                subst hv
                have HLN : Hid (done2.length ≤ 3000) := by show _ ≤ _; have h1 := tk_len l; have h2 := congrArg List.length HD3.out; simp only [List.length_append] at h2; have := HN.out; omega
                rcases Nat.eq_zero_or_pos gk with h0 | h0
                · subst h0
                  have HD4 : Hid (done2 ++ tk (l.drop j) = tk l) := by show _ = _; rw [HTL.out]; simpa using HD3.out
                  go_wp2_with fail
                  go_roundg (n - j)
                  case measure => omega
                  case rel => exact ⟨j, done2, rfl, by omega, HD4.out, HT.out⟩
                · have HD4 : Hid ((done2 ++ [(v, 0)]) ++ (List.replicate (gk - 1) (v, 0) ++ TL) = tk l) := by
                    show _ = _
                    rw [← HD3.out, show gk = gk - 1 + 1 from by omega, List.replicate_succ]
                    simp
                  have h0a : (0 : Int) < (gk : Int) := by omega
                  have hs : (gk : Int) - 1 = ((gk - 1 : Nat) : Int) := by omega
                  go_wp2_with (first | (at_builtin; refine wpList_append_own _ rfl _ _ 27 rfl w.heap.size 45 iv (.agg #[.int .u8 0, .int .u8 0]) 2 2 Ybad.underlying27 HI.out.1 HI.out.2.1 HI.out.2.2.1 HI.out.2.2.2 rfl (by decide) _ _ _ rfl (HT.out.own.alloc _) ⟨_, 0, none⟩ 1 1 [.int .u8 ((v : Nat) : Int), .int .u8 ((0 : Nat) : Int)] rfl rfl ?c1 ?c2 ?c3 ?c4 ?c5 ?_) | fail)
                  case c1 => exact cell_two_new _ _ _ _
                  case c2 => intro u hu; simp at hu; rcases hu with rfl | rfl <;> rfl
                  case c3 => have := HLN.out; unfold maxLen; omega
                  case c4 => have := HLN.out; omega
                  case c5 => have := HT.out.bel.size; simp; omega
                  intro v' w8 ho hgr _
                  have HT2 : Hid (T9 w (done2 ++ [(v, 0)]) v' w8) := HT.out.app ho hgr
                  obtain ⟨va8, vc8, hv8⟩ := own_slice2 ho
                  subst hv8
                  clear ho hgr HT
                  go_wp2_with fail
                  go_roundg (gk - 1)
                  case measure => omega
                  case rel => exact ⟨_, by go_num, by omega, HD4.out, HT2.out⟩
    · have hin : i = n := by omega
      have HEND : Hid (AtTo l w (.returned (.slice va done.length vc)) wr) := by
        have h1 : tk l = done := by
          rw [← HD.out, hin, HN.out, List.drop_length, tk_nil, List.append_nil]
        refine ⟨_, rfl, ?_⟩
        rw [h1]
        exact HT.out
      clear hin
      go_wp2_with fail
      exact bodyPost_ret (v := .slice va done.length vc) (by simp [results, Ybad.results9, go_sem]) rfl HEND.out
end Go.Proofs.YbulkccziDoor
