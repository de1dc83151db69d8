import Derived.Test.YbulkccziDoorPdq0
namespace Go.Proofs.YbulkccziDoor
open Go.RowKit
set_option maxRecDepth 8000 in
set_option maxHeartbeats 16000000 in
theorem pdq_step (m : Nat) (ih : ∀ k, k < m → PdqSaid k) : PdqSaid m := by
  intro g n c a b lim off zs tl w hw hn hab hb hm hlim hbm ho
  have H0 : Hid (HasRow w g n zs tl w) := ⟨zs, hn, PR.refl hw⟩
  have IH : Hid (∀ k, k < m → PdqSaid k) := ih
  clear hw ih
  go_enter Ybad.func22, Ybad.ntmps22
  go_wp2_with fail
  go_loopg [1, 2, 3, 8, 9] m (fun gk va vb vl vw vp wr => ∃ (a' b' l : Nat) (bb pp : Bool), va = .int .i64 a' ∧ vb = .int .i64 b' ∧ vl = .int .i64 l ∧ vw = .bool bb ∧ vp = .bool pp ∧ a' ≤ b' ∧ b' ≤ n ∧ l ≤ 1000 ∧ b' - a' ≤ gk ∧ gk ≤ m ∧ Hid (HasRow w g n zs tl wr))
  case atStart => exact ⟨a, b, lim, true, true, rfl, rfl, rfl, rfl, rfl, hab, hb, hlim, hbm, Nat.le_refl _, H0.out⟩
  case round =>
    obtain ⟨a', b', l, bb, pp, rfl, rfl, rfl, rfl, rfl, hab', hb', hl', hgk, hgm, HR⟩ := hrel
    clear H0
    obtain ⟨us, hus, hpr⟩ := HR.out
    obtain ⟨L, hbl⟩ : ∃ L, b' = a' + L := ⟨b' - a', by omega⟩
    have hh : (b' : Int) - (a' : Int) = (L : Int) := by omega
    have HB : Hid (b' = a' + L) := hbl
    have HP : Hid (PR w g zs tl wr us) := hpr
    by_cases hL : L ≤ 12
    · have hL' : (L : Int) ≤ 12 := by omega
      have HC : Hid (Calls Ybad.prog 24 _ _ _) := ins_any g n c a' b' off us tl wr hpr.blk hus hab' hb' (by omega) ho
      clear hpr hbl
      go_wp2_with fail
      refine HC.out.mono ?_
      rintro e w1 ⟨rfl, vs, hv⟩
      have HE : Hid (HasRow w g n zs tl w1) := HasRow.next HP.out hus hv
      clear hv HC
      go_wp2
      exact bodyPost_ret (v := .tuple #[]) (by simp [results, Ybad.results22, go_sem]) rfl HE.out.to
    · have hL' : (12 : Int) < (L : Int) := by omega
      by_cases hl0 : l = 0
      · subst hl0
        have HC : Hid (Calls Ybad.prog 25 _ _ _) := heap_any g n c a' b' off us tl wr hpr.blk hus (by omega) hb' (by omega) ho
        clear hpr hbl
        go_wp2_with fail
        refine HC.out.mono ?_
        rintro e w1 ⟨rfl, vs, hv⟩
        have HE : Hid (HasRow w g n zs tl w1) := HasRow.next HP.out hus hv
        clear hv HC
        go_wp2
        exact bodyPost_ret (v := .tuple #[]) (by simp [results, Ybad.results22, go_sem]) rfl HE.out.to
      · have hlb : ((l : Int) == 0) = false := by simp; omega
        have hlc : (l == 0) = false := by simp; omega
        have HC : Hid (Calls Ybad.prog 26 _ _ _) := brk_any g n c a' b' off us tl wr hpr.blk hus (by omega) (by omega) hb' (by omega) ho
        clear hpr hbl
        go_upto_if 35 with fail
        go_cut [3] (fun vl wx => ∃ l2 : Nat, vl = .int .i64 l2 ∧ l2 ≤ 1000 ∧ Hid (HasRow w g n zs tl wx))
        case first =>
          cases bb with
          | true =>
            go_wp2_with fail
            go_meet
            case rel => exact ⟨l, rfl, hl', HR.out⟩
          | false =>
            go_wp2_with fail
            refine HC.out.mono ?_
            rintro e w1 ⟨rfl, vs, hv⟩
            have HE : Hid (HasRow w g n zs tl w1) := HasRow.next HP.out hus hv
            clear hv HC
            go_wp2_with fail
            go_meet
            case rel => exact ⟨l - 1, by congr 1; omega, by omega, HE.out⟩
        case rest =>
          obtain ⟨l2, rfl, hl2, HR2⟩ := hcut
          obtain ⟨us2, hus2, hpr2⟩ := HR2.out
          have HP2 : Hid (PR w g zs tl wc us2) := hpr2
          obtain ⟨G2, hcw2, hfw2, HSW2⟩ := hpr2.fam (off := off) hus2 ho.out
          have HV : Hid (Calls Ybad.prog 27 _ _ _) := piv_any g n c off a' b' wc (fun t ht => ⟨_, hcw2 t ht⟩) (by have := HB.out; omega) (by have := HB.out; omega) hb' (by omega) (Array.getElem?_eq_some_iff.1 hpr2.blk).1
          clear hpr2 hcw2 hfw2 HSW2 HC HP HR hus
          go_wp2_with fail
          refine HV.out.mono ?_
          rintro e w3 ⟨x, hint, rfl, hx, hhint, hg3⟩
          have HR3 : Hid (HasRow w g n zs tl w3) := HR2.out.kept hg3
          have hh2 : (hint == 2) = false := by rcases hhint with h | h <;> rw [h] <;> rfl
          clear hg3 HV HR2 HP2
          go_upto_region 15 with fail
          go_cut [68] (fun vt wx => ∃ tt : Bool, vt = .bool tt ∧ wx = w3)
          case first =>
            cases bb with
            | false =>
              go_wp2_with fail
              go_meet
              case rel => exact ⟨_, rfl, rfl⟩
            | true =>
              cases pp with
              | false =>
                go_wp2_with fail
                go_meet
                case rel => exact ⟨_, rfl, rfl⟩
              | true =>
                go_wp2_with fail
                go_meet
                case rel => exact ⟨_, rfl, rfl⟩
          case rest =>
            obtain ⟨tt, rfl, hwc⟩ := hcut
            rw [hwc]
            clear hwc
            go_upto_if 68 with fail
            go_cut [] (fun wx => HasRow w g n zs tl wx)
            case first =>
              cases tt with
              | false =>
                go_wp2_with fail
                go_meet
                case rel => exact HR3.out
              | true =>
                obtain ⟨us3, hus3, hpr3⟩ := HR3.out
                obtain ⟨G3, hcw3, hfw3, HSW3⟩ := hpr3.fam (off := off) hus3 ho.out
                have HV : Hid (Calls Ybad.prog 29 _ _ _) := pis_any g n c off a' b' w3 (fun t ht => ⟨_, hcw3 t ht⟩) (by have := HB.out; omega) (by have := HB.out; omega) hb' (by omega)
                clear hpr3 hcw3 hfw3 HSW3
                go_wp2_with fail
                refine HV.out.mono ?_
                rintro e w4 ⟨okk, q4, rfl, hw4⟩
                have HR4 : Hid (HasRow w g n zs tl w4) := by rw [hw4]; exact HR3.out.drewN _
                clear hw4 HV
                cases okk with
                | true =>
                  go_wp2_with fail
                  exact bodyPost_ret (v := .tuple #[]) (by simp [results, Ybad.results22, go_sem]) rfl HR4.out.to
                | false =>
                  go_wp2_with fail
                  go_meet
                  case rel => exact HR4.out
            case rest =>
              have HR5 : Hid (HasRow w g n zs tl wc) := hcut
              obtain ⟨us5, hus5, hpr5⟩ := HR5.out
              have HP5 : Hid (PR w g zs tl wc us5) := hpr5
              obtain ⟨G, hcw, hfw, HSW⟩ := hpr5.fam (off := off) hus5 ho.out
              clear hcut hpr5 HR3
              go_upto_region 17 with fail
              go_cut [87] (fun vt wx => ∃ (tt : Bool) (q : Nat), vt = .bool tt ∧ (tt = true → 0 < a') ∧ wx = wc.drewN q)
              case first =>
                rcases Nat.eq_zero_or_pos a' with ha0 | ha0
                · have hd : decide ((0 : Int) < (a' : Int)) = false := decide_eq_false (by omega)
                  have hd2 : decide (0 < a') = false := decide_eq_false (by omega)
                  go_quiet (first | (go_at_call 30; exact Calls.quiet_of_same (less_any _ _ _)))
                  go_wp2_with fail
                  go_meet
                  case rel => exact ⟨_, _, rfl, by simp, rfl⟩
                · have hd : (0 : Int) < (a' : Int) := by omega
                  go_quiet (first | (go_at_call 30; exact Calls.quiet_of_same (less_any _ _ _)))
                  go_wp2_with fail
                  go_meet
                  case rel => exact ⟨_, _, rfl, fun _ => ha0, rfl⟩
              case rest =>
                obtain ⟨tt, q, rfl, htt, hwc2⟩ := hcut
                have HP6 : Hid (PR w g zs tl wc us5) := by rw [hwc2]; exact HP5.out.drewN q
                clear hwc2 hcw hfw HSW HP5 HR5
                cases tt with
                | true =>
                  have ha0 : 0 < a' := htt rfl
                  have HE : Hid (Calls Ybad.prog 31 _ _ _) := peq_any g n c a' b' x off us5 tl wc HP6.out.blk hus5 hx.1 hx.2 hb' (by omega) ho
                  go_wp2_with fail
                  refine HE.out.mono ?_
                  rintro e w7 ⟨i7, us7, hi7, hi7b, rfl, hv⟩
                  have HF : Hid (HasRow w g n zs tl w7) := HasRow.next HP6.out hus5 hv
                  clear hv HE
                  go_wp2_with fail
                  go_roundg (gk - 1)
                  case measure => have := HB.out; omega
                  case rel => exact ⟨i7, b', l2, bb, pp, rfl, rfl, rfl, rfl, rfl, hi7b, hb', hl2, by omega, by omega, HF.out⟩
                | false =>
                  have HE : Hid (Calls Ybad.prog 32 _ _ _) := part_any g n c a' b' x off us5 tl wc HP6.out.blk hus5 hx.1 hx.2 hb' (by omega) ho
                  go_wp2_with fail
                  refine HE.out.mono ?_
                  rintro e w7 ⟨j7, us7, okk, hj7, hj7b, rfl, hv⟩
                  have HF : Hid (HasRow w g n zs tl w7) := HasRow.next HP6.out hus5 hv
                  obtain ⟨us8, hus8, hpr8⟩ := HF.out
                  have HP8 : Hid (PR w g zs tl w7 us8) := hpr8
                  have e1 : (j7 : Int) - (a' : Int) = ((j7 - a' : Nat) : Int) := by omega
                  have e2 : (b' : Int) - (j7 : Int) = ((b' - j7 : Nat) : Int) := by omega
                  clear hv HE hpr8 HF
                  generalize hk1 : j7 - a' = k1 at e1
                  generalize hk2 : b' - j7 = k2 at e2
                  by_cases hk : k1 < k2
                  · have HI : Hid (Calls Ybad.prog 22 _ _ _) := IH.out (j7 - a') (by omega) g n c a' j7 l2 off us8 tl w7 HP8.out.blk hus8 hj7 (by omega) hm hl2 (Nat.le_refl _) ho
                    go_wp2_with fail
                    refine HI.out.mono ?_
                    rintro e w9 ⟨rfl, us9, hv⟩
                    have HF : Hid (HasRow w g n zs tl w9) := HasRow.next HP8.out hus8 hv
                    clear hv HI
                    go_wp2_with fail
                    go_roundg (gk - 1)
                    case measure => have := HB.out; omega
                    case rel => exact ⟨j7 + 1, b', l2, _, _, by go_num, rfl, rfl, rfl, rfl, by omega, hb', hl2, by omega, by omega, HF.out⟩
                  · have HI : Hid (Calls Ybad.prog 22 _ _ _) := IH.out (b' - (j7 + 1)) (by omega) g n c (j7 + 1) b' l2 off us8 tl w7 HP8.out.blk hus8 (by omega) hb' hm hl2 (Nat.le_refl _) ho
                    rw [show ((j7 + 1 : Nat) : Int) = (j7 : Int) + 1 from by omega] at HI
                    have hkd : decide (k1 < k2) = false := decide_eq_false hk
                    have hki : decide ((k1 : Int) < (k2 : Int)) = false := decide_eq_false (by omega)
                    go_wp2_with fail
                    refine HI.out.mono ?_
                    rintro e w9 ⟨rfl, us9, hv⟩
                    have HF : Hid (HasRow w g n zs tl w9) := HasRow.next HP8.out hus8 hv
                    clear hv HI
                    go_wp2_with fail
                    go_roundg (gk - 1)
                    case measure => have := HB.out; omega
                    case rel => exact ⟨a', j7, l2, _, _, rfl, rfl, rfl, rfl, rfl, hj7, by omega, hl2, by omega, by omega, HF.out⟩
theorem pdq_any (m : Nat) : PdqSaid m := Nat.strongRecOn m (fun m ih => pdq_step m ih)
set_option maxHeartbeats 4000000 in
theorem sort_any (g n c off : Nat) (zs : List Nat) (tl : List Value) (w : World) (hw : w.heap[g]? = some (.cells (rowA zs tl) 51 (0, 0))) (hn : zs.length = n) (hm : n ≤ 19) (ho : Hid (off = 0)) :
    Calls Ybad.prog 17 #[.slice (some ⟨g, off, none⟩) n c] w fun e w' => SortTo g zs tl w e w' := by
  have H1 : Hid (Calls Ybad.prog 23 _ _ _) := len_any n hm w
  have H2 : Hid (Calls Ybad.prog 22 _ _ _) := pdq_any n g n c 0 n (lenN n) off zs tl w hw hn (Nat.zero_le _) (Nat.le_refl _) hm (Nat.le_trans (lenN_le n) (by decide)) (by omega) ho
  clear hw
  go_enter Ybad.func17, Ybad.ntmps17
  go_wp2_with fail
  refine H1.out.mono ?_
  rintro e w1 ⟨rfl, rfl⟩
  go_wp2_with fail
  refine H2.out.mono ?_
  rintro e w2 ⟨rfl, H3⟩
  have H4 : Hid _ := H3
  clear H3 H2
  go_wp2
  exact bodyPost_ret (v := .tuple #[]) (by simp [results, Ybad.results17, go_sem]) rfl ⟨rfl, H4.out⟩
end Go.Proofs.YbulkccziDoor
