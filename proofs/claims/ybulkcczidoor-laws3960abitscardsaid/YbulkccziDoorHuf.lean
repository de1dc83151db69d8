import Derived.Test.YbulkccziDoorHuf4
namespace Go.Proofs.YbulkccziDoor
open Go.RowKit
set_option maxRecDepth 8000 in
set_option maxHeartbeats 16000000 in
theorem huf_any (B LB C gl n cl m cc : Nat) (sv : Value) (zs : List Nat) (tl : List Value) (w0 : World) (ls : List Nat) (rest : List Value) (w : World) (hn : zs.length = n) (hn2 : 2 ≤ n) (hn9 : n ≤ 19) (hls : ls.length = 19) (hm : m = 2 * n - 1) (hz : ∀ z ∈ zs, z < 4000000 ∧ z % 512 < 19) (hcl : n ≤ cl ∧ cl ≤ maxLen) (_hcc : 19 ≤ cc)
    (hpre : HPre B LB C gl n cl m sv zs tl w0 ls rest w) :
    Calls Ybad.prog 16 #[.pointer (some ⟨LB, 0, none⟩), .slice (some ⟨C, 0, none⟩) 19 cc, .int .i64 7] w fun e w' => HufTo B LB C gl n cl m sv zs tl w0 ls rest e w' := by
  have hm1 : 2 * (n : Int) - 1 = (m : Int) := by omega
  have hm0 : 0 < m := by omega
  have hm3 : m ≤ 1000 := by omega
  have hz' : Hid (∀ z ∈ zs, z < 4000000 ∧ z % 512 < 19) := hz
  have hcl1 : n ≤ cl := hcl.1
  have hcl2 : cl ≤ 9223372036854775807 := hcl.2
  obtain ⟨vw, vp, vd, h0⟩ := hpre
  have H0 : Hid (HG B LB C gl n cl m sv zs tl w0 ls rest vw vp vd w) := h0
  have c0 : w.cell? ⟨LB, 0, none⟩ = some (.slice (some ⟨gl, 0, none⟩) n cl) := by simp [World.cell?, h0.lb, lbA]
  have c2 : w.cell? ⟨LB, 2, none⟩ = some vw := by simp [World.cell?, h0.lb, lbA]
  have c2f : w.frozen? ⟨LB, 2, none⟩ = false := frozenAt h0.lb 2
  have HM : Hid (m = 2 * n - 1) := hm
  clear hz hcl h0 hm
  go_enter Ybad.func16, Ybad.ntmps16
  go_upto_region 3 with fail
  go_cut [] (fun wx => ∃ vw, St m vw ∧ HG B LB C gl n cl m sv zs tl w0 ls rest vw vp vd wx)
  case first => as_aux_lemma =>
    rcases H0.out.rw with rfl | ⟨g, l, c, cur, rfl, hl1, hl2, hl3, hl4, hl5, hl6⟩
    · have HC : Hid (Calls Ybad.prog 20 _ _ _) := grow32_nil m w hm0 hm3
      go_wp2_with fail
      refine HC.out.mono ?_
      rintro e w1 ⟨g, c, cur, rfl, hg1, hg2, hg3, hg4, hg5, hg6⟩
      have HG1 : Hid (HG B LB C gl n cl m sv zs tl w0 ls rest _ vp vd w1) := H0.out.grown hg6
      have HR : Hid (Rm w1 B 21 m (.slice (some ⟨g, 0, none⟩) m c)) := Or.inr ⟨g, m, c, cur, rfl, hg2, hg2, hg3, Nat.le_trans H0.out.hB hg1, hg4, hg5⟩
      have hc3 : c ≤ 9223372036854775807 := hg3
      have c2' : w1.cell? ⟨LB, 2, none⟩ = some (.slice none 0 0) := by simp [World.cell?, HG1.out.lb, lbA]
      have c2f' : w1.frozen? ⟨LB, 2, none⟩ = false := frozenAt HG1.out.lb 2
      clear hg6 hg3 hg4 hg5 HC
      go_wp2_with fail
      go_meet
      case rel => exact ⟨_, ⟨g, c, rfl⟩, HG1.out.setW _ HR.out⟩
    · have HC : Hid (Calls Ybad.prog 20 _ _ _) := grow32_has m g c w hl2 hl3
      have HR : Hid (Rm w B 21 m (.slice (some ⟨g, 0, none⟩) m c)) := Or.inr ⟨g, m, c, cur, rfl, hl2, hl2, hl3, hl4, hl5, hl6⟩
      have hc3 : c ≤ 9223372036854775807 := hl3
      clear hl3 hl4 hl5 hl6
      go_wp2_with fail
      refine HC.out.mono ?_
      rintro e w1 ⟨rfl, rfl⟩
      go_wp2_with fail
      go_meet
      case rel => exact ⟨_, ⟨g, c, rfl⟩, H0.out.setW _ HR.out⟩
  case rest =>
    clear H0 c0 c2 c2f
    obtain ⟨vw, sw, h1⟩ := hcut
    have H0 : Hid (HG B LB C gl n cl m sv zs tl w0 ls rest vw vp vd wc) := h1
    have SW : Hid (St m vw) := sw
    have c2 : wc.cell? ⟨LB, 3, none⟩ = some vp := by simp [World.cell?, h1.lb, lbA]
    have c2f : wc.frozen? ⟨LB, 3, none⟩ = false := frozenAt h1.lb 3
    clear h1 sw
    go_upto_region 4 with fail
    go_cut [] (fun wx => ∃ vp, St m vp ∧ HG B LB C gl n cl m sv zs tl w0 ls rest vw vp vd wx)
    case first => as_aux_lemma =>
      rcases H0.out.rp with rfl | ⟨g, l, c, cur, rfl, hl1, hl2, hl3, hl4, hl5, hl6⟩
      · have HC : Hid (Calls Ybad.prog 21 _ _ _) := grow16_nil m wc hm0 hm3
        go_wp2_with fail
        refine HC.out.mono ?_
        rintro e w1 ⟨g, c, cur, rfl, hg1, hg2, hg3, hg4, hg5, hg6⟩
        have HG1 : Hid (HG B LB C gl n cl m sv zs tl w0 ls rest vw _ vd w1) := H0.out.grown hg6
        have HR : Hid (Rm w1 B 67 m (.slice (some ⟨g, 0, none⟩) m c)) := Or.inr ⟨g, m, c, cur, rfl, hg2, hg2, hg3, Nat.le_trans H0.out.hB hg1, hg4, hg5⟩
        have HNE : Hid ((Value.slice (some ⟨g, 0, none⟩) m c).ownBlock = none ∨ (Value.slice (some ⟨g, 0, none⟩) m c).ownBlock ≠ vd.ownBlock) := Or.inr (fun e => by have := H0.out.rd.lt g e.symm; omega)
        have hc3 : c ≤ 9223372036854775807 := hg3
        have c2' : w1.cell? ⟨LB, 3, none⟩ = some (.slice none 0 0) := by simp [World.cell?, HG1.out.lb, lbA]
        have c2f' : w1.frozen? ⟨LB, 3, none⟩ = false := frozenAt HG1.out.lb 3
        clear hg6 hg3 hg4 hg5 HC
        go_wp2_with fail
        go_meet
        case rel => exact ⟨_, ⟨g, c, rfl⟩, HG1.out.setP _ HR.out HNE.out⟩
      · have HC : Hid (Calls Ybad.prog 21 _ _ _) := grow16_has m g c wc hl2 hl3
        have HR : Hid (Rm wc B 67 m (.slice (some ⟨g, 0, none⟩) m c)) := Or.inr ⟨g, m, c, cur, rfl, hl2, hl2, hl3, hl4, hl5, hl6⟩
        have HNE : Hid ((Value.slice (some ⟨g, 0, none⟩) m c).ownBlock = none ∨ (Value.slice (some ⟨g, 0, none⟩) m c).ownBlock ≠ vd.ownBlock) := H0.out.ne
        have hc3 : c ≤ 9223372036854775807 := hl3
        clear hl3 hl4 hl5 hl6
        go_wp2_with fail
        refine HC.out.mono ?_
        rintro e w1 ⟨rfl, rfl⟩
        go_wp2_with fail
        go_meet
        case rel => exact ⟨_, ⟨g, c, rfl⟩, H0.out.setP _ HR.out HNE.out⟩
    case rest =>
      clear H0 c2 c2f
      obtain ⟨vp, sp, h1⟩ := hcut
      have H0 : Hid (HG B LB C gl n cl m sv zs tl w0 ls rest vw vp vd wc) := h1
      have SP : Hid (St m vp) := sp
      have c2 : wc.cell? ⟨LB, 4, none⟩ = some vd := by simp [World.cell?, h1.lb, lbA]
      have c2f : wc.frozen? ⟨LB, 4, none⟩ = false := frozenAt h1.lb 4
      clear h1 sp
      go_upto_region 5 with fail
      go_cut [] (fun wx => ∃ vd, St m vd ∧ HG B LB C gl n cl m sv zs tl w0 ls rest vw vp vd wx)
      case first => as_aux_lemma =>
        rcases H0.out.rd with rfl | ⟨g, l, c, cur, rfl, hl1, hl2, hl3, hl4, hl5, hl6⟩
        · have HC : Hid (Calls Ybad.prog 21 _ _ _) := grow16_nil m wc hm0 hm3
          go_wp2_with fail
          refine HC.out.mono ?_
          rintro e w1 ⟨g, c, cur, rfl, hg1, hg2, hg3, hg4, hg5, hg6⟩
          have HG1 : Hid (HG B LB C gl n cl m sv zs tl w0 ls rest vw vp _ w1) := H0.out.grown hg6
          have HR : Hid (Rm w1 B 67 m (.slice (some ⟨g, 0, none⟩) m c)) := Or.inr ⟨g, m, c, cur, rfl, hg2, hg2, hg3, Nat.le_trans H0.out.hB hg1, hg4, hg5⟩
          have HNE : Hid (vp.ownBlock = none ∨ vp.ownBlock ≠ (Value.slice (some ⟨g, 0, none⟩) m c).ownBlock) := Or.inr (fun e => by have := H0.out.rp.lt g e; omega)
          have hc3 : c ≤ 9223372036854775807 := hg3
          have c2' : w1.cell? ⟨LB, 4, none⟩ = some (.slice none 0 0) := by simp [World.cell?, HG1.out.lb, lbA]
          have c2f' : w1.frozen? ⟨LB, 4, none⟩ = false := frozenAt HG1.out.lb 4
          clear hg6 hg3 hg4 hg5 HC
          go_wp2_with fail
          go_meet
          case rel => exact ⟨_, ⟨g, c, rfl⟩, HG1.out.setD _ HR.out HNE.out⟩
        · have HC : Hid (Calls Ybad.prog 21 _ _ _) := grow16_has m g c wc hl2 hl3
          have HR : Hid (Rm wc B 67 m (.slice (some ⟨g, 0, none⟩) m c)) := Or.inr ⟨g, m, c, cur, rfl, hl2, hl2, hl3, hl4, hl5, hl6⟩
          have HNE : Hid (vp.ownBlock = none ∨ vp.ownBlock ≠ (Value.slice (some ⟨g, 0, none⟩) m c).ownBlock) := H0.out.ne
          have hc3 : c ≤ 9223372036854775807 := hl3
          clear hl3 hl4 hl5 hl6
          go_wp2_with fail
          refine HC.out.mono ?_
          rintro e w1 ⟨rfl, rfl⟩
          go_wp2_with fail
          go_meet
          case rel => exact ⟨_, ⟨g, c, rfl⟩, H0.out.setD _ HR.out HNE.out⟩
      case rest =>
        clear H0 c2 c2f
        obtain ⟨vd, sd, h1⟩ := hcut
        obtain ⟨gw, cw, gp, cp, gd, cd, aw, ap, ad, hmem⟩ := h1.mem SW.out SP.out sd
        have HM0 : Hid (HMem B LB C gl n cl m sv zs tl gw cw gp cp gd cd w0 ls rest aw ap ad wc) := hmem
        obtain ⟨q0, q2, q3, q4⟩ := hmem.lbc
        obtain ⟨⟨a1, a2, a3, a4, a5⟩, ⟨b1, b2, b3, b4⟩, ⟨c1, c2, c3⟩, d1, d2⟩ := hmem.apart
        have hpd : gp ≠ gd := hmem.ne
        have mw : m ≤ cw := hmem.mw.1
        have mp : m ≤ cp := hmem.mp.1
        have md : m ≤ cd := hmem.md.1
        clear h1 sd hmem SW SP
        go_wp2_with fail
        go_loopg [68] n (fun gk v68 wr => ∃ (k : Nat) (aw : Array Value), v68 = .int .i64 k ∧ k ≤ n ∧ gk = n - k ∧ Hid (HMem B LB C gl n cl m sv zs tl gw cw gp cp gd cd w0 ls rest aw ap ad wr) ∧ Hid (AW k aw (wsOf zs)))
        case atStart => exact ⟨0, aw, rfl, by omega, by omega, HM0.out, fun t ht => by omega⟩
        case round =>
          obtain ⟨k, aw', rfl, hk, rfl, HMk, HA⟩ := hrel
          clear HM0 q0 q2 q3 q4
          rcases Nat.lt_or_ge k n with hlt | hge
          · as_aux_lemma =>
              obtain ⟨z, hzk⟩ : ∃ z, z = zs.getD k 0 := ⟨_, rfl⟩
              have hzz : z < 4000000 ∧ wr.cell? ⟨gl, k, none⟩ = some (.int .u32 (z : Int)) := by
                have h1 : k < zs.length := by omega
                have h2 : zs.getD k 0 = zs[k] := by simp [List.getD, h1]
                rw [hzk, h2]
                exact ⟨(hz'.out _ (List.getElem_mem h1)).1, cellAt HMk.out.lv k _ (rowA_at zs tl k h1)⟩
              have hz1 := hzz.1
              have hz2 := hzz.2
              obtain ⟨u, hu⟩ := cellEx HMk.out.hw k (by have := HMk.out.sw; omega)
              have huf := frozenAt HMk.out.hw k
              obtain ⟨q0, q2, q3, q4⟩ := HMk.out.lbc
              have HZ : Hid (z = zs.getD k 0) := hzk
              clear hzz hzk
              go_wp2_with fail
              go_roundg (n - (k + 1))
              case measure => omega
              case rel => exact ⟨k + 1, _, by go_num, by omega, rfl, HMk.out.setw k _, HA.out.snoc (by have := HMk.out.sw; omega) (by rw [wsOf_at, ← HZ.out]; omega)⟩
          · have hkn : n = k := by omega
            subst hkn
            have HS0 : Hid (BS n 0 n (joins n (wsOf zs) 0) 0 n aw' ap) := ⟨rfl, joins_ok (wsOf zs) (by simpa [wsOf] using hn) 0 (by omega), rfl, rfl, HA.out, fun x hx => by cases hx⟩
            clear HA
            go_wp2_with fail
            go_loopg [11, 12, 13] n (fun gk v11 v12 v13 wr => ∃ (k lf inn nx : Nat) (aw ap : Array Value), v11 = .int .i64 lf ∧ v12 = .int .i64 inn ∧ v13 = .int .i64 nx ∧ k + 1 ≤ n ∧ gk = n - k ∧ Hid (HMem B LB C gl n cl m sv zs tl gw cw gp cp gd cd w0 ls rest aw ap ad wr) ∧ Hid (BS n k nx (joins n (wsOf zs) k) lf inn aw ap))
            case atStart => exact ⟨0, 0, n, n, aw', ap, rfl, rfl, rfl, by omega, by omega, HMk.out, HS0.out⟩
            case round =>
              clear HMk HS0
              obtain ⟨k, lf, inn, nx, aw2, ap2, rfl, rfl, rfl, hk1, rfl, HMb, HS⟩ := hrel
              obtain ⟨q0, q2, q3, q4⟩ := HMb.out.lbc
              have hnx : n ≤ nx := by have := HS.out.hx; omega
              rcases Nat.lt_or_ge (k + 1) n with hlt | hge2
              · have hnm : nx < m := by have := HS.out.hx; have := HM.out; omega
                obtain ⟨u, hu⟩ := cellEx HMb.out.hw nx (by have := HMb.out.sw; omega)
                have huf := frozenAt HMb.out.hw nx
                have HR0 : Hid (BR n k nx (joins n (wsOf zs) k) 0 lf inn (aw2.setIfInBounds nx (.int .i32 0)) ap2) := HS.out.enter (by have := HMb.out.sw; omega)
                go_wp2_with fail
                go_loopg [11, 12, 96] 2 (fun gk v11 v12 v96 wr => ∃ (r lf inn : Nat) (aw ap : Array Value), v11 = .int .i64 lf ∧ v12 = .int .i64 inn ∧ v96 = .int .i64 r ∧ r ≤ 2 ∧ gk = 2 - r ∧ Hid (HMem B LB C gl n cl m sv zs tl gw cw gp cp gd cd w0 ls rest aw ap ad wr) ∧ Hid (BR n k nx (joins n (wsOf zs) k) r lf inn aw ap))
                case atStart => exact ⟨0, lf, inn, _, ap2, rfl, rfl, rfl, by omega, by omega, HMb.out.setw _ _, HR0.out⟩
                case round =>
                  clear HR0 hu huf q0 q2 q3 q4
                  obtain ⟨r, lf2, inn2, aw3, ap3, rfl, rfl, rfl, hr2, rfl, HMc, HR⟩ := hrel
                  obtain ⟨q0, q2, q3, q4⟩ := HMc.out.lbc
                  obtain ⟨t1, t2, t3, t4⟩ := HR.out.cond
                  have HX : Hid (nx = n + k) := HR.out.hx
                  rcases Nat.lt_or_ge r 2 with hr | hr
                  · go_upto_region 19 with fail
                    go_cut [123] (fun vt wx => ∃ (tt : Bool) (q : Nat), vt = .bool tt ∧ Hid (tt = true ↔ (lf2 < n ∧ (inn2 = nx ∨ (joins n (wsOf zs) k).W.getD lf2 0 ≤ (joins n (wsOf zs) k).W.getD inn2 0))) ∧ wx = wr.drewN q)
                    case first => as_aux_lemma =>
                      rcases Nat.lt_or_ge lf2 n with hl | hl
                      · have hcl : wr.cell? ⟨gw, lf2, none⟩ = some (.int .i32 ((joins n (wsOf zs) k).W.getD lf2 0)) := cellAt HMc.out.hw _ _ (HR.out.fw lf2 (by omega))
                        obtain ⟨x1, hx1⟩ : ∃ x1, x1 = (joins n (wsOf zs) k).W.getD lf2 0 := ⟨_, rfl⟩
                        rw [← hx1] at hcl
                        have HX1 : Hid (x1 = _) := hx1
                        clear hx1
                        rcases Nat.lt_or_ge inn2 nx with hi | hi
                        · have hci : wr.cell? ⟨gw, inn2, none⟩ = some (.int .i32 ((joins n (wsOf zs) k).W.getD inn2 0)) := cellAt HMc.out.hw _ _ (HR.out.fw inn2 (by omega))
                          obtain ⟨x2, hx2⟩ : ∃ x2, x2 = (joins n (wsOf zs) k).W.getD inn2 0 := ⟨_, rfl⟩
                          rw [← hx2] at hci
                          have HX2 : Hid (x2 = _) := hx2
                          clear hx2
                          have hne : ¬ inn2 = nx := by omega
                          have hb1 : ((inn2 : Int) == (nx : Int)) = false := by simp; omega
                          have hb2 : (inn2 == nx) = false := by simp; omega
                          have hb3 : decide ((inn2 : Int) = (nx : Int)) = false := decide_eq_false (by omega)
                          have hb4 : decide (inn2 = nx) = false := decide_eq_false hne
                          go_quiet (first | fail)
                          go_wp2_with fail
                          go_meet
                          case rel => exact ⟨_, _, rfl, by unfold Hid; rw [← HX1.out, ← HX2.out]; simp [hl, hne], rfl⟩
                        · have hne : inn2 = nx := by omega
                          go_quiet (first | fail)
                          go_wp2_with fail
                          go_meet
                          case rel => exact ⟨_, _, rfl, by unfold Hid; simp [hl, hne], rfl⟩
                      · have hl1 : ¬ lf2 < n := by omega
                        have hl2 : decide (lf2 < n) = false := decide_eq_false hl1
                        have hl3 : decide ((lf2 : Int) < (n : Int)) = false := decide_eq_false (by omega)
                        go_quiet (first | fail)
                        go_wp2_with fail
                        go_meet
                        case rel => exact ⟨_, _, rfl, by unfold Hid; simp [hl1], rfl⟩
                    case rest =>
                      obtain ⟨tt, q, rfl, HT, hwc⟩ := hcut
                      have HMd : Hid (HMem B LB C gl n cl m sv zs tl gw cw gp cp gd cd w0 ls rest aw3 ap3 ad wc) := by rw [hwc]; exact HMc.out.drewN q
                      clear hwc q0 q2 q3 q4 HMc
                      obtain ⟨q0, q2, q3, q4⟩ := HMd.out.lbc
                      have hca : wc.cell? ⟨gw, nx, none⟩ = some (.int .i32 (picks n (joins n (wsOf zs) k) r).acc) := cellAt HMd.out.hw _ _ HR.out.ac
                      have hcf := frozenAt HMd.out.hw nx
                      cases tt with
                      | true => as_aux_lemma =>
                        have hc := HT.out.1 rfl
                        have hl : lf2 < n := hc.1
                        have HCC : Hid _ := hc
                        clear hc
                        have hcl : wc.cell? ⟨gw, lf2, none⟩ = some (.int .i32 ((joins n (wsOf zs) k).W.getD lf2 0)) := cellAt HMd.out.hw _ _ (HR.out.fw lf2 (by omega))
                        obtain ⟨u5, hu5⟩ := cellEx HMd.out.hp lf2 (by have := HMd.out.sp; omega)
                        have hu5f := frozenAt HMd.out.hp lf2
                        obtain ⟨x1, hx1⟩ : ∃ x1, x1 = (joins n (wsOf zs) k).W.getD lf2 0 := ⟨_, rfl⟩
                        obtain ⟨x0, hx0⟩ : ∃ x0, x0 = (picks n (joins n (wsOf zs) k) r).acc := ⟨_, rfl⟩
                        rw [← hx1] at hcl
                        rw [← hx0] at hca
                        have HE : Hid (x1 = _ ∧ x0 = _) := ⟨hx1, hx0⟩
                        clear hx1 hx0
                        have hne1 : nx ≠ lf2 := by omega
                        go_wp2_with fail
                        go_region
                        all_goals go_wp2_with fail
                        go_roundg (2 - (r + 1))
                        case measure => omega
                        case rel => exact ⟨r + 1, lf2 + 1, inn2, _, _, by go_num, rfl, by go_num, by omega, rfl, ((HMd.out.setp lf2 _).setw nx _).drewN _, HR.out.leaf hr (by have := HMd.out.sw; omega) (by have := HMd.out.sp; omega) HCC.out (by omega) (by rw [← HE.out.1, ← HE.out.2]; exact (IntWalk.i32_left _).symm)⟩
                      | false => as_aux_lemma =>
                        have HCC : Hid (¬ (lf2 < n ∧ (inn2 = nx ∨ (joins n (wsOf zs) k).W.getD lf2 0 ≤ (joins n (wsOf zs) k).W.getD inn2 0))) := fun hc => by have := HT.out.2 hc; cases this
                        have hi : inn2 < nx := by
                          rcases Nat.lt_or_ge lf2 n with hl | hl
                          · rcases Nat.eq_or_lt_of_le t3 with he | he
                            · exact absurd ⟨hl, Or.inl he⟩ HCC.out
                            · exact he
                          · have := HX.out; omega
                        have hcl : wc.cell? ⟨gw, inn2, none⟩ = some (.int .i32 ((joins n (wsOf zs) k).W.getD inn2 0)) := cellAt HMd.out.hw _ _ (HR.out.fw inn2 (by omega))
                        obtain ⟨u5, hu5⟩ := cellEx HMd.out.hp inn2 (by have := HMd.out.sp; omega)
                        have hu5f := frozenAt HMd.out.hp inn2
                        obtain ⟨x1, hx1⟩ : ∃ x1, x1 = (joins n (wsOf zs) k).W.getD inn2 0 := ⟨_, rfl⟩
                        obtain ⟨x0, hx0⟩ : ∃ x0, x0 = (picks n (joins n (wsOf zs) k) r).acc := ⟨_, rfl⟩
                        rw [← hx1] at hcl
                        rw [← hx0] at hca
                        have HE : Hid (x1 = _ ∧ x0 = _) := ⟨hx1, hx0⟩
                        clear hx1 hx0
                        have hne1 : nx ≠ inn2 := by omega
                        go_wp2_with fail
                        go_region
                        all_goals go_wp2_with fail
                        go_roundg (2 - (r + 1))
                        case measure => omega
                        case rel => exact ⟨r + 1, lf2, inn2 + 1, _, _, rfl, by go_num, by go_num, by omega, rfl, ((HMd.out.setp inn2 _).setw nx _).drewN _, HR.out.inner hr hlt (by have := HMd.out.sw; omega) (by have := HMd.out.sp; omega) HCC.out (by omega) (by rw [← HE.out.1, ← HE.out.2]; exact (IntWalk.i32_left _).symm)⟩
                  · have hr' : 2 = r := by omega
                    subst hr'
                    go_wp2_with fail
                    go_roundg (n - (k + 1))
                    case measure => omega
                    case rel => exact ⟨k + 1, lf2, inn2, nx + 1, aw3, ap3, rfl, rfl, by go_num, by omega, rfl, HMc.out, HR.out.leave HS.out.ok hlt⟩
              · have HNM : Hid (nx = m) := by have := HS.out.hx; have := HM.out; show nx = m; omega
                have hnm : ¬ (nx : Int) < (m : Int) := by have := HNM.out; omega
                have hnm2 : decide ((nx : Int) < (m : Int)) = false := decide_eq_false hnm
                have hnm3 : decide (nx < m) = false := decide_eq_false (by omega)
                have HKN : Hid (k + 1 = n) := by show k + 1 = n; omega
                obtain ⟨p, hp⟩ : ∃ p, m = p + 1 := ⟨m - 1, by omega⟩
                have hp1 : (m : Int) - 1 = (p : Int) := by omega
                have hp2 : (m : Int) - 2 = (p : Int) - 1 := by omega
                have HPm : Hid (m = p + 1) := hp
                have hpm : p < m := by omega
                clear hp
                obtain ⟨u, hu⟩ := cellEx HMb.out.hd p (by have := HMb.out.sd; omega)
                have huf := frozenAt HMb.out.hd p
                have HPW : Hid (PW n ap2 (ordF (wsOf zs))) := by
                  have e : n = (wsOf zs).length := by rw [← hn]; simp [wsOf]
                  have : (joins n (wsOf zs) k).O = ordF (wsOf zs) := by unfold ordF; rw [← e]; congr 2; have := HKN.out; omega
                  rw [← this]; exact HS.out.pw
                have HUP : Hid (∀ x, x < p → x < par n (ordF (wsOf zs)) x ∧ par n (ordF (wsOf zs)) x ≤ p) := fun x hx => by
                  have e : (wsOf zs).length = n := by rw [← hn]; simp [wsOf]
                  have := HM.out; have := HPm.out
                  have h := ordF_up (wsOf zs) (by omega) x (by omega)
                  rw [e] at h
                  exact ⟨h.1, by omega⟩
                have HMEM : Hid (∀ x, x < p → x ∈ ordF (wsOf zs)) := fun x hx => by
                  have e : (wsOf zs).length = n := by rw [← hn]; simp [wsOf]
                  have := HM.out; have := HPm.out
                  exact (ordF_mem (wsOf zs) (by omega) x).2 (by omega)
                have HSTEP : Hid (∀ x, x < p → depN n (ordF (wsOf zs)) x = depN n (ordF (wsOf zs)) (par n (ordF (wsOf zs)) x) + 1) := fun x hx => by
                  have := HM.out; have := HPm.out
                  exact depN_step (fun x hx => (HUP.out x (by omega)).1) (by omega)
                have HDP : Hid (∀ t, dpt zs t = depN n (ordF (wsOf zs)) t) := fun t => by unfold dpt; rw [hn]
                have HDLE : Hid (∀ t, depN n (ordF (wsOf zs)) t ≤ 2 * n) := fun t => depN_le _ _ _
                have HNP : Hid (n ≤ p) := by have := HM.out; have := HPm.out; show n ≤ p; omega
                have HD0 : Hid (DW n p p (ordF (wsOf zs)) (ad.setIfInBounds p (.int .i16 0))) := DW.root (by have := HM.out; have := HPm.out; omega) (by have := HMb.out.sd; omega)
                clear HS
                generalize hOO : ordF (wsOf zs) = O at *
                clear hOO
                go_wp2_with fail
                go_loopg [15] p (fun gk v15 wr => ∃ (y : Nat) (ad : Array Value), v15 = .int .i64 ((y : Int) - 1) ∧ y ≤ p ∧ y = gk ∧ Hid (HMem B LB C gl n cl m sv zs tl gw cw gp cp gd cd w0 ls rest aw2 ap2 ad wr) ∧ Hid (DW n y p O ad))
                case atStart => exact ⟨p, _, rfl, by omega, rfl, HMb.out.setd p _, HD0.out⟩
                case round =>
                  clear HMb HD0 hu huf q0 q2 q3 q4
                  obtain ⟨y, ad2, rfl, hy, rfl, HMd, HD⟩ := hrel
                  obtain ⟨q0, q2, q3, q4⟩ := HMd.out.lbc
                  rcases Nat.eq_zero_or_pos y with hy0 | hy0
                  · subst hy0
                    go_wp2_with fail
                    go_loopg [188] n (fun gk v188 wr => ∃ (k : Nat), v188 = .int .i64 k ∧ k + gk = n ∧ Hid (HMem B LB C gl n cl m sv zs tl gw cw gp cp gd cd w0 ls rest aw2 ap2 ad2 wr) ∧ Hid (∀ t, t < k → depN n O t ≤ 7))
                    case atStart => exact ⟨0, rfl, by omega, HMd.out, fun t ht => by omega⟩
                    case round =>
                      clear HMd q0 q2 q3 q4
                      obtain ⟨k2, rfl, hk2, HMe, HLE⟩ := hrel
                      obtain ⟨q0, q2, q3, q4⟩ := HMe.out.lbc
                      rcases Nat.lt_or_ge k2 n with hkl | hkl
                      · as_aux_lemma =>
                          obtain ⟨dd, hdd⟩ : ∃ dd, dd = depN n O k2 := ⟨_, rfl⟩
                          have hd1 : dd ≤ 2 * n := by rw [hdd]; exact HDLE.out _
                          have hkm : k2 < m := by have := HNP.out; omega
                          have hcd : wr.cell? ⟨gd, k2, none⟩ = some (.int .i16 (dd : Int)) := by rw [hdd]; exact cellAt HMe.out.hd _ _ (HD.out k2 (by omega) (by have := HNP.out; omega))
                          have HE : Hid (dd = depN n O k2) := hdd
                          clear hdd
                          by_cases h7 : dd ≤ 7
                          · have h7a : decide ((7 : Int) < (dd : Int)) = false := decide_eq_false (by omega)
                            have h7b : decide (7 < dd) = false := decide_eq_false (by omega)
                            go_wp2_with fail
                            go_roundg (gk - 1)
                            case measure => omega
                            case rel => exact ⟨k2 + 1, by go_num, by omega, HMe.out, fun t ht => by
                              rcases Nat.lt_or_ge t k2 with h | h
                              · exact HLE.out t h
                              · have : t = k2 := by omega
                                rw [this, ← HE.out]; exact h7⟩
                          · have h7a : (7 : Int) < (dd : Int) := by omega
                            have HEND : Hid (HufTo B LB C gl n cl m sv zs tl w0 ls rest (.returned (.bool false)) wr) := ⟨false, rfl, ⟨fun h => by (cases h), fun h => by (have h8 := h k2 hkl; rw [HDP.out, ← HE.out] at h8; exact absurd h8 h7)⟩, HMe.out.pre⟩
                            go_wp2_with fail
                            exact bodyPost_ret (v := .bool false) (by simp [results, Ybad.results16, go_sem]) rfl HEND.out
                      · have hkn : n = k2 := by omega
                        have hg0 : gk = 0 := by omega
                        have HALL : Hid (∀ t, t < n → dpt zs t ≤ 7) := fun t ht => by rw [HDP.out]; exact HLE.out t (by omega)
                        clear HLE
                        subst hkn
                        go_wp2_with fail
                        go_loopg [207] n (fun gk v207 wr => ∃ (k : Nat), v207 = .int .i64 k ∧ k + gk = n ∧ Hid (HMem B LB C gl n cl m sv zs tl gw cw gp cp gd cd w0 (setK zs (dpt zs) ls k) rest aw2 ap2 ad2 wr))
                        case atStart => exact ⟨0, rfl, by omega, HMe.out⟩
                        case round =>
                          clear HMe q0 q2 q3 q4
                          obtain ⟨k3, rfl, hk3, HMf⟩ := hrel
                          obtain ⟨q0, q2, q3, q4⟩ := HMf.out.lbc
                          rcases Nat.lt_or_ge k3 n with hkl | hkl
                          · as_aux_lemma =>
                              obtain ⟨z, hzk⟩ : ∃ z, z = zs.getD k3 0 := ⟨_, rfl⟩
                              have hzz : (z < 4000000 ∧ z % 512 < 19) ∧ wr.cell? ⟨gl, k3, none⟩ = some (.int .u32 (z : Int)) := by
                                have h1 : k3 < zs.length := by omega
                                have h2 : zs.getD k3 0 = zs[k3] := by simp [List.getD, h1]
                                rw [hzk, h2]
                                exact ⟨hz'.out _ (List.getElem_mem h1), cellAt HMf.out.lv k3 _ (rowA_at zs tl k3 h1)⟩
                              have hz2 := hzz.2
                              obtain ⟨s, hs⟩ : ∃ s, s = z % 512 := ⟨_, rfl⟩
                              have hs19 : s < 19 := by rw [hs]; exact hzz.1.2
                              have hand : bits .and .u32 (z : Int) 511 = (s : Int) := by rw [hs]; exact and511 z hzz.1.1
                              have hkm : k3 < m := by have := HNP.out; omega
                              obtain ⟨dd, hdd⟩ : ∃ dd, dd = dpt zs k3 := ⟨_, rfl⟩
                              have hd7 : dd ≤ 7 := by rw [hdd]; exact HALL.out k3 hkl
                              have hcd : wr.cell? ⟨gd, k3, none⟩ = some (.int .i16 (dd : Int)) := by rw [hdd, HDP.out]; exact cellAt HMf.out.hd _ _ (HD.out k3 (by omega) (by have := HNP.out; omega))
                              have hsl : s < (setK zs (dpt zs) ls k3).length := by rw [setK_len, hls]; exact hs19
                              have hcc2 : ∃ u, wr.cell? ⟨C, s, none⟩ = some u := ⟨_, cellAt HMf.out.co s _ (clA_at _ _ s hsl)⟩
                              obtain ⟨u, hu⟩ := hcc2
                              have huf := frozenAt HMf.out.co s
                              have hdu : (dd : Int) % 256 = (dd : Int) := by omega
                              have HN : Hid (HMem B LB C gl n cl m sv zs tl gw cw gp cp gd cd w0 (setK zs (dpt zs) ls (k3 + 1)) rest aw2 ap2 ad2 (wr.setCell ⟨C, s, none⟩ (.int .u8 (dd : Int)))) := by
                                have := HMf.out.setc s dd hsl
                                rw [setK, ← hzk, ← hs, ← hdd]
                                exact this
                              clear hzz hzk hs hdd hsl
                              go_wp2_with fail
                              go_roundg (gk - 1)
                              case measure => omega
                              case rel => exact ⟨k3 + 1, by go_num, by omega, HN.out⟩
                          · have hkn : n = k3 := by omega
                            subst hkn
                            have HEND : Hid (HufTo B LB C gl n cl m sv zs tl w0 ls rest (.returned (.bool true)) wr) := ⟨true, rfl, ⟨fun _ => HALL.out, fun _ => rfl⟩, HMf.out.pre⟩
                            go_wp2_with fail
                            exact bodyPost_ret (v := .bool true) (by simp [results, Ybad.results16, go_sem]) rfl HEND.out
                  · as_aux_lemma =>
                      obtain ⟨y1, hy1⟩ : ∃ y1, y = y1 + 1 := ⟨y - 1, by omega⟩
                      subst hy1
                      have hyc : ((y1 + 1 : Nat) : Int) - 1 = (y1 : Int) := by omega
                      rw [hyc]
                      obtain ⟨pp, hpp⟩ : ∃ pp, pp = par n O y1 := ⟨_, rfl⟩
                      have hup := HUP.out y1 (by omega)
                      rw [← hpp] at hup
                      have hu1 := hup.1
                      have hu2 := hup.2
                      obtain ⟨dd, hdd⟩ : ∃ dd, dd = depN n O pp := ⟨_, rfl⟩
                      have hd1 : dd ≤ 2 * n := by rw [hdd]; exact HDLE.out _
                      have hcp : wr.cell? ⟨gp, y1, none⟩ = some (.int .i16 (pp : Int)) := by rw [hpp]; exact cellAt HMd.out.hp _ _ (HPW.out y1 (HMEM.out y1 (by omega)))
                      have hcd : wr.cell? ⟨gd, pp, none⟩ = some (.int .i16 (dd : Int)) := by rw [hdd]; exact cellAt HMd.out.hd _ _ (HD.out pp (by omega) hu2)
                      obtain ⟨u, hu⟩ := cellEx HMd.out.hd y1 (by have := HMd.out.sd; omega)
                      have huf := frozenAt HMd.out.hd y1
                      have HE : Hid (dd + 1 = depN n O y1) := by show dd + 1 = _; rw [HSTEP.out y1 (by omega), ← hpp, hdd]
                      clear hpp hdd hup hyc
                      go_wp2_with fail
                      go_region
                      all_goals go_wp2_with fail
                      go_roundg y1
                      case measure => omega
                      case rel => exact ⟨y1, _, by go_num, by omega, rfl, (HMd.out.setd y1 _).drewN _, HD.out.down (by have := HMd.out.sd; omega) (by rw [← HE.out]; omega)⟩
end Go.Proofs.YbulkccziDoor
