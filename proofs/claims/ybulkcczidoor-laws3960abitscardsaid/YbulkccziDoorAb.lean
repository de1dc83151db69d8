import Derived.Test.YbulkccziDoorGrow
import Derived.Below
import Derived.Deep.CutBlock
import Derived.Deep.CutRange
import Derived.Deep.DeepCutAuto
import Derived.Deep.LoopGhost
namespace Go.Proofs.YbulkccziDoor
open Go.RowKit
theorem infoU8 : (Ybad.prog.info? 5).map (fun i => (i.zero, i.size, i.bytes)) = some (some (.int .u8 0), 1, 1) := by kernel_rfl
def bL (l : List Nat) : List Value := l.map (fun z => Value.int .u8 (z : Nat))
def m16 (zs : List Int) : List Nat := zs.map (fun z => (z % 16).toNat)
def padN (P : Nat) : Nat := P % 2 * 257 + P / 2 % 40
def litL (zs : List Int) (P : Nat) : List Nat := m16 zs ++ List.replicate (padN P) 0
/-- A parameter's cells. -/
def Src (w : World) (a : Option Addr) (n : Nat) (zs : List Int) : Prop := zs.length = n ∧ ∀ j, j < n → ∃ b off, a = some ⟨b, off, none⟩ ∧ b < w.heap.size ∧ w.cell? ⟨b, off + j, none⟩ = some (.int .u8 (zs.getD j 0))
def AbTo (zs ys : List Int) (P : Nat) (w : World) (e : Ending) (w' : World) : Prop :=
  ∃ g1 c1 g2 c2, e = .returned (.tuple #[.slice (some ⟨g1, 0, none⟩) (litL zs P).length c1, .slice (some ⟨g2, 0, none⟩) (m16 ys).length c2]) ∧ w'.ownsRow w.heap.size 5 1 (.slice (some ⟨g1, 0, none⟩) (litL zs P).length c1) (litL zs P).length (bL (litL zs P)) ∧
    w'.ownsRow w.heap.size 5 1 (.slice (some ⟨g2, 0, none⟩) (m16 ys).length c2) (m16 ys).length (bL (m16 ys)) ∧ g1 ≠ g2 ∧ Below w.heap.size w w'
structure A5 (w : World) (g c : Nat) (l : List Nat) (wr : World) : Prop where
  own : wr.ownsRow w.heap.size 5 1 (.slice (some ⟨g, 0, none⟩) l.length c) l.length (bL l)
  bel : Below w.heap.size w wr
theorem A5.size {w : World} {g c : Nat} {l : List Nat} {wr : World} (h : A5 w g c l wr) : w.heap.size ≤ wr.heap.size := h.bel.size
theorem A5.more {w : World} {g c : Nat} {l : List Nat} {wr w1 : World} {z : Nat} {o : Obj} (h : A5 w g c l wr) (ho : w1.ownsRow w.heap.size 5 1 (.slice (some ⟨g, 0, none⟩) (l.length + 1) c) (l.length + 1) (bL l ++ [.int .u8 (z : Nat)])) (hg : (wr.alloc o).grownBy w1 (some g)) : A5 w g c (l ++ [z]) w1 := by
  have hlt := h.own.lt g rfl
  refine ⟨?_, (h.bel.alloc h.size o).grown hg (by have := h.size; simp; omega) (fun k hk => by simp at hk; omega)⟩
  simpa [bL] using ho
structure D5 (w : World) (g c : Nat) (l : List Nat) (g2 c2 : Nat) (l2 : List Nat) (wr : World) : Prop where
  a : A5 w g c l wr
  d : A5 w g2 c2 l2 wr
  ne : g ≠ g2
theorem D5.more {w : World} {g c : Nat} {l : List Nat} {g2 c2 : Nat} {l2 : List Nat} {wr w1 : World} {z : Nat} {o : Obj} (h : D5 w g c l g2 c2 l2 wr) (ho : w1.ownsRow w.heap.size 5 1 (.slice (some ⟨g2, 0, none⟩) (l2.length + 1) c2) (l2.length + 1) (bL l2 ++ [.int .u8 (z : Nat)])) (hg : (wr.alloc o).grownBy w1 (some g2)) : D5 w g c l g2 c2 (l2 ++ [z]) w1 :=
  ⟨⟨(h.a.own.alloc o).kept hg (Or.inr (by simpa [Value.ownBlock] using h.ne)), (h.d.more ho hg).bel⟩, h.d.more ho hg, h.ne⟩
theorem m16_len (zs : List Int) : (m16 zs).length = zs.length := by simp [m16]
theorem m16_take (zs : List Int) (k : Nat) (h : k < zs.length) : (m16 zs).take (k + 1) = (m16 zs).take k ++ [(zs.getD k 0 % 16).toNat] := by
  rw [List.take_add_one]
  simp [m16, List.getD, h]
theorem Src.at {w wr : World} {a : Option Addr} {n : Nat} {zs : List Int} (h : Src w a n zs) (hb : Below w.heap.size w wr) {j : Nat} (hj : j < n) : ∃ b off, a = some ⟨b, off, none⟩ ∧ wr.cell? ⟨b, off + j, none⟩ = some (.int .u8 (zs.getD j 0)) := by
  obtain ⟨b, off, h1, h2, h3⟩ := h.2 j hj
  exact ⟨b, off, h1, by rw [hb.cell (by exact h2)]; exact h3⟩
set_option maxRecDepth 8000 in
set_option maxHeartbeats 8000000 in
theorem ab_any (a d : Option Addr) (n m ca cd P : Nat) (zs ys : List Int) (w : World) (hz : Src w a n zs) (hy : Src w d m ys) (hn : n ≤ 1024) (hm : m ≤ 1024) (hP : P < 65536) (hzb : ∀ j, 0 ≤ zs.getD j 0 ∧ zs.getD j 0 ≤ 255) (hyb : ∀ j, 0 ≤ ys.getD j 0 ∧ ys.getD j 0 ≤ 255) :
    Calls Ybad.prog 5 #[.slice a n ca, .slice d m cd, .int .u16 (P : Int)] w fun e w' => AbTo zs ys P w e w' := by
  have HZ : Hid (Src w a n zs) := hz
  have HY : Hid (Src w d m ys) := hy
  have HZB : Hid (∀ j, 0 ≤ zs.getD j 0 ∧ zs.getD j 0 ≤ 255) := hzb
  have HYB : Hid (∀ j, 0 ≤ ys.getD j 0 ∧ ys.getD j 0 ≤ 255) := hyb
  obtain ⟨iv, hiv, hz0, hz1, hz2⟩ := info_parts infoU8
  have HI : Hid (_ ∧ _ ∧ _ ∧ _) := ⟨hiv, hz0, hz1, hz2⟩
  obtain ⟨p, hp⟩ : ∃ p, p = padN P := ⟨_, rfl⟩
  have hpd : (P : Int) % 2 * 257 + (P : Int) / 2 % 40 = (p : Int) := by rw [hp, padN]; omega
  have hp1 : p ≤ 300 := by rw [hp, padN]; omega
  have HPP : Hid (p = padN P) := hp
  clear hz hy hzb hyb hiv hz0 hz1 hz2 hp
  go_enter Ybad.func5, Ybad.ntmps5
  go_wp2_with (first | (refine wpList_make_own _ rfl _ _ 22 rfl w.heap.size 5 iv (.int .u8 0) 1 Ybad.underlying22 HI.out.1 HI.out.2.1 HI.out.2.2.1 _ _ _ (n + p) rfl rfl ?b1 ?b2 ?b3 ?b4 ?_) | fail)
  case b1 => omega
  case b2 => rw [HI.out.2.2.2]; omega
  case b3 => unfold maxLen; omega
  case b4 => exact Nat.le_refl _
  intro w1 ho hg
  have HA : Hid (A5 w w.heap.size (n + p) [] w1) := ⟨ho, (Below.refl _ _).grown hg (Nat.le_refl _) (by simp)⟩
  clear ho hg
  generalize hG : w.heap.size = g at HA
  have HGG : Hid (w.heap.size = g) := hG
  clear hG
  go_wp2_with fail
  go_loopg [9, 32] n (fun gk v9 v32 wr => ∃ (k : Nat) (l : List Nat), v9 = .slice (some ⟨g, 0, none⟩) l.length (n + p) ∧ v32 = .int .i64 k ∧ k + gk = n ∧ Hid (l.length = k) ∧ Hid (l = (m16 zs).take k) ∧ Hid (A5 w g (n + p) l wr))
  case atStart => exact ⟨0, [], rfl, rfl, by omega, rfl, by simp [Hid], HA.out⟩
  case round =>
    clear HA
    obtain ⟨k, l, rfl, rfl, hk, hl, HL, HA⟩ := hrel
    rcases Nat.lt_or_ge k n with hlt | hge
    · obtain ⟨b, off, rfl, hc⟩ := HZ.out.at HA.out.bel hlt
      obtain ⟨z, hzz⟩ : ∃ z, z = zs.getD k 0 := ⟨_, rfl⟩
      have hzb := HZB.out k
      rw [← hzz] at hc hzb
      have hzb1 := hzb.1
      have hzb2 := hzb.2
      obtain ⟨y, hyy⟩ : ∃ y : Nat, z % 16 = (y : Int) := ⟨(z % 16).toNat, by omega⟩
      have HY2 : Hid (y = (zs.getD k 0 % 16).toNat) := by show y = _; rw [← hzz]; omega
      clear hzz hzb
      go_wp2_with (first | (at_builtin; refine wpList_append_fits _ rfl _ _ 22 rfl w.heap.size 5 iv 1 Ybad.underlying22 HI.out.1 HI.out.2.2.1 _ _ _ _ rfl (HA.out.own.alloc _) ⟨_, 0, none⟩ 1 1 [.int .u8 (y : Nat)] rfl rfl ?c1 ?c2 ?c3 ?_) | fail)
      case c1 =>
        intro j u hj
        match j, hj with
        | 0, hj => simp at hj; subst hj; simp [Addr.add]
      case c2 => intro u hu; simp at hu; subst hu; rfl
      case c3 => have := hl.out; omega
      intro w3 ho hgr
      have HA2 : Hid (A5 w g (n + p) (l ++ [y]) w3) := HA.out.more ho hgr
      clear ho hgr HA
      go_wp2_with fail
      go_roundg (gk - 1)
      case measure => omega
      case rel => exact ⟨k + 1, l ++ [y], by simp, by go_num, by omega, by show _ = _; have := hl.out; simp; omega, by show _ = _; rw [HL.out, m16_take zs k (by have := HZ.out.1; omega), ← HY2.out], HA2.out⟩
    · have hkn : n = k := by omega
      subst hkn
      have HL2 : Hid (l = m16 zs) := by show l = _; rw [HL.out]; exact List.take_of_length_le (by rw [m16_len, HZ.out.1]; exact Nat.le_refl _)
      clear HL
      go_wp2_with fail
      go_loopg [9, 12] p (fun gk v9 v12 wr => ∃ (k : Nat) (l : List Nat), v9 = .slice (some ⟨g, 0, none⟩) l.length (n + p) ∧ v12 = .int .i64 k ∧ k + gk = p ∧ Hid (l.length = n + k) ∧ Hid (l = m16 zs ++ List.replicate k 0) ∧ Hid (A5 w g (n + p) l wr))
      case atStart => exact ⟨0, l, rfl, rfl, by omega, by show _ = _; have := hl.out; omega, by show _ = _; simpa using HL2.out, HA.out⟩
      case round =>
        clear HA HL2 hl
        obtain ⟨k, l, rfl, rfl, hk, hl, HL, HA⟩ := hrel
        rcases Nat.lt_or_ge k p with hlt | hge2
        · go_wp2_with (first | (at_builtin; refine wpList_append_fits _ rfl _ _ 22 rfl w.heap.size 5 iv 1 Ybad.underlying22 HI.out.1 HI.out.2.2.1 _ _ _ _ rfl (HA.out.own.alloc _) ⟨_, 0, none⟩ 1 1 [.int .u8 ((0 : Nat) : Int)] rfl rfl ?c1 ?c2 ?c3 ?_) | fail)
          case c1 =>
            intro j u hj
            match j, hj with
            | 0, hj => simp at hj; subst hj; simp [Addr.add]
          case c2 => intro u hu; simp at hu; subst hu; rfl
          case c3 => have := hl.out; omega
          intro w3 ho hgr
          have HA2 : Hid (A5 w g (n + p) (l ++ [0]) w3) := HA.out.more ho hgr
          clear ho hgr HA
          go_wp2_with fail
          go_roundg (gk - 1)
          case measure => omega
          case rel => exact ⟨k + 1, l ++ [0], by simp, by go_num, by omega, by show _ = _; have := hl.out; simp; omega, by show _ = _; rw [HL.out, List.replicate_succ', List.append_assoc], HA2.out⟩
        · have hkn : p = k := by omega
          subst hkn
          have HL3 : Hid (l = litL zs P) := by show l = _; rw [HL.out, litL, HPP.out]
          have HSZ : Hid (w.heap.size ≤ wr.heap.size) := HA.out.size
          clear HL
          go_wp2_with (first | (refine wpList_make_own _ rfl _ _ 22 rfl w.heap.size 5 iv (.int .u8 0) 1 Ybad.underlying22 HI.out.1 HI.out.2.1 HI.out.2.2.1 _ _ _ m rfl rfl ?b1 ?b2 ?b3 ?b4 ?_) | fail)
          case b1 => omega
          case b2 => rw [HI.out.2.2.2]; omega
          case b3 => unfold maxLen; omega
          case b4 => exact HSZ.out
          intro w1 ho hg
          have HD : Hid (D5 w g (n + p) l wr.heap.size m [] w1) := ⟨⟨HA.out.own.kept hg (Or.inr (by simp [Value.ownBlock])), HA.out.bel.grown hg HSZ.out (by simp)⟩, ⟨ho, HA.out.bel.grown hg HSZ.out (by simp)⟩, by have := (HA.out.own.lt g rfl).2; omega⟩
          clear ho hg HA HSZ
          generalize wr.heap.size = g2 at *
          go_wp2_with fail
          go_loopg [13, 55] m (fun gk v13 v55 wr => ∃ (k : Nat) (l2 : List Nat), v13 = .slice (some ⟨g2, 0, none⟩) l2.length m ∧ v55 = .int .i64 k ∧ k + gk = m ∧ Hid (l2.length = k) ∧ Hid (l2 = (m16 ys).take k) ∧ Hid (D5 w g (n + p) l g2 m l2 wr))
          case atStart => exact ⟨0, [], rfl, rfl, by omega, rfl, by show _ = _; simp, HD.out⟩
          case round =>
            clear HD
            obtain ⟨k, l2, rfl, rfl, hk, hl2, HL, HD⟩ := hrel
            rcases Nat.lt_or_ge k m with hlt | hge3
            · obtain ⟨b, off, rfl, hc⟩ := HY.out.at HD.out.a.bel hlt
              obtain ⟨z, hzz⟩ : ∃ z, z = ys.getD k 0 := ⟨_, rfl⟩
              have hzb := HYB.out k
              rw [← hzz] at hc hzb
              have hzb1 := hzb.1
              have hzb2 := hzb.2
              obtain ⟨y, hyy⟩ : ∃ y : Nat, z % 16 = (y : Int) := ⟨(z % 16).toNat, by omega⟩
              have HY2 : Hid (y = (ys.getD k 0 % 16).toNat) := by show y = _; rw [← hzz]; omega
              clear hzz hzb
              go_wp2_with (first | (at_builtin; refine wpList_append_fits _ rfl _ _ 22 rfl w.heap.size 5 iv 1 Ybad.underlying22 HI.out.1 HI.out.2.2.1 _ _ _ _ rfl (HD.out.d.own.alloc _) ⟨_, 0, none⟩ 1 1 [.int .u8 (y : Nat)] rfl rfl ?c1 ?c2 ?c3 ?_) | fail)
              case c1 =>
                intro j u hj
                match j, hj with
                | 0, hj => simp at hj; subst hj; simp [Addr.add]
              case c2 => intro u hu; simp at hu; subst hu; rfl
              case c3 => have := hl2.out; omega
              intro w3 ho hgr
              have HA2 : Hid (D5 w g (n + p) l g2 m (l2 ++ [y]) w3) := HD.out.more ho hgr
              clear ho hgr HD
              go_wp2_with fail
              go_roundg (gk - 1)
              case measure => omega
              case rel => exact ⟨k + 1, l2 ++ [y], by simp, by go_num, by omega, by show _ = _; have := hl2.out; simp; omega, by show _ = _; rw [HL.out, m16_take ys k (by have := HY.out.1; omega), ← HY2.out], HA2.out⟩
            · have hkn : m = k := by omega
              subst hkn
              have HL4 : Hid (l2 = m16 ys) := by show l2 = _; rw [HL.out]; exact List.take_of_length_le (by rw [m16_len, HY.out.1]; exact Nat.le_refl _)
              have HEND : Hid (AbTo zs ys P w (.returned (.tuple #[.slice (some ⟨g, 0, none⟩) l.length (n + p), .slice (some ⟨g2, 0, none⟩) l2.length m])) wr) := by
                refine ⟨g, n + p, g2, m, by rw [HL3.out, HL4.out], ?_, ?_, HD.out.ne, HD.out.a.bel⟩
                · rw [← HL3.out]; exact HD.out.a.own
                · rw [← HL4.out]; exact HD.out.d.own
              go_wp2_with fail
              exact bodyPost_ret (v := .tuple #[.slice (some ⟨g, 0, none⟩) l.length (n + p), .slice (some ⟨g2, 0, none⟩) l2.length m]) (by simp [results, Ybad.results5, go_sem]) rfl HEND.out
end Go.Proofs.YbulkccziDoor
