import Derived.Test.YbulkcdcaDoorDec
import Derived.OwnWalk
import Derived.Laws.OwnMore
import Derived.Lib.SmallJoins
namespace Go.Proofs.YbulkcdcaDoor
open Go.RowKit
theorem infoM : (Ybad.prog.info? 38).map (fun i => (i.zero, i.size, i.bytes)) = some (some (.agg #[.string ⟨#[]⟩, .int .u64 0]), 2, 24) := by kernel_rfl
theorem infoS : (Ybad.prog.info? 9).map (fun i => (i.zero, i.size, i.bytes)) = some (some (.string ⟨#[]⟩), 1, 16) := by kernel_rfl
def cellM (p : List UInt8 × Nat) : List Value := [.string ⟨p.1.toArray⟩, .int .u64 (p.2 : Nat)]
def rowM (ps : List (List UInt8 × Nat)) : List Value := (ps.map cellM).flatten
def cellS (s : List UInt8) : List Value := [.string ⟨s.toArray⟩]
def rowS (ss : List (List UInt8)) : List Value := (ss.map cellS).flatten
theorem ds_eq {w : World} {D g o c : Nat} {l l' : List UInt8} {ev : Value} (h : DS w D g o c l ev) (e : l = l') : DS w D g o c l' ev := by subst e; exact h
theorem mk_M (n : Nat) (hn : n ≤ 1024) (w : World) : ∃ cs : Array Value, cs.size = n * 2 ∧ (Instr.makeSlice 34 (.int .i64 0) (.int .u64 (n : Int))).run Ybad.prog w = .ok (.slice (some ⟨w.heap.size, 0, none⟩) 0 n) (w.alloc (.cells cs 38)) := by
  obtain ⟨i0, hi, hz0, hz1, hz2⟩ := info_parts infoM
  have := run_make (P := Ybad.prog) w 34 38 i0 _ Ybad.underlying34 hi hz0 .i64 .u64 0 n (by omega) (by omega) (by rw [hz2]; omega) (by omega)
  rw [hz1] at this
  refine ⟨madeCells (Value.cells (.agg #[.string ⟨#[]⟩, .int .u64 0])) (n * 2), size_madeCells _ _, ?_⟩
  rw [this]
  simp
/-- The list's state at the head of round k. -/
structure LSM (D g : Nat) (ps : List (List UInt8 × Nat)) (rest : List UInt8) (w : World) (k : Nat) (v : Value) (o c : Nat) (wr : World) : Prop where
  ds : DS wr D g o c (memsL (ps.drop k) ++ rest) .nilIface
  gr : w.grownBy wr (some D)
  own : wr.ownsRow w.heap.size 38 2 v k (rowM (ps.take k))
  dg : D < w.heap.size ∧ g < w.heap.size
theorem LSM.start {D g o c o' c' : Nat} {ps : List (List UInt8 × Nat)} {rest l0 : List UInt8} {w w1 : World} (h0 : DS w D g o c l0 .nilIface) (hd : DS w1 D g o' c' (memsL ps ++ rest) .nilIface) (hg : w.grownBy w1 (some D)) (cs : Array Value) (n : Nat) (hn : n ≤ maxLen) (hs : cs.size = n * 2) :
    LSM D g ps rest w 0 (.slice (some ⟨w1.heap.size, 0, none⟩) 0 n) o' c' (w1.alloc (.cells cs 38)) := by
  have hl := h0.lt
  refine ⟨?_, ⟨hg.os, hg.tape, hg.output, Nat.le_trans hg.size (by simp), fun k hk hr => ?_⟩, World.ownsRow_made _ _ _ hg.size hn hs, hl⟩
  · exact hd.alloc _
  · rw [heap_alloc_old _ _ (Nat.lt_of_lt_of_le hk hg.size), hg.block k hk hr]
theorem LSM.item {D g k o c : Nat} {ps : List (List UInt8 × Nat)} {rest : List UInt8} {w wr : World} {v : Value} {p : List UInt8 × Nat} (h : LSM D g ps rest w k v o c wr) (hp : ps[k]? = some p) : DS wr D g o c (memL p ++ (memsL (ps.drop (k + 1)) ++ rest)) .nilIface := by
  refine ds_eq h.ds ?_
  obtain ⟨h1, h2⟩ := List.getElem?_eq_some_iff.1 hp
  rw [List.drop_eq_getElem_cons h1, h2]
  simp [memsL]
theorem LSM.mid {D g k o c : Nat} {ps : List (List UInt8 × Nat)} {rest : List UInt8} {w wr w1 : World} {v : Value} (h : LSM D g ps rest w k v o c wr) (hg : wr.grownBy w1 (some D)) : w1.ownsRow w.heap.size 38 2 v k (rowM (ps.take k)) ∧ w.heap.size ≤ w1.heap.size := by
  refine ⟨h.own.kept hg ?_, Nat.le_trans h.gr.size hg.size⟩
  right
  intro he
  have := (h.own.lt D he).1
  have := h.dg.1
  omega
theorem LSM.next {D g k o c o' c' : Nat} {ps : List (List UInt8 × Nat)} {rest : List UInt8} {w wr w1 w2 : World} {v v' : Value} {p : List UInt8 × Nat} {ob : Obj} (h : LSM D g ps rest w k v o c wr) (hp : ps[k]? = some p) (hd : DS w1 D g o' c' (memsL (ps.drop (k + 1)) ++ rest) .nilIface) (hg : wr.grownBy w1 (some D))
    (ho : w2.ownsRow w.heap.size 38 2 v' (k + 1) (rowM (ps.take k) ++ cellM p)) (hg2 : (w1.alloc ob).grownBy w2 v.ownBlock) : LSM D g ps rest w (k + 1) v' o' c' w2 := by
  have hm := h.mid hg
  have hdg := h.dg
  have hvl := h.own.lt
  have nD : some D ≠ v.ownBlock := fun he => by have := (hvl D he.symm).1; omega
  have ng : some g ≠ v.ownBlock := fun he => by have := (hvl g he.symm).1; omega
  refine ⟨(hd.alloc ob).kept hg2 nD ng, ?_, ?_, hdg⟩
  · refine ⟨hg2.os.trans (hg.os.trans h.gr.os), hg2.tape.trans (hg.tape.trans h.gr.tape), hg2.output.trans (hg.output.trans h.gr.output), Nat.le_trans hm.2 (Nat.le_trans (by simp) hg2.size), fun i hi hr => ?_⟩
    rw [hg2.block i (by simp; omega) (fun he => by have := (hvl i he.symm).1; omega), heap_alloc_old _ _ (by omega), hg.block i (Nat.lt_of_lt_of_le hi h.gr.size) hr, h.gr.block i hi hr]
  · have e : rowM (ps.take (k + 1)) = rowM (ps.take k) ++ cellM p := by
      rw [List.take_add_one, hp]
      simp [rowM]
    rw [e]
    exact ho
/-- Behind readList. -/
def ListToM (D g : Nat) (ps : List (List UInt8 × Nat)) (rest : List UInt8) (w : World) (e : Ending) (w' : World) : Prop :=
  ∃ v o c, e = .returned v ∧ LSM D g ps rest w ps.length v o c w'
set_option maxHeartbeats 4000000 in
theorem list_M (D g o c : Nat) (ps : List (List UInt8 × Nat)) (rest : List UInt8) (w : World) (hn : ps.length ≤ 1024) (hps : ∀ p ∈ ps, p.1.length ≤ 255 ∧ p.2 < 18446744073709551616) (h : DS w D g o c (Lib.uvarint ps.length ++ (memsL ps ++ rest)) .nilIface) :
    Calls Ybad.prog 17 #[.pointer (some ⟨D, 0, none⟩), .int .i64 2, .func (Fn.func 18) #[] #[]] w fun e w' => ListToM D g ps rest w e w' := by
  have HU : Hid (Calls Ybad.prog 19 #[.pointer (some ⟨D, 0, none⟩)] w fun e w' => e = .returned (.int .u64 (ps.length : Nat)) ∧ ∃ o' c', DS w' D g o' c' (memsL ps ++ rest) .nilIface ∧ w.grownBy w' (some D) ∧ ((Lib.uvarint ps.length).length < c → o' = o + (Lib.uvarint ps.length).length)) := uint_any D g o c ps.length _ _ w (by omega) h
  have H0 : Hid (DS w D g o c (Lib.uvarint ps.length ++ (memsL ps ++ rest)) .nilIface) := h
  have HP : Hid (∀ p ∈ ps, p.1.length ≤ 255 ∧ p.2 < 18446744073709551616) := hps
  have hmin := memsL_len ps
  clear h hps
  go_enter Ybad.func17, Ybad.ntmps17
  go_wp2_with fail
  refine HU.out.mono ?_
  rintro e w1 ⟨rfl, o1, c1, HD, HG, -⟩
  have HD1 : Hid (DS w1 D g o1 c1 (memsL ps ++ rest) .nilIface) := HD
  have HG1 : Hid (w.grownBy w1 (some D)) := HG
  have d0 := HD.c0
  have hlc := HD.lc
  have hcm := HD.cm
  unfold maxLen at hcm
  have hll : (memsL ps ++ rest).length = (memsL ps).length + rest.length := List.length_append
  rw [hll] at d0 hlc
  generalize hL : (memsL ps).length + rest.length = L at *
  have hq : 2 * ps.length ≤ L := by omega
  have hqb : decide (L < ps.length) = false := decide_eq_false (by omega)
  obtain ⟨cs, hcs, hmk⟩ := mk_M ps.length hn w1
  have HCS : Hid (cs.size = ps.length * 2) := hcs
  clear HD HG HU hll hL hmin hcs
  generalize hN : ps.length = n at *
  go_wp2
  clear hmk d0
  go_loopw [8, 9] (fun v i wr => ∃ (k o' c' : Nat), k ≤ n ∧ i = .int .u64 k ∧ Hid (LSM D g ps rest w k v o' c' wr)) (fun _ i _ => n - (intOf i).toNat)
  case atStart => exact ⟨0, o1, c1, Nat.zero_le _, rfl, LSM.start H0.out HD1.out HG1.out cs n (by unfold maxLen; omega) HCS.out⟩
  case round =>
    obtain ⟨k, o', c', hk, rfl, HL⟩ := hrel
    have e1 := HL.out.ds.c1
    by_cases hlt : k < n
    · obtain ⟨p, hp⟩ : ∃ p, ps[k]? = some p := ⟨_, List.getElem?_eq_getElem (by omega)⟩
      have HK : Hid (ps[k]? = some p) := hp
      have HC : Hid (Calls Ybad.prog 18 #[.pointer (some ⟨D, 0, none⟩)] wr fun e w' => MemTo D g p (memsL (ps.drop (k + 1)) ++ rest) .nilIface wr e w') := item_mem D g o' c' p _ _ wr (HP.out p (List.mem_of_getElem? hp)).1 (HP.out p (List.mem_of_getElem? hp)).2 (HL.out.item hp)
      clear hp
      go_wp2_with fail
      refine HC.out.mono ?_
      rintro e w2 ⟨o2, c2, rfl, HD, HG⟩
      have HD2 : Hid (DS w2 D g o2 c2 (memsL (ps.drop (k + 1)) ++ rest) .nilIface) := HD
      have HG2 : Hid (wr.grownBy w2 (some D)) := HG
      have HO : Hid (w2.ownsRow w.heap.size 38 2 u8 k (rowM (ps.take k)) ∧ w.heap.size ≤ w2.heap.size) := HL.out.mid HG
      clear HD HG HC e1
      obtain ⟨iv, hiv, hz0, hz1, hz2⟩ := info_parts infoM
      have HI : Hid (_ ∧ _ ∧ _ ∧ _) := ⟨hiv, hz0, hz1, hz2⟩
      clear hiv hz0 hz1 hz2
      go_wp2_with (first | (at_builtin; refine wpList_append_own _ rfl _ _ 34 rfl w.heap.size 38 iv (.agg #[.string ⟨#[]⟩, .int .u64 0]) 2 24 Ybad.underlying34 HI.out.1 HI.out.2.1 HI.out.2.2.1 HI.out.2.2.2 rfl (by decide) _ _ _ rfl (HO.out.1.alloc _) ⟨_, 0, none⟩ 1 1 (cellM p) rfl rfl ?c1 ?c2 ?c3 ?c4 ?c5 ?_) | go_in)
      case c1 =>
        intro j u hj
        match j, hj with
        | 0, hj => simp [cellM] at hj; subst hj; simp [Addr.add]
        | 1, hj => simp [cellM] at hj; subst hj; simp [Addr.add]
      case c2 => intro u hu; simp [cellM] at hu; rcases hu with rfl | rfl <;> rfl
      case c3 => unfold maxLen; omega
      case c4 => omega
      case c5 => have := HO.out.2; simp; omega
      intro v' w3 ho hgr _
      have HN : Hid (LSM D g ps rest w (k + 1) v' o2 c2 w3) := HL.out.next HK.out HD2.out HG2.out ho hgr
      clear ho hgr
      go_wp2
      go_roundw
      case rel => exact ⟨k + 1, o2, c2, by omega, by go_num, HN.out⟩
      case measure => simp [intOf]; omega
    · obtain rfl : n = k := by omega
      go_wp2
      go_ret
      exact ⟨_, o', c', rfl, by rw [hN]; exact HL.out⟩
theorem mk_S (n : Nat) (hn : n ≤ 1024) (w : World) : ∃ cs : Array Value, cs.size = n * 1 ∧ (Instr.makeSlice 22 (.int .i64 0) (.int .u64 (n : Int))).run Ybad.prog w = .ok (.slice (some ⟨w.heap.size, 0, none⟩) 0 n) (w.alloc (.cells cs 9)) := by
  obtain ⟨i0, hi, hz0, hz1, hz2⟩ := info_parts infoS
  have := run_make (P := Ybad.prog) w 22 9 i0 _ Ybad.underlying22 hi hz0 .i64 .u64 0 n (by omega) (by omega) (by rw [hz2]; omega) (by omega)
  rw [hz1] at this
  refine ⟨madeCells (Value.cells (.string ⟨#[]⟩)) (n * 1), size_madeCells _ _, ?_⟩
  rw [this]
  simp
/-- The list's state at the head of round k. -/
structure LSS (D g : Nat) (ps : List (List UInt8)) (rest : List UInt8) (w : World) (k : Nat) (v : Value) (o c : Nat) (wr : World) : Prop where
  ds : DS wr D g o c (strsL (ps.drop k) ++ rest) .nilIface
  gr : w.grownBy wr (some D)
  own : wr.ownsRow w.heap.size 9 1 v k (rowS (ps.take k))
  dg : D < w.heap.size ∧ g < w.heap.size
theorem LSS.start {D g o c o' c' : Nat} {ps : List (List UInt8)} {rest l0 : List UInt8} {w w1 : World} (h0 : DS w D g o c l0 .nilIface) (hd : DS w1 D g o' c' (strsL ps ++ rest) .nilIface) (hg : w.grownBy w1 (some D)) (cs : Array Value) (n : Nat) (hn : n ≤ maxLen) (hs : cs.size = n * 1) :
    LSS D g ps rest w 0 (.slice (some ⟨w1.heap.size, 0, none⟩) 0 n) o' c' (w1.alloc (.cells cs 9)) := by
  have hl := h0.lt
  refine ⟨?_, ⟨hg.os, hg.tape, hg.output, Nat.le_trans hg.size (by simp), fun k hk hr => ?_⟩, World.ownsRow_made _ _ _ hg.size hn hs, hl⟩
  · exact hd.alloc _
  · rw [heap_alloc_old _ _ (Nat.lt_of_lt_of_le hk hg.size), hg.block k hk hr]
theorem LSS.item {D g k o c : Nat} {ps : List (List UInt8)} {rest : List UInt8} {w wr : World} {v : Value} {p : List UInt8} (h : LSS D g ps rest w k v o c wr) (hp : ps[k]? = some p) : DS wr D g o c (putL p ++ (strsL (ps.drop (k + 1)) ++ rest)) .nilIface := by
  refine ds_eq h.ds ?_
  obtain ⟨h1, h2⟩ := List.getElem?_eq_some_iff.1 hp
  rw [List.drop_eq_getElem_cons h1, h2]
  simp [strsL]
theorem LSS.mid {D g k o c : Nat} {ps : List (List UInt8)} {rest : List UInt8} {w wr w1 : World} {v : Value} (h : LSS D g ps rest w k v o c wr) (hg : wr.grownBy w1 (some D)) : w1.ownsRow w.heap.size 9 1 v k (rowS (ps.take k)) ∧ w.heap.size ≤ w1.heap.size := by
  refine ⟨h.own.kept hg ?_, Nat.le_trans h.gr.size hg.size⟩
  right
  intro he
  have := (h.own.lt D he).1
  have := h.dg.1
  omega
theorem LSS.next {D g k o c o' c' : Nat} {ps : List (List UInt8)} {rest : List UInt8} {w wr w1 w2 : World} {v v' : Value} {p : List UInt8} {ob : Obj} (h : LSS D g ps rest w k v o c wr) (hp : ps[k]? = some p) (hd : DS w1 D g o' c' (strsL (ps.drop (k + 1)) ++ rest) .nilIface) (hg : wr.grownBy w1 (some D))
    (ho : w2.ownsRow w.heap.size 9 1 v' (k + 1) (rowS (ps.take k) ++ cellS p)) (hg2 : (w1.alloc ob).grownBy w2 v.ownBlock) : LSS D g ps rest w (k + 1) v' o' c' w2 := by
  have hm := h.mid hg
  have hdg := h.dg
  have hvl := h.own.lt
  have nD : some D ≠ v.ownBlock := fun he => by have := (hvl D he.symm).1; omega
  have ng : some g ≠ v.ownBlock := fun he => by have := (hvl g he.symm).1; omega
  refine ⟨(hd.alloc ob).kept hg2 nD ng, ?_, ?_, hdg⟩
  · refine ⟨hg2.os.trans (hg.os.trans h.gr.os), hg2.tape.trans (hg.tape.trans h.gr.tape), hg2.output.trans (hg.output.trans h.gr.output), Nat.le_trans hm.2 (Nat.le_trans (by simp) hg2.size), fun i hi hr => ?_⟩
    rw [hg2.block i (by simp; omega) (fun he => by have := (hvl i he.symm).1; omega), heap_alloc_old _ _ (by omega), hg.block i (Nat.lt_of_lt_of_le hi h.gr.size) hr, h.gr.block i hi hr]
  · have e : rowS (ps.take (k + 1)) = rowS (ps.take k) ++ cellS p := by
      rw [List.take_add_one, hp]
      simp [rowS]
    rw [e]
    exact ho
/-- Behind readList. -/
def ListToS (D g : Nat) (ps : List (List UInt8)) (rest : List UInt8) (w : World) (e : Ending) (w' : World) : Prop :=
  ∃ v o c, e = .returned v ∧ LSS D g ps rest w ps.length v o c w'
set_option maxHeartbeats 4000000 in
theorem list_S (D g o c : Nat) (ps : List (List UInt8)) (rest : List UInt8) (w : World) (hn : ps.length ≤ 1024) (hps : ∀ p ∈ ps, p.length ≤ 255) (h : DS w D g o c (Lib.uvarint ps.length ++ (strsL ps ++ rest)) .nilIface) :
    Calls Ybad.prog 13 #[.pointer (some ⟨D, 0, none⟩), .int .i64 1, .func (Fn.func 14) #[] #[]] w fun e w' => ListToS D g ps rest w e w' := by
  have HU : Hid (Calls Ybad.prog 19 #[.pointer (some ⟨D, 0, none⟩)] w fun e w' => e = .returned (.int .u64 (ps.length : Nat)) ∧ ∃ o' c', DS w' D g o' c' (strsL ps ++ rest) .nilIface ∧ w.grownBy w' (some D) ∧ ((Lib.uvarint ps.length).length < c → o' = o + (Lib.uvarint ps.length).length)) := uint_any D g o c ps.length _ _ w (by omega) h
  have H0 : Hid (DS w D g o c (Lib.uvarint ps.length ++ (strsL ps ++ rest)) .nilIface) := h
  have HP : Hid (∀ p ∈ ps, p.length ≤ 255) := hps
  have hmin := strsL_len ps
  clear h hps
  go_enter Ybad.func13, Ybad.ntmps13
  go_wp2_with fail
  refine HU.out.mono ?_
  rintro e w1 ⟨rfl, o1, c1, HD, HG, -⟩
  have HD1 : Hid (DS w1 D g o1 c1 (strsL ps ++ rest) .nilIface) := HD
  have HG1 : Hid (w.grownBy w1 (some D)) := HG
  have d0 := HD.c0
  have hlc := HD.lc
  have hcm := HD.cm
  unfold maxLen at hcm
  have hll : (strsL ps ++ rest).length = (strsL ps).length + rest.length := List.length_append
  rw [hll] at d0 hlc
  generalize hL : (strsL ps).length + rest.length = L at *
  have hq : 1 * ps.length ≤ L := by omega
  have hqb : decide (L < ps.length) = false := decide_eq_false (by omega)
  obtain ⟨cs, hcs, hmk⟩ := mk_S ps.length hn w1
  have HCS : Hid (cs.size = ps.length * 1) := hcs
  clear HD HG HU hll hL hmin hcs
  generalize hN : ps.length = n at *
  go_wp2
  clear hmk d0
  go_loopw [8, 9] (fun v i wr => ∃ (k o' c' : Nat), k ≤ n ∧ i = .int .u64 k ∧ Hid (LSS D g ps rest w k v o' c' wr)) (fun _ i _ => n - (intOf i).toNat)
  case atStart => exact ⟨0, o1, c1, Nat.zero_le _, rfl, LSS.start H0.out HD1.out HG1.out cs n (by unfold maxLen; omega) HCS.out⟩
  case round =>
    obtain ⟨k, o', c', hk, rfl, HL⟩ := hrel
    have e1 := HL.out.ds.c1
    by_cases hlt : k < n
    · obtain ⟨p, hp⟩ : ∃ p, ps[k]? = some p := ⟨_, List.getElem?_eq_getElem (by omega)⟩
      have HK : Hid (ps[k]? = some p) := hp
      have HC : Hid (Calls Ybad.prog 14 #[.pointer (some ⟨D, 0, none⟩)] wr fun e w' => StrTo D g p (strsL (ps.drop (k + 1)) ++ rest) .nilIface wr e w') := item_str D g o' c' p _ _ wr (HP.out p (List.mem_of_getElem? hp)) (HL.out.item hp)
      clear hp
      go_wp2_with fail
      refine HC.out.mono ?_
      rintro e w2 ⟨o2, c2, rfl, HD, HG⟩
      have HD2 : Hid (DS w2 D g o2 c2 (strsL (ps.drop (k + 1)) ++ rest) .nilIface) := HD
      have HG2 : Hid (wr.grownBy w2 (some D)) := HG
      have HO : Hid (w2.ownsRow w.heap.size 9 1 u8 k (rowS (ps.take k)) ∧ w.heap.size ≤ w2.heap.size) := HL.out.mid HG
      clear HD HG HC e1
      obtain ⟨iv, hiv, hz0, hz1, hz2⟩ := info_parts infoS
      have HI : Hid (_ ∧ _ ∧ _ ∧ _) := ⟨hiv, hz0, hz1, hz2⟩
      clear hiv hz0 hz1 hz2
      go_wp2_with (first | (at_builtin; refine wpList_append_own _ rfl _ _ 22 rfl w.heap.size 9 iv (.string ⟨#[]⟩) 1 16 Ybad.underlying22 HI.out.1 HI.out.2.1 HI.out.2.2.1 HI.out.2.2.2 rfl (by decide) _ _ _ rfl (HO.out.1.alloc _) ⟨_, 0, none⟩ 1 1 (cellS p) rfl rfl ?c1 ?c2 ?c3 ?c4 ?c5 ?_) | go_in)
      case c1 =>
        intro j u hj
        match j, hj with
        | 0, hj => simp [cellS] at hj; subst hj; simp [Addr.add]
      case c2 => intro u hu; simp [cellS] at hu; subst hu; rfl
      case c3 => unfold maxLen; omega
      case c4 => omega
      case c5 => have := HO.out.2; simp; omega
      intro v' w3 ho hgr _
      have HN : Hid (LSS D g ps rest w (k + 1) v' o2 c2 w3) := HL.out.next HK.out HD2.out HG2.out ho hgr
      clear ho hgr
      go_wp2
      go_roundw
      case rel => exact ⟨k + 1, o2, c2, by omega, by go_num, HN.out⟩
      case measure => simp [intOf]; omega
    · obtain rfl : n = k := by omega
      go_wp2
      go_ret
      exact ⟨_, o', c', rfl, by rw [hN]; exact HL.out⟩
end Go.Proofs.YbulkcdcaDoor
