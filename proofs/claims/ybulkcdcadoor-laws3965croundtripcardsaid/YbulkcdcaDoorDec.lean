import Derived.Test.YbulkcdcaDoorRows
import Derived.Test.YbulkcdcaDoorShelf
import Derived.Test.YbulkcdcaDoorPlain
import Derived.WalkKit
import Derived.WalkSpells
import Derived.WalkLawsBesides
namespace Go.Proofs.YbulkcdcaDoor
open Go.RowKit

/-- The decoder at block D: the bytes l are left, at place o of block g; its error is ev. -/
structure DS (w : World) (D g o c : Nat) (l : List UInt8) (ev : Value) : Prop where
  d : w.heap[D]? = some (.cells #[.slice (some ⟨g, o, none⟩) l.length c, ev] 33 (0, 0))
  b : ∃ cu, w.heap[g]? = some (.cells cu 5 (0, 0)) ∧ ∀ j (hj : j < l.length), cu[o + j]? = some (.int .u8 (l[j]).toNat)
  ne : D ≠ g
  lc : l.length ≤ c
  cm : c ≤ maxLen
theorem DS.c0 {w : World} {D g o c : Nat} {l : List UInt8} {ev : Value} (h : DS w D g o c l ev) : w.cell? ⟨D, 0, none⟩ = some (.slice (some ⟨g, o, none⟩) l.length c) := by simp [World.cell?, h.d]
theorem DS.c1 {w : World} {D g o c : Nat} {l : List UInt8} {ev : Value} (h : DS w D g o c l ev) : w.cell? ⟨D, 1, none⟩ = some ev := by simp [World.cell?, h.d]
theorem DS.f0 {w : World} {D g o c : Nat} {l : List UInt8} {ev : Value} (h : DS w D g o c l ev) : w.frozen? ⟨D, 0, none⟩ = false := by simp [World.frozen?, h.d]
theorem DS.f1 {w : World} {D g o c : Nat} {l : List UInt8} {ev : Value} (h : DS w D g o c l ev) : w.frozen? ⟨D, 1, none⟩ = false := by simp [World.frozen?, h.d]
theorem DS.bytes {w : World} {D g o c : Nat} {l : List UInt8} {ev : Value} (h : DS w D g o c l ev) (j : Nat) (hj : j < l.length) : w.cell? ⟨g, o + j, none⟩ = some (.int .u8 (l[j]).toNat) := by
  obtain ⟨cu, h1, h2⟩ := h.b
  simp [World.cell?, h1, h2 j hj]
theorem DS.cut {w : World} {D g o c : Nat} {p rest : List UInt8} {ev : Value} (h : DS w D g o c (p ++ rest) ev) (o' : Nat) (ho : p.length < c → o' = o + p.length) :
    DS (w.setCell ⟨D, 0, none⟩ (.slice (some ⟨g, o', none⟩) rest.length (c - p.length))) D g o' (c - p.length) rest ev := by
  obtain ⟨cu, h1, h2⟩ := h.b
  have hlc := h.lc
  have hcm := h.cm
  rw [List.length_append] at hlc
  refine ⟨?_, ⟨cu, ?_, ?_⟩, h.ne, by omega, by omega⟩
  · simp [World.setCell, Array.getElem?_modify, h.d]
  · rw [Below.heap_setCell _ _ _ _ (by simpa using Ne.symm h.ne)]; exact h1
  · intro j hj
    have := h2 (p.length + j) (by simp; omega)
    rw [ho (by omega), Nat.add_assoc, this]
    simp
theorem DS.kept {w w' : World} {D g o c : Nat} {l : List UInt8} {ev : Value} {row : Option Nat} (h : DS w D g o c l ev) (hg : w.grownBy w' row) (h1 : some D ≠ row) (h2 : some g ≠ row) : DS w' D g o c l ev := by
  obtain ⟨cu, k1, k2⟩ := h.b
  exact ⟨by rw [hg.block D (Array.getElem?_eq_some_iff.1 h.d).1 h1]; exact h.d, ⟨cu, by rw [hg.block g (Array.getElem?_eq_some_iff.1 k1).1 h2]; exact k1, k2⟩, h.ne, h.lc, h.cm⟩
theorem DS.lt {w : World} {D g o c : Nat} {l : List UInt8} {ev : Value} (h : DS w D g o c l ev) : D < w.heap.size ∧ g < w.heap.size := by
  obtain ⟨cu, k1, k2⟩ := h.b
  exact ⟨(Array.getElem?_eq_some_iff.1 h.d).1, (Array.getElem?_eq_some_iff.1 k1).1⟩
theorem DS.alloc {w : World} {D g o c : Nat} {l : List UInt8} {ev : Value} (h : DS w D g o c l ev) (ob : Obj) : DS (w.alloc ob) D g o c l ev :=
  h.kept (World.grownBy_alloc w ob none) (by simp) (by simp)
theorem grown_set (w : World) (D : Nat) (v : Value) : w.grownBy (w.setCell ⟨D, 0, none⟩ v) (some D) :=
  ⟨rfl, rfl, rfl, by simp [World.setCell], fun k _ hk => Below.heap_setCell _ _ _ _ (by simpa using hk)⟩
/-- Where a slice of capacity c begins behind its first k elements. -/
def CutTo (k c o : Nat) (e : Ending) (w w' : World) (D g n : Nat) (v : Value) : Prop := e = .returned v ∧ ∃ o', (k < c → o' = o + k) ∧ w' = w.setCell ⟨D, 0, none⟩ (.slice (some ⟨g, o', none⟩) (n - k) (c - k))
set_option maxHeartbeats 1000000 in
theorem uint_walk (D g o n c x : Nat) (l rest : List UInt8) (w : World) (hx : x < 18446744073709551616) (hl : l = Lib.uvarint x ++ rest) (hn : l.length = n) (_hnc : n ≤ c) (_hcm : c ≤ maxLen)
    (hd : w.cell? ⟨D, 0, none⟩ = some (.slice (some ⟨g, o, none⟩) n c)) (hf : w.frozen? ⟨D, 0, none⟩ = false) (hb : ∀ j (hj : j < l.length), w.cell? ⟨g, o + j, none⟩ = some (.int .u8 (l[j]).toNat)) :
    Calls Ybad.prog 19 #[.pointer (some ⟨D, 0, none⟩)] w fun e w' => CutTo (Lib.uvarint x).length c o e w w' D g n (.int .u64 x) := by
  have HU : Hid (Calls Ybad.prog 21 #[.slice (some ⟨g, o, none⟩) n c] w fun e w' => e = .returned (.tuple #[.int .u64 x, .int .i64 (Lib.uvarint x).length]) ∧ w' = w) := by
    have := Any.binary_Uvarint Ybad.laysBin45 g o n c l w hn hb
    rw [hl, dec_uvarint x hx rest] at this
    exact this
  have hp := Lib.uvarint_pos x
  have hle : (Lib.uvarint x).length ≤ n := by rw [← hn, hl, List.length_append]; omega
  generalize (Lib.uvarint x).length = k at *
  unfold maxLen at _hcm
  clear hb hl
  go_enter Ybad.func19, Ybad.ntmps19
  go_wp2_with fail
  refine HU.out.mono ?_
  rintro e w1 ⟨rfl, rfl⟩
  go_wp2
  · go_ret
    exact ⟨rfl, o, fun h => by omega, by rw [Nat.sub_self]⟩
  · go_ret
    exact ⟨rfl, _, fun _ => rfl, rfl⟩
theorem uint_any (D g o c x : Nat) (rest : List UInt8) (ev : Value) (w : World) (hx : x < 18446744073709551616) (h : DS w D g o c (Lib.uvarint x ++ rest) ev) :
    Calls Ybad.prog 19 #[.pointer (some ⟨D, 0, none⟩)] w fun e w' => e = .returned (.int .u64 x) ∧ ∃ o' c', DS w' D g o' c' rest ev ∧ w.grownBy w' (some D) ∧ ((Lib.uvarint x).length < c → o' = o + (Lib.uvarint x).length) := by
  refine (uint_walk D g o _ c x _ rest w hx rfl rfl h.lc h.cm h.c0 h.f0 h.bytes).mono ?_
  rintro e w' ⟨rfl, o', ho, rfl⟩
  have hr : (Lib.uvarint x ++ rest).length - (Lib.uvarint x).length = rest.length := by rw [List.length_append]; omega
  rw [hr]
  exact ⟨rfl, o', _, h.cut o' ho, grown_set _ _ _, ho⟩
/-- Behind bytes: the slice it hands back, and the decoder. -/
def BytesTo (D g : Nat) (s rest : List UInt8) (ev : Value) (w : World) (e : Ending) (w' : World) : Prop :=
  ∃ o1 o' c', e = .returned (.slice (some ⟨g, o1, none⟩) s.length s.length) ∧ DS w' D g o' c' rest ev ∧ w.grownBy w' (some D) ∧ ∀ j (hj : j < s.length), w'.cell? ⟨g, o1 + j, none⟩ = some (.int .u8 (s[j]).toNat)
theorem grown_trans {a b c : World} {row : Option Nat} (h : a.grownBy b row) (h' : b.grownBy c row) : a.grownBy c row :=
  ⟨h'.os.trans h.os, h'.tape.trans h.tape, h'.output.trans h.output, Nat.le_trans h.size h'.size, fun k hk hr => (h'.block k (Nat.lt_of_lt_of_le hk h.size) hr).trans (h.block k hk hr)⟩
theorem bytes_end {D g o1 c1 o' n' c' : Nat} {s rest : List UInt8} {ev : Value} {w w1 : World} (h : DS w1 D g o1 c1 (s ++ rest) ev) (hg : w.grownBy w1 (some D)) (ho : s.length < c1 → o' = o1 + s.length) (hn : n' = rest.length) (hc : c' = c1 - s.length) :
    BytesTo D g s rest ev w (.returned (.slice (some ⟨g, o1, none⟩) s.length s.length)) (w1.setCell ⟨D, 0, none⟩ (.slice (some ⟨g, o', none⟩) n' c')) := by
  subst hn hc
  have hD := h.cut o' ho
  refine ⟨o1, o', _, rfl, hD, grown_trans hg (grown_set _ _ _), fun j hj => ?_⟩
  have hb := h.bytes j (by simp; omega)
  have hne := h.ne
  rw [World.cell?_of_block (Below.heap_setCell _ _ _ _ (by simpa using Ne.symm hne)), hb]
  simp [List.getElem_append_left hj]
set_option maxHeartbeats 1000000 in
theorem bytes_any (D g o c : Nat) (s rest : List UInt8) (ev : Value) (w : World) (hs : s.length ≤ 255) (h : DS w D g o c (putL s ++ rest) ev) :
    Calls Ybad.prog 20 #[.pointer (some ⟨D, 0, none⟩), .int .i64 255] w fun e w' => BytesTo D g s rest ev w e w' := by
  have HU : Hid (Calls Ybad.prog 19 #[.pointer (some ⟨D, 0, none⟩)] w fun e w' => e = .returned (.int .u64 (s.length : Nat)) ∧ ∃ o' c', DS w' D g o' c' (s ++ rest) ev ∧ w.grownBy w' (some D) ∧ ((Lib.uvarint s.length).length < c → o' = o + (Lib.uvarint s.length).length)) := by
    refine uint_any D g o c s.length (s ++ rest) ev w (by omega) ?_
    have := h
    unfold putL at this
    rw [List.append_assoc] at this
    exact this
  clear h
  go_enter Ybad.func20, Ybad.ntmps20
  go_wp2_with fail
  refine HU.out.mono ?_
  rintro e w1 ⟨rfl, o1, c1, HD, HG, -⟩
  have HD' : Hid (DS w1 D g o1 c1 (s ++ rest) ev) := HD
  have HG' : Hid (w.grownBy w1 (some D)) := HG
  have d0 := HD.c0
  have f0 := HD.f0
  have hlc := HD.lc
  have hcm := HD.cm
  unfold maxLen at hcm
  have hll : (s ++ rest).length = s.length + rest.length := List.length_append
  rw [hll] at d0 hlc
  clear HD HG HU hll
  go_wp2
  · go_ret
    exact bytes_end HD'.out HG'.out (fun h => by omega) (by omega) (by omega)
  · go_ret
    exact bytes_end HD'.out HG'.out (fun _ => rfl) (by omega) (by omega)
theorem conv_any (w : World) (b off n c : Nat) (l : List UInt8) (hx : l.length = n) (h : ∀ j (hj : j < l.length), w.cell? ⟨b, off + j, none⟩ = some (.int .u8 (l[j]).toNat)) :
    (convert 24 9 (.slice (some ⟨b, off, none⟩) n c)).run Ybad.prog w = .ok (.string ⟨l.toArray⟩) w := by
  have hr := run_convert_bytes_arg (P := Ybad.prog) w 24 5 Ybad.underlying24 Ybad.underlying5 b off n c (l.map fun x => (x.toNat : Int)) (by simp [hx]) (fun j hj => by
      rw [h j (by omega)]
      simp [List.getD, show j < l.length by omega]) 9 Ybad.underlying9
  rw [hr]
  have e : strOfNums (l.map fun x => (x.toNat : Int)) = ⟨l.toArray⟩ := by
    have e1 : (l.map fun x => (x.toNat : Int)).map (fun n => UInt8.ofNat n.toNat) = l := by
      rw [List.map_map]
      conv => rhs; rw [← List.map_id l]
      apply List.map_congr_left
      intro x _
      simp
    unfold strOfNums
    rw [e1]
  rw [e]

/-- Behind str. -/
def StrTo (D g : Nat) (s rest : List UInt8) (ev : Value) (w : World) (e : Ending) (w' : World) : Prop :=
  ∃ o' c', e = .returned (.string ⟨s.toArray⟩) ∧ DS w' D g o' c' rest ev ∧ w.grownBy w' (some D)
set_option maxHeartbeats 1000000 in
theorem str_any (D g o c : Nat) (s rest : List UInt8) (ev : Value) (w : World) (hs : s.length ≤ 255) (h : DS w D g o c (putL s ++ rest) ev) :
    Calls Ybad.prog 15 #[.pointer (some ⟨D, 0, none⟩), .int .i64 255] w fun e w' => StrTo D g s rest ev w e w' := by
  have HU : Hid (Calls Ybad.prog 20 #[.pointer (some ⟨D, 0, none⟩), .int .i64 255] w fun e w' => BytesTo D g s rest ev w e w') := bytes_any D g o c s rest ev w hs h
  clear h
  go_enter Ybad.func15, Ybad.ntmps15
  go_wp2_with fail
  refine HU.out.mono ?_
  rintro e w1 ⟨o1, o', c', rfl, HD, HG, hb⟩
  have hcv := conv_any w1 g o1 s.length s.length s rfl hb
  have HD' : Hid (DS w1 D g o' c' rest ev) := HD
  have HG' : Hid (w.grownBy w1 (some D)) := HG
  clear HD HG HU hb
  go_wp2
  go_ret
  exact ⟨o', c', rfl, HD'.out, HG'.out⟩
set_option maxHeartbeats 1000000 in
theorem item_str (D g o c : Nat) (s rest : List UInt8) (ev : Value) (w : World) (hs : s.length ≤ 255) (h : DS w D g o c (putL s ++ rest) ev) :
    Calls Ybad.prog 14 #[.pointer (some ⟨D, 0, none⟩)] w fun e w' => StrTo D g s rest ev w e w' := by
  have HU : Hid (Calls Ybad.prog 15 #[.pointer (some ⟨D, 0, none⟩), .int .i64 255] w fun e w' => StrTo D g s rest ev w e w') := str_any D g o c s rest ev w hs h
  clear h
  go_enter Ybad.func14, Ybad.ntmps14
  go_wp2_with fail
  refine HU.out.mono ?_
  rintro e w1 ⟨o', c', rfl, HD, HG⟩
  have HD' : Hid (DS w1 D g o' c' rest ev) := HD
  have HG' : Hid (w.grownBy w1 (some D)) := HG
  clear HD HG HU
  go_wp2
  go_ret
  exact ⟨o', c', rfl, HD'.out, HG'.out⟩
/-- Behind member. -/
def MemTo (D g : Nat) (p : List UInt8 × Nat) (rest : List UInt8) (ev : Value) (w : World) (e : Ending) (w' : World) : Prop :=
  ∃ o' c', e = .returned (.agg #[.string ⟨p.1.toArray⟩, .int .u64 (p.2 : Nat)]) ∧ DS w' D g o' c' rest ev ∧ w.grownBy w' (some D)
def MemEnd (D g : Nat) (rest : List UInt8) (ev : Value) (w w2 : World) (o2 c2 : Nat) : Prop :=
  DS w2 D g o2 c2 rest ev ∧ (w.grownBy w2 (some D) ∧ D < w.heap.size ∧ g < w.heap.size) ∧ w2.cell? ⟨w.heap.size, 0, none⟩ = some (.string ⟨#[]⟩) ∧ w2.cell? ⟨w.heap.size, 1, none⟩ = some (.int .u64 0) ∧ w2.frozen? ⟨w.heap.size, 0, none⟩ = false ∧ w2.frozen? ⟨w.heap.size, 1, none⟩ = false
theorem mem_end {D g o c o2 c2 : Nat} {l rest : List UInt8} {ev : Value} {w w2 : World} (h0 : DS w D g o c l ev) (hD : DS w2 D g o2 c2 rest ev) (hg : (w.alloc (.cells #[.string ⟨#[]⟩, .int .u64 0] 38)).grownBy w2 (some D)) : MemEnd D g rest ev w w2 o2 c2 := by
  have hl := h0.lt
  have hb : w2.heap[w.heap.size]? = some (.cells #[.string ⟨#[]⟩, .int .u64 0] 38) := by
    rw [hg.block _ (by simp) (by simp; omega), heap_alloc_new]
  exact ⟨hD, ⟨⟨hg.os, hg.tape, hg.output, Nat.le_trans (by simp) hg.size, fun k hk hr => by rw [hg.block k (by simp; omega) hr, heap_alloc_old _ _ hk]⟩, hl.1, hl.2⟩,
    by simp [World.cell?, hb], by simp [World.cell?, hb], by simp [World.frozen?, hb], by simp [World.frozen?, hb]⟩
theorem mem_ret {D g o2 c2 : Nat} {s rest : List UInt8} {inc : Nat} {ev : Value} {w w2 : World} {u v : Value} (h : MemEnd D g rest ev w w2 o2 c2) :
    MemTo D g (s, inc) rest ev w (.returned (.agg #[.string ⟨s.toArray⟩, .int .u64 (inc : Nat)])) ((w2.setCell ⟨w.heap.size, 0, none⟩ u).setCell ⟨w.heap.size, 1, none⟩ v) := by
  obtain ⟨hD, ⟨hg, h1, h2⟩, -⟩ := h
  have k : w2.grownBy ((w2.setCell ⟨w.heap.size, 0, none⟩ u).setCell ⟨w.heap.size, 1, none⟩ v) (some w.heap.size) :=
    ⟨rfl, rfl, rfl, by simp [World.setCell], fun k _ hk => by rw [Below.heap_setCell _ _ _ _ (by simpa using hk), Below.heap_setCell _ _ _ _ (by simpa using hk)]⟩
  refine ⟨o2, c2, rfl, hD.kept k (by simp; omega) (by simp; omega), ⟨hg.os, hg.tape, hg.output, Nat.le_trans hg.size k.size, fun i hi hr => ?_⟩⟩
  rw [k.block i (Nat.lt_of_lt_of_le hi hg.size) (by simp; omega), hg.block i hi hr]
set_option maxHeartbeats 1000000 in
theorem item_mem (D g o c : Nat) (p : List UInt8 × Nat) (rest : List UInt8) (ev : Value) (w : World) (hs : p.1.length ≤ 255) (hi : p.2 < 18446744073709551616) (h : DS w D g o c (memL p ++ rest) ev) :
    Calls Ybad.prog 18 #[.pointer (some ⟨D, 0, none⟩)] w fun e w' => MemTo D g p rest ev w e w' := by
  obtain ⟨s, inc⟩ := p
  have HD0 : Hid (DS w D g o c (memL (s, inc) ++ rest) ev) := h
  have HU : Hid (Calls Ybad.prog 15 #[.pointer (some ⟨D, 0, none⟩), .int .i64 255] (w.alloc (.cells #[.string ⟨#[]⟩, .int .u64 0] 38)) fun e w' => StrTo D g s (Lib.uvarint inc ++ rest) ev (w.alloc (.cells #[.string ⟨#[]⟩, .int .u64 0] 38)) e w') := by
    refine str_any D g o c s _ ev _ hs ?_
    have := h.alloc (.cells #[.string ⟨#[]⟩, .int .u64 0] 38)
    unfold memL at this
    rw [List.append_assoc] at this
    exact this
  clear h
  go_enter Ybad.func18, Ybad.ntmps18
  go_wp2_with fail
  refine HU.out.mono ?_
  rintro e w1 ⟨o1, c1, rfl, HD, HG⟩
  have HV : Hid (Calls Ybad.prog 19 #[.pointer (some ⟨D, 0, none⟩)] w1 fun e w' => e = .returned (.int .u64 inc) ∧ ∃ o' c', DS w' D g o' c' rest ev ∧ w1.grownBy w' (some D) ∧ ((Lib.uvarint inc).length < c1 → o' = o1 + (Lib.uvarint inc).length)) := uint_any D g o1 c1 inc rest ev w1 hi HD
  have HG' : Hid ((w.alloc (.cells #[.string ⟨#[]⟩, .int .u64 0] 38)).grownBy w1 (some D)) := HG
  clear HD HG HU
  go_wp2_with fail
  refine HV.out.mono ?_
  rintro e w2 ⟨rfl, o2, c2, HD, HG, -⟩
  have HM : Hid (MemEnd D g rest ev w w2 o2 c2) := mem_end HD0.out HD (grown_trans HG'.out HG)
  obtain ⟨m0, m1, n0, n1⟩ := HM.out.2.2
  clear HD HG HV HG' HD0
  go_wp2
  exact bodyPost_ret (v := .agg #[.string ⟨s.toArray⟩, .int .u64 inc]) (by simp [results, Ybad.results18, go_sem, m0, m1]) rfl (mem_ret HM.out)
end Go.Proofs.YbulkcdcaDoor
