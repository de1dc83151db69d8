import Derived.Test.YbulkcdcaDoorList
namespace Go.Proofs.YbulkcdcaDoor
open Go.RowKit
def FailTo (D : Nat) (ev : Value) (w : World) (e : Ending) (w' : World) : Prop := e = .returned (.tuple #[]) ∧ w' = (w.setCell ⟨D, 1, none⟩ ev).setCell ⟨D, 0, none⟩ (.slice none 0 0)
set_option maxHeartbeats 1000000 in
theorem fail_any (D g o c : Nat) (l : List UInt8) (w : World) (h : DS w D g o c l .nilIface) (t : TypeId) (p : Value) (he : w.cell? ⟨0, 0, none⟩ = some (.iface t p)) :
    Calls Ybad.prog 16 #[.pointer (some ⟨D, 0, none⟩)] w fun e w' => FailTo D (.iface t p) w e w' := by
  have c0 := h.c0
  have c1 := h.c1
  have f0 := h.f0
  have f1 := h.f1
  clear h
  go_enter Ybad.func16, Ybad.ntmps16
  go_wp2
  exact bodyPost_ret (v := .tuple #[]) (by simp [results, Ybad.results16, go_sem]) rfl ⟨rfl, rfl⟩
set_option maxHeartbeats 1000000 in
theorem members_any (D g o c : Nat) (ps : List (List UInt8 × Nat)) (rest : List UInt8) (w : World) (hn : ps.length ≤ 1024) (hps : ∀ p ∈ ps, p.1.length ≤ 255 ∧ p.2 < 18446744073709551616) (h : DS w D g o c (Lib.uvarint ps.length ++ (memsL ps ++ rest)) .nilIface) :
    Calls Ybad.prog 12 #[.pointer (some ⟨D, 0, none⟩)] w fun e w' => ListToM D g ps rest w e w' := by
  have HU : Hid (Calls Ybad.prog 17 #[.pointer (some ⟨D, 0, none⟩), .int .i64 2, .func (Fn.func 18) #[] #[]] w fun e w' => ListToM D g ps rest w e w') := list_M D g o c ps rest w hn hps h
  clear h hps
  go_enter Ybad.func12, Ybad.ntmps12
  go_wp2_with fail
  refine HU.out.mono ?_
  rintro e w1 ⟨v, o', c', rfl, HL⟩
  have HL1 : Hid (LSM D g ps rest w ps.length v o' c' w1) := HL
  clear HL HU
  go_wp2
  go_ret
  exact ⟨v, o', c', rfl, HL1.out⟩
/-- Behind view. -/
structure ViewEnd (D g : Nat) (ps : List (List UInt8 × Nat)) (ss : List (List UInt8)) (rest : List UInt8) (ev : Value) (w : World) (v1 v2 : Value) (w' : World) : Prop where
  m : w'.ownsRow w.heap.size 38 2 v1 ps.length (rowM ps)
  s : w'.ownsRow w.heap.size 9 1 v2 ss.length (rowS ss)
  gr : w.grownBy w' (some D)
  same : ps.length = ss.length → ∃ o c, DS w' D g o c rest .nilIface
  other : ps.length ≠ ss.length → w'.cell? ⟨D, 0, none⟩ = some (.slice none 0 0) ∧ w'.cell? ⟨D, 1, none⟩ = some ev
def ViewTo (D g : Nat) (ps : List (List UInt8 × Nat)) (ss : List (List UInt8)) (rest : List UInt8) (ev : Value) (w : World) (e : Ending) (w' : World) : Prop :=
  ∃ v1 v2, e = .returned (.tuple #[v1, v2]) ∧ ViewEnd D g ps ss rest ev w v1 v2 w'
theorem LSM.whole {D g o c : Nat} {ps : List (List UInt8 × Nat)} {rest : List UInt8} {w w' : World} {v : Value} (h : LSM D g ps rest w ps.length v o c w') : DS w' D g o c rest .nilIface ∧ w'.ownsRow w.heap.size 38 2 v ps.length (rowM ps) := by
  refine ⟨ds_eq h.ds (by simp [memsL]), ?_⟩
  have := h.own
  rw [List.take_length] at this
  exact this
theorem LSS.whole {D g o c : Nat} {ps : List (List UInt8)} {rest : List UInt8} {w w' : World} {v : Value} (h : LSS D g ps rest w ps.length v o c w') : DS w' D g o c rest .nilIface ∧ w'.ownsRow w.heap.size 9 1 v ps.length (rowS ps) := by
  refine ⟨ds_eq h.ds (by simp [strsL]), ?_⟩
  have := h.own
  rw [List.take_length] at this
  exact this
theorem grow_both {D g o c o' c' : Nat} {ps : List (List UInt8 × Nat)} {ss : List (List UInt8)} {rest r1 : List UInt8} {w w1 w2 : World} {v1 v2 : Value} (h1 : LSM D g ps r1 w ps.length v1 o c w1) (h2 : LSS D g ss rest w1 ss.length v2 o' c' w2) :
    w2.ownsRow w.heap.size 38 2 v1 ps.length (rowM ps) ∧ w2.ownsRow w.heap.size 9 1 v2 ss.length (rowS ss) ∧ w.grownBy w2 (some D) ∧ DS w2 D g o' c' rest .nilIface := by
  obtain ⟨-, m⟩ := h1.whole
  obtain ⟨d, s⟩ := h2.whole
  refine ⟨m.kept h2.gr ?_, Joins.ownsRow_le s h1.gr.size, grown_trans h1.gr h2.gr, d⟩
  right
  intro he
  have := (m.lt D he).1
  have := h1.dg.1
  omega
theorem view_same {D g o c o' c' : Nat} {ps : List (List UInt8 × Nat)} {ss : List (List UInt8)} {rest r1 : List UInt8} {ev : Value} {w w1 w2 : World} {v1 v2 : Value} (h1 : LSM D g ps r1 w ps.length v1 o c w1) (h2 : LSS D g ss rest w1 ss.length v2 o' c' w2) (he : ss.length = ps.length) :
    ViewTo D g ps ss rest ev w (.returned (.tuple #[v1, v2])) w2 := by
  obtain ⟨a, b, e, d⟩ := grow_both h1 h2
  exact ⟨v1, v2, rfl, a, b, e, fun _ => ⟨o', c', d⟩, fun hn => absurd he.symm hn⟩
theorem view_other {D g o c o' c' : Nat} {ps : List (List UInt8 × Nat)} {ss : List (List UInt8)} {rest r1 : List UInt8} {ev : Value} {w w1 w2 : World} {v1 v2 : Value} (h1 : LSM D g ps r1 w ps.length v1 o c w1) (h2 : LSS D g ss rest w1 ss.length v2 o' c' w2) (he : ss.length ≠ ps.length) :
    ViewTo D g ps ss rest ev w (.returned (.tuple #[v1, v2])) ((w2.setCell ⟨D, 1, none⟩ ev).setCell ⟨D, 0, none⟩ (.slice none 0 0)) := by
  obtain ⟨a, b, e, d⟩ := grow_both h1 h2
  have k : w2.grownBy ((w2.setCell ⟨D, 1, none⟩ ev).setCell ⟨D, 0, none⟩ (.slice none 0 0)) (some D) :=
    ⟨rfl, rfl, rfl, by simp [World.setCell], fun k _ hk => by rw [Below.heap_setCell _ _ _ _ (by simpa using hk), Below.heap_setCell _ _ _ _ (by simpa using hk)]⟩
  have hD := h1.dg.1
  refine ⟨v1, v2, rfl, a.kept k (Or.inr fun he => by have := (a.lt D he).1; omega), b.kept k (Or.inr fun he => by have := (b.lt D he).1; omega), grown_trans e k, fun hn => absurd hn.symm he, fun _ => ⟨?_, ?_⟩⟩
  · simp [World.cell?, World.setCell, Array.getElem?_modify, d.d]
  · simp [World.cell?, World.setCell, Array.getElem?_modify, d.d]
set_option maxHeartbeats 2000000 in
theorem view_any (D g o c : Nat) (ps : List (List UInt8 × Nat)) (ss : List (List UInt8)) (rest : List UInt8) (w : World) (hn : ps.length ≤ 1024) (hm : ss.length ≤ 1024) (hps : ∀ p ∈ ps, p.1.length ≤ 255 ∧ p.2 < 18446744073709551616) (hss : ∀ s ∈ ss, s.length ≤ 255)
    (h : DS w D g o c (Lib.uvarint ps.length ++ (memsL ps ++ (Lib.uvarint ss.length ++ (strsL ss ++ rest)))) .nilIface) (t : TypeId) (p : Value) (he : w.cell? ⟨0, 0, none⟩ = some (.iface t p)) (hD : D ≠ 0) :
    Calls Ybad.prog 8 #[.pointer (some ⟨D, 0, none⟩)] w fun e w' => ViewTo D g ps ss rest (.iface t p) w e w' := by
  have HU : Hid (Calls Ybad.prog 12 #[.pointer (some ⟨D, 0, none⟩)] w fun e w' => ListToM D g ps (Lib.uvarint ss.length ++ (strsL ss ++ rest)) w e w') := members_any D g o c ps _ w hn hps h
  have HSS : Hid (∀ s ∈ ss, s.length ≤ 255) := hss
  have HE : Hid (w.cell? ⟨0, 0, none⟩ = some (.iface t p)) := he
  clear h hps hss he
  go_enter Ybad.func8, Ybad.ntmps8
  go_wp2_with fail
  refine HU.out.mono ?_
  rintro e w1 ⟨v1, o1, c1, rfl, HL⟩
  have HL1 : Hid (LSM D g ps (Lib.uvarint ss.length ++ (strsL ss ++ rest)) w ps.length v1 o1 c1 w1) := HL
  have HV : Hid (Calls Ybad.prog 13 #[.pointer (some ⟨D, 0, none⟩), .int .i64 1, .func (Fn.func 14) #[] #[]] w1 fun e w' => ListToS D g ss rest w1 e w') := list_S D g o1 c1 ss rest w1 hm HSS.out HL.whole.1
  obtain ⟨a1, k1, hv1⟩ : ∃ a k, v1 = .slice a ps.length k := by
    rcases HL.whole.2.2 with ⟨rfl, h0⟩ | ⟨g', cap, cu, rfl, _⟩
    · exact ⟨none, 0, by rw [h0]⟩
    · exact ⟨_, _, rfl⟩
  subst hv1
  clear HL HU
  go_wp2_with fail
  refine HV.out.mono ?_
  rintro e w2 ⟨v2, o2, c2, rfl, HL⟩
  have HL2 : Hid (LSS D g ss rest w1 ss.length v2 o2 c2 w2) := HL
  have HF : Hid (Calls Ybad.prog 16 #[.pointer (some ⟨D, 0, none⟩)] w2 fun e w' => FailTo D (.iface t p) w2 e w') :=
    fail_any D g o2 c2 rest w2 HL.whole.1 t p ((HL.gr.cell (HL1.out.gr.cell HE.out (by simpa using Ne.symm hD)) (by simpa using Ne.symm hD)))
  obtain ⟨a2, k2, hv2⟩ : ∃ a k, v2 = .slice a ss.length k := by
    rcases HL.whole.2.2 with ⟨rfl, h0⟩ | ⟨g', cap, cu, rfl, _⟩
    · exact ⟨none, 0, by rw [h0]⟩
    · exact ⟨_, _, rfl⟩
  subst hv2
  clear HL HV
  by_cases heq : ss.length = ps.length
  · have hb : (((ss.length : Nat) : Int) != ((ps.length : Nat) : Int)) = false := by simp [heq]
    have HQ : Hid (ss.length = ps.length) := heq
    clear heq
    go_wp2
    exact bodyPost_ret (v := .tuple #[.slice a1 ps.length k1, .slice a2 ss.length k2]) (by simp [results, Ybad.results8, go_sem]) rfl (view_same HL1.out HL2.out HQ.out)
  · have hb : (((ss.length : Nat) : Int) != ((ps.length : Nat) : Int)) = true := by simp; omega
    have HQ : Hid (ss.length ≠ ps.length) := heq
    clear heq
    go_wp2_with fail
    refine HF.out.mono ?_
    rintro e w3 ⟨rfl, rfl⟩
    go_wp2
    exact bodyPost_ret (v := .tuple #[.slice a1 ps.length k1, .slice a2 ss.length k2]) (by simp [results, Ybad.results8, go_sem]) rfl (view_other HL1.out HL2.out HQ.out)
end Go.Proofs.YbulkcdcaDoor
