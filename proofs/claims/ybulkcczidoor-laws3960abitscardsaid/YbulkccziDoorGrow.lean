import Derived.Test.YbulkccziDoorSrt
import Derived.OwnWalk
import Derived.Laws.OwnMore
import Derived.Laws.AppendOwnNone
namespace Go.Proofs.YbulkccziDoor
open Go.RowKit
theorem infoI32 : (Ybad.prog.info? 21).map (fun i => (i.zero, i.size, i.bytes)) = some (some (.int .i32 0), 1, 4) := by kernel_rfl
theorem infoI16 : (Ybad.prog.info? 67).map (fun i => (i.zero, i.size, i.bytes)) = some (some (.int .i16 0), 1, 2) := by kernel_rfl
/-- 'append(nil, make([]T, n)...)'. -/
theorem run_append_made {P : Program} (w : World) (t u ty e : TypeId) (i : TypeInfo) (z : Value) (ht : P.underlying t = some (.slice e)) (hu : P.underlying u = some (.int .i64)) (hi : P.info? e = some i) (hz : i.zero = some z) (hs1 : i.size = 1)
    (n : Nat) (h0 : 0 < n) (hn : n ≤ 1000) (hb : i.bytes ≤ 8) :
    (Builtin.append_ #[t, u] ty #[.slice none 0 0, .int .i64 (n : Int)]).run P w =
      .ok (.slice (some ⟨w.heap.size, 0, none⟩) n (grownCap w n 0 e)) (w.drew.alloc (.cells (Builtin.zeroCells z.cells n ++ Builtin.zeroCells z.cells (grownCap w n 0 e - n)) e)) := by
  have hn0 : n ≠ 0 := by omega
  have hw : IntKind.i64.wrap (n : Int) = n := by rw [IntKind.wrap_i64]; omega
  have hl : ¬ ((n : Int) < 0) := by omega
  have h63' : ¬ (9223372036854775807 < (n : Int)) := by omega
  have hmul : n * i.bytes ≤ 1000 * 8 := Nat.mul_le_mul hn hb
  have hmulz : ¬ (281474976710656 < (n : Int) * (i.bytes : Int)) := by
    have : ((n * i.bytes : Nat) : Int) ≤ 8000 := by omega
    rw [Int.natCast_mul] at this
    omega
  have h48' : ¬ (281474976710656 < Builtin.nextslicecap n 0 * i.bytes) := by rw [nextslicecap_zero h0]; omega
  simp [Builtin.append_, run_underlying ht, run_underlying hu, sizeOf, typeInfo, zeroValue, hi, hz, asInt, asIntOf, hw, hl, hmulz, hn0, h63', h48', hs1, Question.forced, run_firstCells_none, newRow, grownCap]
theorem wpList_append_made {P : Program} (w : World) {ops : Array Oper} {rest : List Oper} {o : Oper} {a : Act} {Q : Exit → Act → World → Prop} (hgd : o.guard = none) (s x : Operand) (t u : TypeId)
    (ho : o.op = .call { callee := .builtin .append, args := #[s, x], argTypes := #[t, u] })
    (e : TypeId) (i : TypeInfo) (z : Value) (ht : P.underlying t = some (.slice e)) (hu : P.underlying u = some (.int .i64)) (hi : P.info? e = some i) (hz : i.zero = some z) (hs1 : i.size = 1) (hz1 : z.cells.size = 1) (hb : i.bytes ≤ 8)
    (n : Nat) (h0 : 0 < n) (hn : n ≤ 1000) (hs : a.eval s = .slice none 0 0) (hx : a.eval x = .int .i64 (n : Int))
    (h : ∀ (C : Nat) (A : Array Value), n ≤ C → C ≤ maxLen → A.size = C → wpList P ops Q rest (a.put o.dst (.slice (some ⟨w.heap.size, 0, none⟩) n C)) (w.drew.alloc (.cells A e))) : wpList P ops Q (o :: rest) a w := by
  refine wpList_plain hgd fun K hK => ?_
  have hr := run_append_made (P := P) w t u o.type e i z ht hu hi hz hs1 n h0 hn hb
  have hcm := grownCap_ge w n 0 e
  unfold Oper.wp execOp
  simp only [ho, resolve, invoke, builtin, Sem.run_bind, Sem.run_pure, Result.andThen_ok, List.map_toArray, List.map_cons, List.map_nil, hs, hx, hr]
  refine hK _ _ (h _ _ hcm (grownCap_le_maxLen w n 0 e (by unfold maxLen; omega)) ?_)
  simp only [Array.size_append, size_zeroCells, hz1]
  omega
/-- A slice without elements over a block of c cells, at its head. -/
def RoomTo (B : Nat) (e : TypeId) (m : Nat) (w : World) (x : Ending) (w' : World) : Prop :=
  ∃ g c cur, x = .returned (.slice (some ⟨g, 0, none⟩) 0 c) ∧ B ≤ g ∧ m ≤ c ∧ c ≤ maxLen ∧ w'.heap[g]? = some (.cells cur e (0, 0)) ∧ cur.size = c ∧ w.grownBy w' none
theorem room_end (e : TypeId) (m c : Nat) (A : Array Value) (w : World) (h1 : m ≤ c) (h2 : c ≤ maxLen) (h3 : A.size = c) : RoomTo w.heap.size e m w (.returned (.slice (some ⟨w.heap.size, 0, none⟩) 0 c)) (w.drew.alloc (.cells A e)) :=
  ⟨w.heap.size, c, A, rfl, Nat.le_refl _, h1, h2, heap_alloc_new w.drew _, h3, ⟨rfl, rfl, rfl, by simp, fun k hk _ => Below.heap_alloc w.drew _ k hk⟩⟩
set_option maxHeartbeats 1000000 in
theorem grow32_nil (m : Nat) (w : World) (h0 : 0 < m) (h1 : m ≤ 1000) : Calls Ybad.prog 20 #[.slice none 0 0, .int .i64 (m : Int)] w fun e w' => RoomTo w.heap.size 21 m w e w' := by
  have h0' : (0 : Int) < (m : Int) := by omega
  obtain ⟨iv, hiv, hz0, hz1, hz2⟩ := info_parts infoI32
  have HI : Hid (_ ∧ _ ∧ _ ∧ _) := ⟨hiv, hz0, hz1, hz2⟩
  clear hiv hz0 hz1 hz2
  go_enter Ybad.func20, Ybad.ntmps20
  go_wp2_with (first | (at_builtin; refine wpList_append_made _ rfl _ _ 31 3 rfl 21 iv (.int .i32 0) Ybad.underlying31 Ybad.underlying3 HI.out.1 HI.out.2.1 HI.out.2.2.1 rfl ?c1 m h0 h1 rfl rfl ?_) | fail)
  case c1 => rw [HI.out.2.2.2]; decide
  intro C A hC hX hA
  have HE : Hid _ := room_end 21 m C A w hC hX hA
  have hX' : C ≤ 9223372036854775807 := hX
  clear hX hA
  go_wp2
  go_ret
  exact HE.out
set_option maxHeartbeats 1000000 in
theorem grow32_has (m g c : Nat) (w : World) (h1 : m ≤ c) (hc : c ≤ maxLen) : Calls Ybad.prog 20 #[.slice (some ⟨g, 0, none⟩) 0 c, .int .i64 (m : Int)] w fun e w' => e = .returned (.slice (some ⟨g, 0, none⟩) 0 c) ∧ w' = w := by
  have hX' : c ≤ 9223372036854775807 := hc
  have h1' : (m : Int) - (c : Int) ≤ 0 := by omega
  clear hc
  go_enter Ybad.func20, Ybad.ntmps20
  go_wp2
  go_ret
  exact ⟨rfl, rfl⟩
set_option maxHeartbeats 1000000 in
theorem grow16_nil (m : Nat) (w : World) (h0 : 0 < m) (h1 : m ≤ 1000) : Calls Ybad.prog 21 #[.slice none 0 0, .int .i64 (m : Int)] w fun e w' => RoomTo w.heap.size 67 m w e w' := by
  have h0' : (0 : Int) < (m : Int) := by omega
  obtain ⟨iv, hiv, hz0, hz1, hz2⟩ := info_parts infoI16
  have HI : Hid (_ ∧ _ ∧ _ ∧ _) := ⟨hiv, hz0, hz1, hz2⟩
  clear hiv hz0 hz1 hz2
  go_enter Ybad.func21, Ybad.ntmps21
  go_wp2_with (first | (at_builtin; refine wpList_append_made _ rfl _ _ 32 3 rfl 67 iv (.int .i16 0) Ybad.underlying32 Ybad.underlying3 HI.out.1 HI.out.2.1 HI.out.2.2.1 rfl ?c1 m h0 h1 rfl rfl ?_) | fail)
  case c1 => rw [HI.out.2.2.2]; decide
  intro C A hC hX hA
  have HE : Hid _ := room_end 67 m C A w hC hX hA
  have hX' : C ≤ 9223372036854775807 := hX
  clear hX hA
  go_wp2
  go_ret
  exact HE.out
set_option maxHeartbeats 1000000 in
theorem grow16_has (m g c : Nat) (w : World) (h1 : m ≤ c) (hc : c ≤ maxLen) : Calls Ybad.prog 21 #[.slice (some ⟨g, 0, none⟩) 0 c, .int .i64 (m : Int)] w fun e w' => e = .returned (.slice (some ⟨g, 0, none⟩) 0 c) ∧ w' = w := by
  have hX' : c ≤ 9223372036854775807 := hc
  have h1' : (m : Int) - (c : Int) ≤ 0 := by omega
  clear hc
  go_enter Ybad.func21, Ybad.ntmps21
  go_wp2
  go_ret
  exact ⟨rfl, rfl⟩
end Go.Proofs.YbulkccziDoor
