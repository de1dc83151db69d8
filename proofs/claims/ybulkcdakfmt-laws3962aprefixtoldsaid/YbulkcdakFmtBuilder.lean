import Derived.Test.YbulkcdakFmtBase
import Derived.Test.YbulkcdakFmtShelf
import Derived.Lib.Builder
namespace Go.Proofs.YbulkcdakFmt
open Go.RowKit
theorem size30 : (Ybaf.prog.info? 30).map (·.size) = some 2 := by kernel_rfl
theorem lies30 : liesAt Ybaf.prog Ybaf.prog.depth 30 (2 / Ybaf.prog.cellsOf 30) 0 30 1 = true := by kernel_rfl
theorem bindp {α β : Type} (x : α) (f : α → Sem β) : Sem.bind (pure x) f = f x := rfl
theorem conv1 (w : World) (b : Nat) (hsh : w.shape? b = some (30, 2)) : (convert 28 43 (.pointer (some ⟨b, 0, none⟩))).run Ybaf.prog w = .ok (.pointer (some ⟨b, 0, none⟩)) w := by
  obtain ⟨j, hj, hjs⟩ := Option.map_eq_some_iff.1 size30
  simp only [convert, run_underlying Ybaf.underlying28, run_underlying Ybaf.underlying43, Sem.run_bind, Result.andThen_ok]
  conv => lhs; arg 2; whnf
  rw [Sem.run]
  simp only [Sem.bind, Ybaf.underlying28, bindp]
  simp [run_underlying Ybaf.underlying43, Conv.seenAt, viewAt, cellsIn, hsh, sizeOf, typeInfo, hj, hjs]
theorem conv2 (w : World) (b : Nat) (hsh : w.shape? b = some (30, 2)) : (convert 43 28 (.pointer (some ⟨b, 0, none⟩))).run Ybaf.prog w = .ok (.pointer (some ⟨b, 0, none⟩)) w := by
  obtain ⟨j, hj, hjs⟩ := Option.map_eq_some_iff.1 size30
  simp only [convert, run_underlying Ybaf.underlying28, run_underlying Ybaf.underlying43, Sem.run_bind, Result.andThen_ok]
  conv => lhs; arg 2; whnf
  rw [Sem.run]
  have hl := lies30
  simp only [Sem.bind, Ybaf.underlying43, bindp]
  simp [run_underlying Ybaf.underlying28, Conv.seenAt, viewAt, variablesAt, hsh, hl, sizeOf, typeInfo, hj, hjs]
theorem call15 (w : World) (x : Value) : (callFunc 15 #[x]).run Ybaf.prog w = .ok (.value x) w := by
  rw [run_callFunc_extern Ybaf.func15 (by kernel_rfl) (by kernel_rfl) (by kernel_rfl) (e := Extern.AbiNoEscape.same) (by kernel_rfl)]
  rfl
theorem neqp (w : World) (a : Addr) : (binOp .neq 28 (.pointer (some a)) (.pointer (some a))).run Ybaf.prog w = .ok (.bool false) w := by
  obtain ⟨j, hj, hjs⟩ := Option.map_eq_some_iff.1 size30
  exact Lib.run_neq_ptr_same w _ Ybaf.underlying28 hj
set_option maxHeartbeats 400000 in
theorem copyCheck_used (b : Nat) (w : World) (h0 : w.cell? ⟨b, 0, none⟩ = some (.pointer (some ⟨b, 0, none⟩))) :
    Calls Ybaf.prog 13 #[.pointer (some ⟨b, 0, none⟩)] w fun e w' => e = .returned (.tuple #[]) ∧ w' = w := by
  have hq := neqp
  go_enter Ybaf.func13, Ybaf.ntmps13
  go_wp2
  go_end0
  exact ⟨rfl, rfl⟩
set_option maxHeartbeats 400000 in
theorem copyCheck_fresh (b : Nat) (w : World) (h0 : w.cell? ⟨b, 0, none⟩ = some (.pointer none)) (hsh : w.shape? b = some (30, 2)) (hfz : w.frozen? ⟨b, 0, none⟩ = false) :
    Calls Ybaf.prog 13 #[.pointer (some ⟨b, 0, none⟩)] w fun e w' => e = .returned (.tuple #[]) ∧ w' = w.setCell ⟨b, 0, none⟩ (.pointer (some ⟨b, 0, none⟩)) := by
  have hq := neqp
  have c1 := conv1 w b hsh
  have c2 := conv2 w b hsh
  have c3 := call15
  go_enter Ybaf.func13, Ybaf.ntmps13
  go_wp2
  go_end0
  exact ⟨rfl, rfl⟩

open Lib in
theorem copyCheck_any (B b : Nat) (bs : List Value) (w : World) (h : IsBuilder 30 5 B b bs w) :
    Calls Ybaf.prog 13 #[.pointer (some ⟨b, 0, none⟩)] w fun e w' => e = .returned (.tuple #[]) ∧ (BuilderAt 30 5 B b (.pointer (some ⟨b, 0, none⟩)) bs w' ∧ Below B w w' ∧ w'.heap.size = w.heap.size ∧ ∀ x : Addr, x.block ≠ b → w'.cell? x = w.cell? x) := by
  rcases h with h | h
  · refine (copyCheck_fresh b w h.cell0 h.shape h.frozen0).mono ?_
    rintro e w' ⟨rfl, rfl⟩
    exact ⟨rfl, h.used _, (Below.refl B w).setCell (p := ⟨b, 0, none⟩) h.1 _, by simp [World.setCell], fun x hx => World.cell?_of_block (Below.heap_setCell _ _ _ _ hx)⟩
  · refine (copyCheck_used b w h.cell0).mono ?_
    rintro e w' ⟨rfl, rfl⟩
    exact ⟨rfl, h, Below.refl B _, rfl, fun _ _ => rfl⟩

set_option maxHeartbeats 1000000 in
theorem writeByte_any (B b : Nat) (bs : List Value) (c : Int) (w : World) (h : Lib.IsBuilder 30 5 B b bs w) (hlen : bs.length + 1 ≤ 1000000) (hBw : B ≤ w.heap.size) :
    Calls Ybaf.prog 9 #[.pointer (some ⟨b, 0, none⟩), .int .u8 c] w fun e w' => e = .returned .nilIface ∧ (Lib.BuilderAt 30 5 B b (.pointer (some ⟨b, 0, none⟩)) (bs ++ [.int .u8 c]) w' ∧ Below B w w') := by
  obtain ⟨i0, hi, hz0, hz1, hz2⟩ := info_parts info5
  go_enter Ybaf.func9, Ybaf.ntmps9
  go_wp2_with (go_at_call 13; refine (copyCheck_any B b bs _ h).mono ?_)
  rintro e w1 ⟨rfl, h1, hb1, -, -⟩
  obtain ⟨hB, v, hbk, hown, hne⟩ := h1
  have c0 : w1.cell? ⟨b, 0, none⟩ = some (.pointer (some ⟨b, 0, none⟩)) := by rw [Lib.cell_of_heap hbk]; rfl
  have c1 : w1.cell? ⟨b, 1, none⟩ = some v := by rw [Lib.cell_of_heap hbk]; rfl
  go_wp2_with (at_builtin; refine wpList_append_own _ rfl _ _ 22 rfl B 5 i0 (.int .u8 0) 1 1 Ybaf.underlying22 hi hz0 hz1 hz2 rfl (by decide) _ _ _ rfl (hown.alloc _) ⟨w1.heap.size, 0, none⟩ 1 1 [.int .u8 c] rfl rfl ?c1 ?c2 ?c3 ?c4 ?c5 ?_)
  case c1 =>
    intro j u hj
    match j, hj with
    | 0, hj => simp at hj; subst hj; simp [Addr.add]
  case c2 => intro u hu; simp at hu; subst hu; rfl
  case c3 => unfold maxLen; omega
  case c4 => omega
  case c5 => have := hb1.size; simp; omega
  intro v' w2 hown' hgrow _
  have hlt : b < w1.heap.size := by
    rcases Nat.lt_or_ge b w1.heap.size with h' | h'
    · exact h'
    · simp [Array.getElem?_eq_none h'] at hbk
  have hb2 : w2.heap[b]? = some (.cells #[.pointer (some ⟨b, 0, none⟩), v] 30 (0, 0)) := by
    rw [hgrow.block b (by simp; omega) (fun e => hne e.symm), Lib.alloc_old w1 _ b hlt]
    exact hbk
  have d0 : w2.cell? ⟨b, 0, none⟩ = some (.pointer (some ⟨b, 0, none⟩)) := by rw [Lib.cell_of_heap hb2]; rfl
  have d1 : w2.cell? ⟨b, 1, none⟩ = some v := by rw [Lib.cell_of_heap hb2]; rfl
  have f1 : w2.frozen? ⟨b, 1, none⟩ = false := Lib.frozen_of_heap hb2 1
  obtain ⟨g, cap, rfl⟩ : ∃ g cap, v' = .slice (some ⟨g, 0, none⟩) (bs.length + 1) cap := by
    rcases hown'.2 with ⟨_, h0⟩ | ⟨g, cap, cur, hv, _⟩
    · omega
    · exact ⟨g, cap, hv⟩
  go_wp2
  go_ret
  refine ⟨rfl, ?_, ?_⟩
  · exact Lib.BuilderAt.put (T := 30) (e := 5) hB hb2 (bs' := bs ++ [.int .u8 c]) (by simpa using hown') (by decide)
  · exact ((hb1.alloc (by have := hb1.size; omega) _).grown hgrow (by have := hb1.size; simp; omega) (fun k hk => (hown.lt k hk).1)).setCell (p := ⟨b, 1, none⟩) hB _

set_option maxHeartbeats 1000000 in
theorem write_any (B b : Nat) (bs : List Value) (ad : Addr) (m c : Nat) (news : List Value) (w : World) (h : Lib.IsBuilder 30 5 B b bs w)
    (hl : news.length = m) (hnews : ∀ j u, news[j]? = some u → w.cell? (ad.add j) = some u) (hadB : ad.block ≠ b) (h1 : ∀ u ∈ news, u.oneCell' = true)
    (hlen : bs.length + m ≤ 1000000) (hBw : B ≤ w.heap.size) :
    Calls Ybaf.prog 32 #[.pointer (some ⟨b, 0, none⟩), .slice (some ad) m c] w fun e w' => e = .returned (.tuple #[.int .i64 m, .nilIface]) ∧ (Lib.BuilderAt 30 5 B b (.pointer (some ⟨b, 0, none⟩)) (bs ++ news) w' ∧ Below B w w') := by
  obtain ⟨i0, hi, hz0, hz1, hz2⟩ := info_parts info5
  go_enter Ybaf.func32, Ybaf.ntmps32
  go_wp2_with (go_at_call 13; refine (copyCheck_any B b bs _ h).mono ?_)
  rintro e w1 ⟨rfl, h1', hb1, -, hcl⟩
  have hnews1 : ∀ j u, news[j]? = some u → w1.cell? (ad.add j) = some u := fun j u hj => by
    rw [hcl (ad.add j) (by unfold Addr.add; split <;> exact hadB)]; exact hnews j u hj
  clear hcl hnews
  obtain ⟨hB, v, hbk, hown, hne⟩ := h1'
  have c0 : w1.cell? ⟨b, 0, none⟩ = some (.pointer (some ⟨b, 0, none⟩)) := by rw [Lib.cell_of_heap hbk]; rfl
  have c1 : w1.cell? ⟨b, 1, none⟩ = some v := by rw [Lib.cell_of_heap hbk]; rfl
  go_wp2_with (at_builtin; refine wpList_append_own _ rfl _ _ 22 rfl B 5 i0 (.int .u8 0) 1 1 Ybaf.underlying22 hi hz0 hz1 hz2 rfl (by decide) _ _ _ rfl hown ad m c news rfl (by omega) hnews1 h1 ?c3 ?c4 ?c5 ?_)
  case c3 => unfold maxLen; omega
  case c4 => omega
  case c5 => have := hb1.size; omega
  intro v' w2 hown' hgrow _
  have hlt : b < w1.heap.size := by
    rcases Nat.lt_or_ge b w1.heap.size with h' | h'
    · exact h'
    · simp [Array.getElem?_eq_none h'] at hbk
  have hb2 : w2.heap[b]? = some (.cells #[.pointer (some ⟨b, 0, none⟩), v] 30 (0, 0)) := by
    rw [hgrow.block b hlt (fun e => hne e.symm)]
    exact hbk
  have d0 : w2.cell? ⟨b, 0, none⟩ = some (.pointer (some ⟨b, 0, none⟩)) := by rw [Lib.cell_of_heap hb2]; rfl
  have d1 : w2.cell? ⟨b, 1, none⟩ = some v := by rw [Lib.cell_of_heap hb2]; rfl
  have f1 : w2.frozen? ⟨b, 1, none⟩ = false := Lib.frozen_of_heap hb2 1
  obtain ⟨ao, n', cap, rfl⟩ : ∃ ao n' cap, v' = .slice ao n' cap := by
    rcases hown'.2 with ⟨hv, _⟩ | ⟨g, cap, cur, hv, _⟩
    · exact ⟨_, _, _, hv⟩
    · exact ⟨_, _, _, hv⟩
  go_wp2
  go_ret2
  refine ⟨rfl, ?_, ?_⟩
  · exact Lib.BuilderAt.put (T := 30) (e := 5) hB hb2 (bs' := bs ++ news) (by rw [List.length_append, hl]; exact hown') (by decide)
  · exact (hb1.grown hgrow (by have := hb1.size; omega) (fun k hk => (hown.lt k hk).1)).setCell (p := ⟨b, 1, none⟩) hB _
end Go.Proofs.YbulkcdakFmt
