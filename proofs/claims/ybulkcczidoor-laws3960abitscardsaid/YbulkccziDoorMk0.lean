import Derived.Test.YbulkccziDoorBld
import Derived.Test.YbulkccziDoorAt
import Derived.Test.YbulkccziDoorAsg
import Derived.Test.YbulkccziDoorTwo
import Derived.Test.YbulkccziDoorExt
import Derived.Deep.RegionLaw
namespace Go.Proofs.YbulkccziDoor
open Go.RowKit
def trimN (lo : Nat) (l : List Nat) : Nat → Nat
  | 0 => 0
  | k + 1 => if lo < k + 1 ∧ l.getD k 0 = 0 then trimN lo l k else k + 1
theorem trimN_le (lo : Nat) (l : List Nat) : ∀ k, trimN lo l k ≤ k
  | 0 => Nat.le_refl _
  | k + 1 => by rw [trimN]; split; exact Nat.le_succ_of_le (trimN_le lo l k); exact Nat.le_refl _
theorem trimN_go {lo : Nat} {l : List Nat} {k : Nat} (h1 : lo < k + 1) (h2 : l.getD k 0 = 0) : trimN lo l (k + 1) = trimN lo l k := by rw [trimN, if_pos ⟨h1, h2⟩]
theorem trimN_stop {lo : Nat} {l : List Nat} {k : Nat} (h : ¬ (lo < k ∧ l.getD (k - 1) 0 = 0)) : trimN lo l k = k := by
  cases k with
  | zero => rfl
  | succ k => rw [trimN, if_neg (by simpa using h)]
structure MK (w0 : World) (H LB C : Nat) (hc ca : Array Value) (wr : World) : Prop where
  hh : wr.heap[H]? = some (.cells hc 29 (0, 0))
  lb : wr.heap[LB]? = some (.cells #[.slice none 0 0, .slice none 0 0, .slice none 0 0, .slice none 0 0, .slice none 0 0] 34 (0, 0))
  co : wr.heap[C]? = some (.cells ca 38 (0, 0))
  os : wr.os = w0.os
  tape : wr.tape = w0.tape
  output : wr.output = w0.output
  size : w0.heap.size ≤ wr.heap.size
  blk : ∀ k, k < w0.heap.size → k ≠ H → k ≠ LB → k ≠ C → wr.heap[k]? = w0.heap[k]?
  lt : H < w0.heap.size ∧ LB < w0.heap.size ∧ C < w0.heap.size
section
variable {w0 : World} {H LB C : Nat} {hc ca : Array Value} {wr : World}
theorem MK.ne (h : MK w0 H LB C hc ca wr) : H ≠ LB ∧ H ≠ C ∧ LB ≠ C := by
  have h1 := h.hh; have h2 := h.lb; have h3 := h.co
  refine ⟨?_, ?_, ?_⟩ <;> (intro e; subst e; simp_all)
theorem MK.seth (h : MK w0 H LB C hc ca wr) (i : Nat) (v : Value) : MK w0 H LB C (hc.setIfInBounds i v) ca (wr.setCell ⟨H, i, none⟩ v) := by
  obtain ⟨n1, n2, n3⟩ := h.ne
  exact ⟨heap_setCell_same' _ _ _ _ _ _ h.hh, by rw [Below.heap_setCell _ _ _ _ (by simpa using Ne.symm n1)]; exact h.lb, by rw [Below.heap_setCell _ _ _ _ (by simpa using Ne.symm n2)]; exact h.co, h.os, h.tape, h.output, by simpa [World.setCell] using h.size,
    fun k k1 k2 k3 k4 => (Below.heap_setCell _ _ _ _ (by simpa using k2)).trans (h.blk k k1 k2 k3 k4), h.lt⟩
theorem MK.grown (h : MK w0 H LB C hc ca wr) {w1 : World} {row : Option Nat} (hg : wr.grownBy w1 row) (hr : ∀ k, row = some k → w0.heap.size ≤ k) : MK w0 H LB C hc ca w1 := by
  have hb : ∀ k, k < w0.heap.size → w1.heap[k]? = wr.heap[k]? := fun k hk => hg.block k (Nat.lt_of_lt_of_le hk h.size) (fun e => by have := hr k e.symm; omega)
  exact ⟨by rw [hb _ h.lt.1]; exact h.hh, by rw [hb _ h.lt.2.1]; exact h.lb, by rw [hb _ h.lt.2.2]; exact h.co, hg.os.trans h.os, hg.tape.trans h.tape, hg.output.trans h.output, Nat.le_trans h.size hg.size, fun k k1 k2 k3 k4 => (hb k k1).trans (h.blk k k1 k2 k3 k4), h.lt⟩
theorem MK.alloc (h : MK w0 H LB C hc ca wr) (o : Obj) : MK w0 H LB C hc ca (wr.alloc o) := h.grown (World.grownBy_alloc _ _ none) (by simp)
theorem MK.drewN (h : MK w0 H LB C hc ca wr) (q : Nat) : MK w0 H LB C hc ca (wr.drewN q) := ⟨h.hh, h.lb, h.co, h.os, h.tape, h.output, h.size, h.blk, h.lt⟩
end
/-- A row of the caller's that the call leaves alone. -/
structure OutRow (w0 : World) (H LB C g c : Nat) (l : List Nat) : Prop where
  own : w0.ownsRow 0 5 1 (.slice (some ⟨g, 0, none⟩) l.length c) l.length (bL l)
  lt : g < w0.heap.size
  ne : g ≠ H ∧ g ≠ LB ∧ g ≠ C
theorem OutRow.at {w0 wr : World} {H LB C g c : Nat} {l : List Nat} {hc ca : Array Value} (h : OutRow w0 H LB C g c l) (m : MK w0 H LB C hc ca wr) {t : Nat} (ht : t < l.length) : wr.cell? ⟨g, t, none⟩ = some (.int .u8 ((l.getD t 0 : Nat) : Int)) := by
  rw [World.cell?_of_block (a := ⟨g, t, none⟩) (w := w0) (m.blk g h.lt h.ne.1 h.ne.2.1 h.ne.2.2), h.own.cellAt t (by omega)]
  simp [bL, List.getD, ht]
/-- 'append' onto an own row, as one step of a region that draws. -/
theorem step_append_own {P : Program} {ops : Array Oper} {o : Oper} {a : Act} {w : World} {K : Act → World → Prop} {Q : Exit → Act → World → Prop} {E : Prop}
    (hg : o.guard = none) (s x : Operand) (t : TypeId) (hop : o.op = .call { callee := .builtin .append, args := #[s, x], argTypes := #[t, t] })
    (base : Nat) (e : TypeId) (i : TypeInfo) (z : Value) (size bytes : Nat) (ht : P.underlying t = some (.slice e)) (hi : P.info? e = some i) (hz : i.zero = some z) (hsize : i.size = size) (hby : i.bytes = bytes) (hzs : z.cells.size = size) (hsz : 0 < size)
    (v : Value) (n : Nat) (xs : List Value) (hs : a.eval s = v) (hown : w.ownsRow base e size v n xs)
    (ad : Addr) (m c : Nat) (news : List Value) (hx : a.eval x = .slice (some ad) m c) (hl : news.length = m * size) (hnews : ∀ j u, news[j]? = some u → w.cell? (ad.add j) = some u) (h1 : ∀ u ∈ news, u.oneCell' = true)
    (h63 : n + m ≤ maxLen) (hbytes : (n + m) * bytes ≤ 140737488355328) (hbase : base ≤ w.heap.size)
    (hK : ∀ v' w', w'.ownsRow base e size v' (n + m) (xs ++ news) → w.grownBy w' v.ownBlock → K (a.put o.dst v') w') :
    if Region.wanted o (yielded ops a.tmps) = true then Oper.wp P o a w K Q else E := by
  have hw : Region.wanted o (yielded ops a.tmps) = true := by simp [Region.wanted, hg]
  rw [if_pos hw]
  exact wp_append_own w s x t hop base e i z size bytes ht hi hz hsize hby hzs hsz v n xs hs hown ad m c news hx hl hnews h1 h63 hbytes hbase fun v' w' h2 h3 _ => hK v' w' h2 h3
theorem OutRow.news {w0 wr : World} {H LB C g c : Nat} {l : List Nat} {hc ca : Array Value} (h : OutRow w0 H LB C g c l) (m : MK w0 H LB C hc ca wr) (k : Nat) (hk : k ≤ l.length) :
    (bL (l.take k)).length = k * 1 ∧ (∀ j u, (bL (l.take k))[j]? = some u → wr.cell? ((⟨g, 0, none⟩ : Addr).add j) = some u) ∧ ∀ u ∈ bL (l.take k), u.oneCell' = true := by
  refine ⟨by simp [bL]; omega, fun j u hu => ?_, fun u hu => ?_⟩
  · rw [Addr.add_lit]
    simp only [bL, List.getElem?_map, List.getElem?_take] at hu
    split at hu
    · rename_i hj
      have hjl : j < l.length := by omega
      have := h.at m hjl
      simp [hjl] at hu
      subst hu
      rw [Nat.zero_add, this]
      simp [List.getD, hjl]
    · simp at hu
  · simp only [bL, List.mem_map] at hu
    obtain ⟨z, _, rfl⟩ := hu
    rfl
def hcA (a b c d : Nat) (vl vt : Value) : Array Value := #[.int .i64 (a : Int), .int .i64 (b : Int), .int .i64 (c : Int), vl, vt, .int .i64 (d : Int)]
end Go.Proofs.YbulkccziDoor
