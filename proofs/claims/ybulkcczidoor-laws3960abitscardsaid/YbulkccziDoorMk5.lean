import Derived.Test.YbulkccziDoorMk3
namespace Go.Proofs.YbulkccziDoor
open Go.RowKit
/-- Behind build and assign: the header, the code, the two rows. -/
structure ME (w : World) (H LB C : Nat) (hc ca : Array Value) (vl : Value) (L : List Nat) (vt : Value) (wr : World) : Prop where
  hh : wr.heap[H]? = some (.cells hc 29 (0, 0))
  co : wr.heap[C]? = some (.cells ca 38 (0, 0))
  os : wr.os = w.os
  tape : wr.tape = w.tape
  output : wr.output = w.output
  size : w.heap.size ≤ wr.heap.size
  blk : ∀ k, k < w.heap.size → k ≠ H → k ≠ LB → k ≠ C → wr.heap[k]? = w.heap[k]?
  lt : H < w.heap.size ∧ LB < w.heap.size ∧ C < w.heap.size
  ll : wr.ownsRow w.heap.size 5 1 vl L.length (bL L)
  tt : wr.ownsRow w.heap.size 45 2 vt (tk L).length (tC (tk L))
theorem own_moved {w1 w2 : World} {base : Nat} {e : TypeId} {z : Nat} {v : Value} {n : Nat} {xs : List Value} (h : w1.ownsRow base e z v n xs) (hb : ∀ g, base ≤ g → g < w1.heap.size → w2.heap[g]? = w1.heap[g]?) : w2.ownsRow base e z v n xs := by
  refine ⟨h.1, ?_⟩
  rcases h.2 with hn | ⟨g, cap, cur, rfl, hbg, hgg, rest⟩
  · exact .inl hn
  · exact .inr ⟨g, cap, cur, rfl, hbg, by rw [hb g hbg (Array.getElem?_eq_some_iff.1 hgg).1]; exact hgg, rest⟩
theorem ME.of {w : World} {H LB C nl nd : Nat} {ca ca' : Array Value} {vl vt : Value} {L : List Nat} {N : Nat} {fs : List Nat} {wr w1 w2 w3 : World} (h : MF w H LB C nl nd ca vl L vt N fs wr) (hg1 : wr.grownBy w1 (some N)) (hk : Keep w1.heap.size LB C w1 w2) (hg2 : w2.grownBy w3 (some C))
    (hco : w3.heap[C]? = some (.cells ca' 38 (0, 0))) : ME w H LB C (hcA nl nd 0 0 vl vt) ca' vl L vt w3 := by
  obtain ⟨n1, n2, n3⟩ := h.t.k.ne
  have hlo := h.lo
  have hlt := h.t.k.lt
  have hsz := h.t.k.size
  have hs1 := hg1.size
  have hs2 := hk.size
  have hmv : ∀ k, k < wr.heap.size → k ≠ N → k ≠ LB → k ≠ C → w3.heap[k]? = wr.heap[k]? := fun k k1 k2 k3 k4 => by
    rw [hg2.block k (by omega) (by simpa using k4), hk.block k (by omega) k3 k4, hg1.block k k1 (by simpa using k2)]
  have hl1 : w1.ownsRow w.heap.size 5 1 vl L.length (bL L) := h.t.ll.kept hg1 (own_ne53 h.t.ll h.nb (by decide))
  have ht1 : w1.ownsRow w.heap.size 45 2 vt (tk L).length (tC (tk L)) := h.t.tt.kept hg1 (own_ne53 h.t.tt h.nb (by decide))
  have hmv2 : ∀ g, w.heap.size ≤ g → g < w1.heap.size → w3.heap[g]? = w1.heap[g]? := fun g k1 k2 => by
    rw [hg2.block g (by omega) (by simp; omega), hk.block g k2 (by omega) (by omega)]
  exact ⟨by rw [hmv H (by omega) (by omega) n1 n2]; exact h.t.k.hh, hco, hg2.os.trans (hk.os.trans (hg1.os.trans h.t.k.os)), hg2.tape.trans (hk.tape.trans (hg1.tape.trans h.t.k.tape)), hg2.output.trans (hk.output.trans (hg1.output.trans h.t.k.output)),
    by have := hg2.size; omega, fun k k1 k2 k3 k4 => (hmv k (by omega) (by omega) k3 k4).trans (h.t.k.blk k k1 k2 k3 k4), hlt, own_moved hl1 hmv2, own_moved ht1 hmv2⟩
theorem syUp_mem {fs : List Nat} {k s : Nat} : s ∈ syUp fs k ↔ s < k ∧ 0 < fs.getD s 0 := by simp [syUp]
theorem syUp_nodup (fs : List Nat) (k : Nat) : (syUp fs k).Nodup := List.nodup_range.sublist List.filter_sublist
theorem two_of_mem {l : List Nat} {a b : Nat} (ha : a ∈ l) (hb : b ∈ l) (hab : a ≠ b) : 2 ≤ l.length := by
  match l, ha, hb with
  | [x], ha, hb => simp at ha hb; omega
  | x :: y :: r, _, _ => simp
theorem two_two (fs : List Nat) (hl : fs.length = 19) : 2 ≤ (syUp (two fs) 19).length := by
  unfold two
  split
  · assumption
  · rename_i h2
    split
    · rename_i h1
      split
      · rename_i h0
        obtain ⟨y, hy⟩ := List.length_eq_one_iff.1 h1
        have hm : y ∈ syUp fs 19 := by rw [hy]; simp
        rw [syUp_mem] at hm
        have hy0 : y ≠ 0 := by rintro rfl; omega
        refine two_of_mem (a := 0) (b := y) (syUp_mem.2 ⟨by omega, by simp [List.getD, hl]⟩) (syUp_mem.2 ⟨hm.1, ?_⟩) (by omega)
        have h3 := hm.2
        simp only [List.getD, List.getElem?_set] at h3 ⊢
        rw [if_neg (by omega)]
        exact h3
      · rename_i h0
        refine two_of_mem (a := 0) (b := 1) (syUp_mem.2 ⟨by omega, ?_⟩) (syUp_mem.2 ⟨by omega, by simp [List.getD, hl]⟩) (by omega)
        simp only [List.getD, List.getElem?_set] at h0 ⊢
        rw [if_neg (by omega)]
        omega
    · refine two_of_mem (a := 0) (b := 1) (syUp_mem.2 ⟨by omega, ?_⟩) (syUp_mem.2 ⟨by omega, by simp [List.getD, hl]⟩) (by omega)
      simp [List.getD, hl]
theorem two_len (fs : List Nat) (hl : fs.length = 19) : (two fs).length = 19 := by
  unfold two
  split
  · exact hl
  · split
    · split <;> simp [hl]
    · simp [hl]
theorem set_le {fs : List Nat} {b i : Nat} (h : ∀ s, fs.getD s 0 ≤ b) (hb : 1 ≤ b) : ∀ s, (fs.set i 1).getD s 0 ≤ b := fun s => by
  have := h s
  simp only [List.getD, List.getElem?_set] at this ⊢
  split
  · split
    · simpa using hb
    · simp
  · exact this
theorem two_le (fs : List Nat) (b : Nat) (h : ∀ s, fs.getD s 0 ≤ b) (hb : 1 ≤ b) : ∀ s, (two fs).getD s 0 ≤ b := by
  unfold two
  split
  · exact h
  · split
    · split <;> exact set_le h hb
    · exact set_le (set_le h hb) hb
theorem setK_le (zs : List Nat) (D : Nat → Nat) (b : Nat) (hD : ∀ t, t < zs.length → D t ≤ b) : ∀ k, k ≤ zs.length → ∀ l ∈ setK zs D zeroL k, l ≤ b
  | 0, _, l, hl => by
    have := List.eq_of_mem_replicate hl
    omega
  | k + 1, hk, l, hl => by
    rw [setK] at hl
    rcases List.mem_or_eq_of_mem_set hl with h | h
    · exact setK_le zs D b hD k (by omega) l h
    · rw [h]; exact hD k (by omega)
end Go.Proofs.YbulkccziDoor
