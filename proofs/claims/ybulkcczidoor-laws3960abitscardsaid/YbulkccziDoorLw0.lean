import Derived.Test.YbulkccziDoorMk
import Derived.Test.YbulkccziDoorDe
namespace Go.Proofs.YbulkccziDoor
open Go.RowKit
/-! What both laws share: the world behind make. -/
def z38 : Array Value := clA zeroL (List.replicate 269 (.int .u8 0) ++ List.replicate 288 (.int .u16 0))
set_option maxRecDepth 8000 in
theorem zero38 (W : World) : (zeroValue 38).run Ybad.prog W = .ok (.agg z38) W := by kernel_rfl
def wThree (w1 : World) : World := ((w1.alloc (.cells #[.int .i64 0, .int .i64 0, .int .i64 0, .slice none 0 0, .slice none 0 0, .int .i64 0] 29)).alloc (.cells #[.slice none 0 0, .slice none 0 0, .slice none 0 0, .slice none 0 0, .slice none 0 0] 34)).alloc (.cells z38 38)
theorem own_base0 {w : World} {base : Nat} {e : TypeId} {z : Nat} {v : Value} {n : Nat} {xs : List Value} (h : w.ownsRow base e z v n xs) : w.ownsRow 0 e z v n xs := by
  refine ⟨h.1, ?_⟩
  rcases h.2 with hn | ⟨g, cap, cur, rfl, hbg, hgg, rest⟩
  · exact .inl hn
  · exact .inr ⟨g, cap, cur, rfl, Nat.zero_le _, hgg, rest⟩
theorem wThree_size (w1 : World) : (wThree w1).heap.size = w1.heap.size + 3 := by simp [wThree]
theorem wThree_at (w1 : World) : (wThree w1).heap[w1.heap.size]? = some (.cells (hcA 0 0 0 0 (.slice none 0 0) (.slice none 0 0)) 29 (0, 0)) ∧ (wThree w1).heap[w1.heap.size + 1]? = some (.cells #[.slice none 0 0, .slice none 0 0, .slice none 0 0, .slice none 0 0, .slice none 0 0] 34 (0, 0)) ∧ (wThree w1).heap[w1.heap.size + 2]? = some (.cells z38 38 (0, 0)) := by
  refine ⟨?_, ?_, ?_⟩
  · unfold wThree
    rw [Below.heap_alloc _ _ _ (by simp; omega), Below.heap_alloc _ _ _ (by simp), heap_alloc_new]
    rfl
  · unfold wThree
    rw [Below.heap_alloc _ _ _ (by simp)]
    have := heap_alloc_new (w1.alloc (.cells #[.int .i64 0, .int .i64 0, .int .i64 0, .slice none 0 0, .slice none 0 0, .int .i64 0] 29)) (.cells #[.slice none 0 0, .slice none 0 0, .slice none 0 0, .slice none 0 0, .slice none 0 0] 34)
    simpa using this
  · unfold wThree
    have := heap_alloc_new ((w1.alloc (.cells #[.int .i64 0, .int .i64 0, .int .i64 0, .slice none 0 0, .slice none 0 0, .int .i64 0] 29)).alloc (.cells #[.slice none 0 0, .slice none 0 0, .slice none 0 0, .slice none 0 0, .slice none 0 0] 34)) (.cells z38 38)
    simpa using this
theorem wThree_below (w1 : World) : Below w1.heap.size w1 (wThree w1) := by
  unfold wThree
  exact (((Below.refl _ _).alloc (Nat.le_refl _) _).alloc (by simp) _).alloc (by simp; omega) _
theorem pre_out {w w1 : World} {g c : Nat} {l : List Nat} (h : w1.ownsRow w.heap.size 5 1 (.slice (some ⟨g, 0, none⟩) l.length c) l.length (bL l)) : OutRow (wThree w1) w1.heap.size (w1.heap.size + 1) (w1.heap.size + 2) g c l := by
  have hlt := (h.lt g rfl).2
  refine ⟨own_base0 (by unfold wThree; exact ((h.alloc _).alloc _).alloc _), by rw [wThree_size]; omega, by omega⟩
theorem pre_mk (w1 : World) : MK (wThree w1) w1.heap.size (w1.heap.size + 1) (w1.heap.size + 2) (hcA 0 0 0 0 (.slice none 0 0) (.slice none 0 0)) z38 (wThree w1) := by
  obtain ⟨h1, h2, h3⟩ := wThree_at w1
  exact ⟨h1, h2, h3, rfl, rfl, rfl, Nat.le_refl _, fun _ _ _ _ _ => rfl, by rw [wThree_size]; omega⟩
theorem pre_ord {w w1 : World} (hb : Below w.heap.size w w1) (hpos : 0 < w.heap.size) (ho : ∀ t, t < 19 → w.cell? ⟨0, t, none⟩ = some (.int .u8 ((ordL.getD t 0 : Nat) : Int))) : Ord (wThree w1) w1.heap.size (w1.heap.size + 1) (w1.heap.size + 2) := by
  have hs := hb.size
  refine ⟨fun t ht => ?_, by omega⟩
  rw [(wThree_below w1).cell (by show 0 < w1.heap.size; omega), hb.cell (by show 0 < w.heap.size; omega)]
  exact ho t ht
structure LX (w : World) (H C : Nat) (hc ca : Array Value) (lit dist L : List Nat) (g1 g2 : Nat) (la ta : Option Addr) (wr : World) : Prop where
  r1 : Rd wr (some ⟨g1, 0, none⟩) lit
  r2 : Rd wr (some ⟨g2, 0, none⟩) dist
  hh : wr.heap[H]? = some (.cells hc 29 (0, 0))
  co : wr.heap[C]? = some (.cells ca 38 (0, 0))
  ll : Rd wr la L
  tt : RdT wr ta (tk L)
  bel : Below w.heap.size w wr
section
variable {w : World} {H C : Nat} {hc ca : Array Value} {lit dist L : List Nat} {g1 g2 : Nat} {la ta : Option Addr} {wr : World}
theorem LX.next (h : LX w H C hc ca lit dist L g1 g2 la ta wr) {w' : World} (hb : Below wr.heap.size wr w') : LX w H C hc ca lit dist L g1 g2 la ta w' :=
  ⟨h.r1.below hb, h.r2.below hb, by rw [hb.block _ (Array.getElem?_eq_some_iff.1 h.hh).1]; exact h.hh, by rw [hb.block _ (Array.getElem?_eq_some_iff.1 h.co).1]; exact h.co, h.ll.below hb, h.tt.below hb, h.bel.trans (hb.mono h.bel.size)⟩
theorem LX.drewN (h : LX w H C hc ca lit dist L g1 g2 la ta wr) (q : Nat) : LX w H C hc ca lit dist L g1 g2 la ta (wr.drewN q) := h.next ⟨rfl, rfl, rfl, Nat.le_refl _, fun _ _ => rfl⟩
theorem LX.alloc (h : LX w H C hc ca lit dist L g1 g2 la ta wr) (o : Obj) : LX w H C hc ca lit dist L g1 g2 la ta (wr.alloc o) := h.next ((Below.refl _ _).alloc (Nat.le_refl _) o)
end
theorem own_cellsAt {w : World} {B g c : Nat} {l : List Nat} (h : w.ownsRow B 5 1 (.slice (some ⟨g, 0, none⟩) l.length c) l.length (bL l)) : Rd w (some ⟨g, 0, none⟩) l := by
  obtain ⟨a, c', he, hr, _⟩ := own_rd h
  simp at he
  obtain ⟨rfl, _⟩ := he
  exact hr
/-- Behind make. -/
theorem made_lx {w w1 w3 : World} {g1 c1 g2 c2 : Nat} {l1 l2 L : List Nat} {hc ca : Array Value} {vl vt : Value} (h1 : w1.ownsRow w.heap.size 5 1 (.slice (some ⟨g1, 0, none⟩) l1.length c1) l1.length (bL l1)) (h2 : w1.ownsRow w.heap.size 5 1 (.slice (some ⟨g2, 0, none⟩) l2.length c2) l2.length (bL l2)) (hb : Below w.heap.size w w1)
    (hm : ME (wThree w1) w1.heap.size (w1.heap.size + 1) (w1.heap.size + 2) hc ca vl L vt w3) : ∃ la lc ta tc, vl = .slice la L.length lc ∧ vt = .slice ta (tk L).length tc ∧ LX w w1.heap.size (w1.heap.size + 2) hc ca l1 l2 L g1 g2 la ta w3 := by
  obtain ⟨la, lc, rfl, hl, _⟩ := own_rd hm.ll
  obtain ⟨ta, tc, rfl, ht, _⟩ := own_rdT hm.tt
  have hb3 : Below w1.heap.size w1 w3 := by
    have h5 := wThree_below w1
    have hs := hm.size
    rw [wThree_size] at hs
    exact ⟨hm.os.trans h5.os, hm.tape.trans h5.tape, hm.output.trans h5.output, by omega, fun k hk => (hm.blk k (by rw [wThree_size]; omega) (by omega) (by omega) (by omega)).trans (h5.block k hk)⟩
  exact ⟨la, lc, ta, tc, rfl, rfl, (own_cellsAt h1).below hb3, (own_cellsAt h2).below hb3, hm.hh, hm.co, hl, ht, hb.trans (hb3.mono hb.size)⟩
theorem litL_16 (zs : List Int) (P : Nat) : ∀ x ∈ litL zs P, x < 16 := by
  intro x hx
  rcases List.mem_append.1 hx with h | h
  · unfold m16 at h
    obtain ⟨z, _, rfl⟩ := List.mem_map.1 h
    omega
  · have := List.eq_of_mem_replicate h
    omega
theorem m16_16 (zs : List Int) : ∀ x ∈ m16 zs, x < 16 := by
  intro x h
  unfold m16 at h
  obtain ⟨z, _, rfl⟩ := List.mem_map.1 h
  omega
theorem litL_len {zs : List Int} {P n : Nat} (h : zs.length = n) (hn : n ≤ 1024) : (litL zs P).length ≤ 1320 := by
  simp [litL, m16, padN, h]
  omega
theorem Src.below {w wr : World} {a : Option Addr} {n : Nat} {zs : List Int} (h : Src w a n zs) (hb : Below w.heap.size w wr) : Src wr a n zs :=
  ⟨h.1, fun j hj => by
    obtain ⟨b, off, h1, h2, h3⟩ := h.2 j hj
    have := hb.size
    exact ⟨b, off, h1, by omega, by rw [hb.cell (by exact h2)]; exact h3⟩⟩
end Go.Proofs.YbulkccziDoor
