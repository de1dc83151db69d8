import Derived.Test.YbulkccziDoorBk2
import Derived.Test.YbulkccziDoorPart
import Derived.Test.YbulkccziDoorHp2
namespace Go.Proofs.YbulkccziDoor
open Go.RowKit
theorem HasRow.next {w w1 w2 : World} {g n : Nat} {zs : List Nat} {tl : List Value} {us : List Nat} (h : PR w g zs tl w1 us) (hn : us.length = n) {vs : List Nat} (h2 : PR w1 g us tl w2 vs) : HasRow w g n zs tl w2 := ⟨vs, by rw [h2.len]; exact hn, h.trans h2⟩
theorem HasRow.kept {w w1 w2 : World} {g n : Nat} {zs : List Nat} {tl : List Value} (h : HasRow w g n zs tl w1) (h2 : w1.grownBy w2 none) : HasRow w g n zs tl w2 := by
  obtain ⟨us, hn, hp⟩ := h
  refine ⟨us, hn, ⟨?_, hp.perm, ⟨h2.os.trans hp.gr.os, h2.tape.trans hp.gr.tape, h2.output.trans hp.gr.output, Nat.le_trans hp.gr.size h2.size, fun k hk hr => ?_⟩⟩⟩
  · rw [h2.block g (Array.getElem?_eq_some_iff.1 hp.blk).1 (by simp)]; exact hp.blk
  · rw [h2.block k (Nat.lt_of_lt_of_le hk hp.gr.size) (by simp)]; exact hp.gr.block k hk hr
theorem HasRow.drewN {w w1 : World} {g n : Nat} {zs : List Nat} {tl : List Value} (h : HasRow w g n zs tl w1) (q : Nat) : HasRow w g n zs tl (w1.drewN q) := by
  obtain ⟨us, hn, hp⟩ := h
  exact ⟨us, hn, hp.drewN q⟩
theorem HasRow.to {w w1 : World} {g n : Nat} {zs : List Nat} {tl : List Value} (h : HasRow w g n zs tl w1) : SortTo g zs tl w (.returned (.tuple #[])) w1 := by
  obtain ⟨us, _, hp⟩ := h
  exact ⟨rfl, us, hp⟩
def PdqSaid (m : Nat) : Prop := ∀ (g n c a b lim off : Nat) (zs : List Nat) (tl : List Value) (w : World), w.heap[g]? = some (.cells (rowA zs tl) 51 (0, 0)) → zs.length = n → a ≤ b → b ≤ n → n ≤ 19 → lim ≤ 1000 → b - a ≤ m → Hid (off = 0) →
    Calls Ybad.prog 22 #[.slice (some ⟨g, off, none⟩) n c, .int .i64 (a : Int), .int .i64 (b : Int), .int .i64 (lim : Int)] w fun e w' => SortTo g zs tl w e w'
end Go.Proofs.YbulkccziDoor
