import Derived.Test.YbulkccziDoorPis
import Derived.Laws.BitsAllLaws
namespace Go.Proofs.YbulkccziDoor
open Go.RowKit
theorem wrapU (x : Int) : 0 ≤ IntKind.u64.wrap x ∧ IntKind.u64.wrap x < 18446744073709551616 := by
  have e : IntKind.u64.wrap x = x % 18446744073709551616 := by simp [IntKind.wrap, IntKind.bits, IntKind.signed]
  rw [e]
  omega
theorem xor64 (x y : Int) (hx : 0 ≤ x ∧ x < 18446744073709551616) (hy : 0 ≤ y ∧ y < 18446744073709551616) : ∃ z : Int, bits .xor .u64 x y = z ∧ 0 ≤ z ∧ z < 18446744073709551616 := by
  refine ⟨_, u64_xor x y hx.1 hx.2 hy.1 hy.2, by omega, ?_⟩
  have : x.toNat ^^^ y.toNat < 2 ^ 64 := Nat.xor_lt_two_pow (by omega) (by omega)
  omega
def NextTo (R : Nat) (w : World) (e : Ending) (w' : World) : Prop := ∃ z : Int, (0 ≤ z ∧ z < 18446744073709551616) ∧ e = .returned (.int .u64 z) ∧ w'.cell? ⟨R, 0, none⟩ = some (.int .u64 z) ∧ w'.frozen? ⟨R, 0, none⟩ = false ∧ w.grownBy w' (some R)
theorem next_end {R : Nat} {w w' : World} {z r : Int} {v1 v2 : Value} {q : Nat} (hz : 0 ≤ z ∧ z < 18446744073709551616) (hc : w.cell? ⟨R, 0, none⟩ = some (.int .u64 r)) (hf : w.frozen? ⟨R, 0, none⟩ = false)
    (h : w' = (((w.setCell ⟨R, 0, none⟩ v1).setCell ⟨R, 0, none⟩ v2).setCell ⟨R, 0, none⟩ (.int .u64 z)).drewN q) : NextTo R w (.returned (.int .u64 z)) w' := by
  subst h
  refine ⟨z, hz, rfl, ?_, ?_, ⟨rfl, rfl, rfl, by simp [World.setCell, World.drewN], fun k _ hk => ?_⟩⟩
  · have h1 := World.cell?_setCell_same' w ⟨R, 0, none⟩ v1 (by rw [hc]; rfl)
    have h2 := World.cell?_setCell_same' (w.setCell ⟨R, 0, none⟩ v1) ⟨R, 0, none⟩ v2 (by rw [h1]; rfl)
    exact World.cell?_setCell_same' _ ⟨R, 0, none⟩ (.int .u64 z) (by rw [h2]; rfl)
  · show (((w.setCell ⟨R, 0, none⟩ v1).setCell ⟨R, 0, none⟩ v2).setCell ⟨R, 0, none⟩ (.int .u64 z)).frozen? _ = _
    simpa using hf
  · show (((w.setCell ⟨R, 0, none⟩ v1).setCell ⟨R, 0, none⟩ v2).setCell ⟨R, 0, none⟩ (.int .u64 z)).heap[k]? = _
    rw [Below.heap_setCell _ _ _ _ (by simpa using hk), Below.heap_setCell _ _ _ _ (by simpa using hk), Below.heap_setCell _ _ _ _ (by simpa using hk)]
set_option maxHeartbeats 4000000 in
theorem next_any (R : Nat) (r : Int) (w : World) (hr0 : 0 ≤ r) (hr1 : r < 18446744073709551616) (hc : w.cell? ⟨R, 0, none⟩ = some (.int .u64 r)) (hf : w.frozen? ⟨R, 0, none⟩ = false) :
    Calls Ybad.prog 37 #[.pointer (some ⟨R, 0, none⟩)] w fun e w' => NextTo R w e w' := by
  obtain ⟨z1, e1, r1⟩ := xor64 r (IntKind.u64.wrap (r * 8192)) ⟨hr0, hr1⟩ (wrapU _)
  obtain ⟨z2, e2, r2⟩ := xor64 z1 (z1 / 128) r1 ⟨by omega, by omega⟩
  obtain ⟨z3, e3, r3⟩ := xor64 z2 (IntKind.u64.wrap (z2 * 131072)) r2 (wrapU _)
  have HC : Hid (w.cell? ⟨R, 0, none⟩ = some (.int .u64 r) ∧ w.frozen? ⟨R, 0, none⟩ = false) := ⟨hc, hf⟩
  have HR : Hid (0 ≤ z3 ∧ z3 < 18446744073709551616) := r3
  have c1 := World.cell?_setCell_same' w ⟨R, 0, none⟩ (.int .u64 z1) (by rw [hc]; rfl)
  have c2 := World.cell?_setCell_same' (w.setCell ⟨R, 0, none⟩ (.int .u64 z1)) ⟨R, 0, none⟩ (.int .u64 z2) (by rw [c1]; rfl)
  have c3 := World.cell?_setCell_same' ((w.setCell ⟨R, 0, none⟩ (.int .u64 z1)).setCell ⟨R, 0, none⟩ (.int .u64 z2)) ⟨R, 0, none⟩ (.int .u64 z3) (by rw [c2]; rfl)
  go_enter Ybad.func37, Ybad.ntmps37
  go_wp2
  go_region
  go_wp2
  go_region
  go_wp2
  go_region
  go_wp2
  go_ret
  exact next_end (q := 3) HR.out HC.out.1 HC.out.2 (by first | rfl | simp [World.drewN])
end Go.Proofs.YbulkccziDoor
