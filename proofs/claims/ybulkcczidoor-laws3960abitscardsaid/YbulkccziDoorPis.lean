import Derived.Test.YbulkccziDoorPiv
namespace Go.Proofs.YbulkccziDoor
open Go.RowKit
def PisTo (w : World) (e : Ending) (w' : World) : Prop := ∃ (ok : Bool) (q : Nat), e = .returned (.bool ok) ∧ w' = w.drewN q
set_option maxHeartbeats 4000000 in
theorem pis_any (g n c off a b : Nat) (w : World) (hc : ∀ t, t < n → ∃ x : Int, w.cell? ⟨g, off + t, none⟩ = some (.int .u32 x)) (hab : a < b) (hlt : b < a + 50) (hb : b ≤ n) (hm : n ≤ 1000) :
    Calls Ybad.prog 29 #[.slice (some ⟨g, off, none⟩) n c, .int .i64 (a : Int), .int .i64 (b : Int)] w fun e w' => PisTo w e w' := by
  have HC : Hid (∀ t, t < n → ∃ x : Int, w.cell? ⟨g, off + t, none⟩ = some (.int .u32 x)) := hc
  clear hc
  have h50 : (b : Int) - (a : Int) < 50 := by omega
  go_enter Ybad.func29, Ybad.ntmps29
  go_wp2
  refine wp_loop_rounds 1 ?_
  rw [rounds_succ]
  go_wp2
  go_loopw [7] (fun vi wr => ∃ i q : Nat, a < i ∧ i ≤ b ∧ vi = .int .i64 i ∧ wr = w.drewN q) (fun vi _ => b - (intOf vi).toNat)
  case atStart => exact ⟨a + 1, 0, by omega, by omega, by go_num, rfl⟩
  case round =>
    obtain ⟨i, q, hi1, hi2, rfl, hwr⟩ := hrel
    have HW : Hid (wr = w.drewN q) := hwr
    by_cases hlt2 : i < b
    · obtain ⟨x, hx0⟩ := HC.out i (by omega)
      obtain ⟨y, hy0⟩ := HC.out (i - 1) (by omega)
      have hx : wr.cell? ⟨g, off + i, none⟩ = some (.int .u32 x) := by rw [hwr]; exact hx0
      have hy : wr.cell? ⟨g, off + (i - 1), none⟩ = some (.int .u32 y) := by rw [hwr]; exact hy0
      have hib : ((i : Int) == (b : Int)) = false := by simp; omega
      clear hx0 hy0 hwr
      go_wp2
      go_quiet (first | (go_at_call 30; exact Calls.quiet_of_same (less_any _ _ _)))
      go_wp2
      · go_roundw
        case rel => exact ⟨i + 1, _, by omega, by omega, by go_num, by rw [HW.out, World.drewN_drewN]⟩
        case measure => simp [intOf]; omega
      · go_ret
        exact ⟨_, _, rfl, by rw [HW.out, World.drewN_drewN]⟩
    · obtain rfl : i = b := by omega
      clear hwr
      have hd : decide ((i : Int) < (i : Int)) = false := decide_eq_false (by omega)
      go_wp2
      go_quiet (first | (go_at_call 30; exact Calls.quiet_of_same (less_any _ _ _)))
      go_wp2
      go_ret
      exact ⟨_, _, rfl, by rw [HW.out, World.drewN_drewN]⟩
end Go.Proofs.YbulkccziDoor
