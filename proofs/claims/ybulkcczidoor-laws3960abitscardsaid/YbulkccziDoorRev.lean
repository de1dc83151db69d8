import Derived.Test.YbulkccziDoorBld0
import Derived.Lib.Tables
namespace Go.Proofs.YbulkccziDoor
open Go.RowKit
theorem or16 (a b : Int) : ∃ z : Nat, z < 65536 ∧ bits .or .u16 a b = (z : Int) := by
  refine ⟨(bits .or .u16 a b).toNat, ?_⟩
  have : bits .or .u16 a b = IntKind.u16.wrap ((BitVec.ofInt 16 a ||| BitVec.ofInt 16 b).toNat : Int) := rfl
  rw [this, IntKind.wrap_u16]
  omega
set_option maxRecDepth 20000 in
set_option maxHeartbeats 4000000 in
theorem rev_any (x : Nat) (h : x < 65536) (w : World) : Calls Ybad.prog 18 #[.int .u16 (x : Int)] w fun e w' => ∃ (z : Nat), z < 65536 ∧ e = .returned (.int .u16 (z : Int)) ∧ w' = w.drew := by
  obtain ⟨y, hy⟩ : ∃ y, y = x % 256 := ⟨_, rfl⟩
  have hb : bits .and .u16 (x : Int) 255 = (y : Int) := by
    have := u16_and_nat x 255 (by omega) (by omega)
    rw [show (255 : Nat) = 2 ^ 8 - 1 from rfl, Nat.and_two_pow_sub_one_eq_mod] at this
    rw [hy]; exact this
  have hy2 : y < 256 := by omega
  have hy3 : (y : Int) ≤ 255 := by omega
  have hx2 : (x : Int) / 256 = ((x / 256 : Nat) : Int) := by omega
  obtain ⟨u, hu⟩ : ∃ u, u = x / 256 := ⟨_, rfl⟩
  have hu2 : u < 256 := by omega
  have hu3 : (u : Int) ≤ 255 := by omega
  rw [← hu] at hx2
  clear hy hu
  go_enter Ybad.func18, Ybad.ntmps18
  go_wp2_with fail
  go_region
  all_goals go_wp2_with fail
  go_ret
  obtain ⟨r, hr1, hr2⟩ := or16 (IntKind.u16.wrap (Lib.rev8 (u : Int))) (IntKind.u16.wrap (IntKind.u16.wrap (Lib.rev8 (y : Int)) * 256))
  exact ⟨r, hr1, by rw [← hr2]; rfl, rfl⟩
end Go.Proofs.YbulkccziDoor
