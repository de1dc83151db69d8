import Derived.Test.YbulkccziDoorBld0
namespace Go.Proofs.YbulkccziDoor
open Go.RowKit
def exN (s : Nat) : Nat := if s = 16 then 2 else if s = 17 then 3 else if s = 18 then 7 else 0
set_option maxHeartbeats 1000000 in
theorem ext_any (s : Nat) (h : s < 19) (w : World) : Calls Ybad.prog 14 #[.int .u8 (s : Int)] w fun e w' => e = .returned (.int .u64 (exN s : Nat)) ∧ w' = w := by
  by_cases h1 : s = 16
  · subst h1
    go_enter Ybad.func14, Ybad.ntmps14
    go_wp2
    go_ret
    exact ⟨rfl, rfl⟩
  by_cases h2 : s = 17
  · subst h2
    go_enter Ybad.func14, Ybad.ntmps14
    go_wp2
    go_ret
    exact ⟨rfl, rfl⟩
  by_cases h3 : s = 18
  · subst h3
    go_enter Ybad.func14, Ybad.ntmps14
    go_wp2
    go_ret
    exact ⟨rfl, rfl⟩
  have e : exN s = 0 := by simp [exN, h1, h2, h3]
  have b1 : ((s : Int) == 16) = false := by simp; omega
  have b2 : ((s : Int) == 17) = false := by simp; omega
  have b3 : ((s : Int) == 18) = false := by simp; omega
  have b4 : (s == 16) = false := by simp; omega
  have b5 : (s == 17) = false := by simp; omega
  have b6 : (s == 18) = false := by simp; omega
  rw [e]
  clear e
  go_enter Ybad.func14, Ybad.ntmps14
  go_wp2
  go_ret
  exact ⟨rfl, rfl⟩
end Go.Proofs.YbulkccziDoor
