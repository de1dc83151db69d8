import Derived.Test.YbulkccziDoorBrk
namespace Go.Proofs.YbulkccziDoor
open Go.RowKit
def lenN (n : Nat) : Nat := if n = 0 then 0 else if n < 2 then 1 else if n < 4 then 2 else if n < 8 then 3 else if n < 16 then 4 else 5
theorem lenN_le (n : Nat) : lenN n ≤ 5 := by unfold lenN; split <;> (try split) <;> (try split) <;> (try split) <;> (try split) <;> omega
set_option maxRecDepth 100000 in
set_option maxHeartbeats 4000000 in
theorem len64_0 (w : World) : Calls Ybad.prog 34 #[.int .u64 0] w fun e w' => e = .returned (.int .i64 (lenN 0 : Nat)) ∧ w' = w := by
  go_enter Ybad.func34, Ybad.ntmps34
  go_wp2
  go_ret
  exact ⟨by kernel_rfl, rfl⟩
set_option maxRecDepth 100000 in
set_option maxHeartbeats 4000000 in
theorem len64_1 (w : World) : Calls Ybad.prog 34 #[.int .u64 1] w fun e w' => e = .returned (.int .i64 (lenN 1 : Nat)) ∧ w' = w := by
  go_enter Ybad.func34, Ybad.ntmps34
  go_wp2
  go_ret
  exact ⟨by kernel_rfl, rfl⟩
set_option maxRecDepth 100000 in
set_option maxHeartbeats 4000000 in
theorem len64_2 (w : World) : Calls Ybad.prog 34 #[.int .u64 2] w fun e w' => e = .returned (.int .i64 (lenN 2 : Nat)) ∧ w' = w := by
  go_enter Ybad.func34, Ybad.ntmps34
  go_wp2
  go_ret
  exact ⟨by kernel_rfl, rfl⟩
set_option maxRecDepth 100000 in
set_option maxHeartbeats 4000000 in
theorem len64_3 (w : World) : Calls Ybad.prog 34 #[.int .u64 3] w fun e w' => e = .returned (.int .i64 (lenN 3 : Nat)) ∧ w' = w := by
  go_enter Ybad.func34, Ybad.ntmps34
  go_wp2
  go_ret
  exact ⟨by kernel_rfl, rfl⟩
set_option maxRecDepth 100000 in
set_option maxHeartbeats 4000000 in
theorem len64_4 (w : World) : Calls Ybad.prog 34 #[.int .u64 4] w fun e w' => e = .returned (.int .i64 (lenN 4 : Nat)) ∧ w' = w := by
  go_enter Ybad.func34, Ybad.ntmps34
  go_wp2
  go_ret
  exact ⟨by kernel_rfl, rfl⟩
set_option maxRecDepth 100000 in
set_option maxHeartbeats 4000000 in
theorem len64_5 (w : World) : Calls Ybad.prog 34 #[.int .u64 5] w fun e w' => e = .returned (.int .i64 (lenN 5 : Nat)) ∧ w' = w := by
  go_enter Ybad.func34, Ybad.ntmps34
  go_wp2
  go_ret
  exact ⟨by kernel_rfl, rfl⟩
set_option maxRecDepth 100000 in
set_option maxHeartbeats 4000000 in
theorem len64_6 (w : World) : Calls Ybad.prog 34 #[.int .u64 6] w fun e w' => e = .returned (.int .i64 (lenN 6 : Nat)) ∧ w' = w := by
  go_enter Ybad.func34, Ybad.ntmps34
  go_wp2
  go_ret
  exact ⟨by kernel_rfl, rfl⟩
set_option maxRecDepth 100000 in
set_option maxHeartbeats 4000000 in
theorem len64_7 (w : World) : Calls Ybad.prog 34 #[.int .u64 7] w fun e w' => e = .returned (.int .i64 (lenN 7 : Nat)) ∧ w' = w := by
  go_enter Ybad.func34, Ybad.ntmps34
  go_wp2
  go_ret
  exact ⟨by kernel_rfl, rfl⟩
set_option maxRecDepth 100000 in
set_option maxHeartbeats 4000000 in
theorem len64_8 (w : World) : Calls Ybad.prog 34 #[.int .u64 8] w fun e w' => e = .returned (.int .i64 (lenN 8 : Nat)) ∧ w' = w := by
  go_enter Ybad.func34, Ybad.ntmps34
  go_wp2
  go_ret
  exact ⟨by kernel_rfl, rfl⟩
set_option maxRecDepth 100000 in
set_option maxHeartbeats 4000000 in
theorem len64_9 (w : World) : Calls Ybad.prog 34 #[.int .u64 9] w fun e w' => e = .returned (.int .i64 (lenN 9 : Nat)) ∧ w' = w := by
  go_enter Ybad.func34, Ybad.ntmps34
  go_wp2
  go_ret
  exact ⟨by kernel_rfl, rfl⟩
set_option maxRecDepth 100000 in
set_option maxHeartbeats 4000000 in
theorem len64_10 (w : World) : Calls Ybad.prog 34 #[.int .u64 10] w fun e w' => e = .returned (.int .i64 (lenN 10 : Nat)) ∧ w' = w := by
  go_enter Ybad.func34, Ybad.ntmps34
  go_wp2
  go_ret
  exact ⟨by kernel_rfl, rfl⟩
set_option maxRecDepth 100000 in
set_option maxHeartbeats 4000000 in
theorem len64_11 (w : World) : Calls Ybad.prog 34 #[.int .u64 11] w fun e w' => e = .returned (.int .i64 (lenN 11 : Nat)) ∧ w' = w := by
  go_enter Ybad.func34, Ybad.ntmps34
  go_wp2
  go_ret
  exact ⟨by kernel_rfl, rfl⟩
set_option maxRecDepth 100000 in
set_option maxHeartbeats 4000000 in
theorem len64_12 (w : World) : Calls Ybad.prog 34 #[.int .u64 12] w fun e w' => e = .returned (.int .i64 (lenN 12 : Nat)) ∧ w' = w := by
  go_enter Ybad.func34, Ybad.ntmps34
  go_wp2
  go_ret
  exact ⟨by kernel_rfl, rfl⟩
set_option maxRecDepth 100000 in
set_option maxHeartbeats 4000000 in
theorem len64_13 (w : World) : Calls Ybad.prog 34 #[.int .u64 13] w fun e w' => e = .returned (.int .i64 (lenN 13 : Nat)) ∧ w' = w := by
  go_enter Ybad.func34, Ybad.ntmps34
  go_wp2
  go_ret
  exact ⟨by kernel_rfl, rfl⟩
set_option maxRecDepth 100000 in
set_option maxHeartbeats 4000000 in
theorem len64_14 (w : World) : Calls Ybad.prog 34 #[.int .u64 14] w fun e w' => e = .returned (.int .i64 (lenN 14 : Nat)) ∧ w' = w := by
  go_enter Ybad.func34, Ybad.ntmps34
  go_wp2
  go_ret
  exact ⟨by kernel_rfl, rfl⟩
set_option maxRecDepth 100000 in
set_option maxHeartbeats 4000000 in
theorem len64_15 (w : World) : Calls Ybad.prog 34 #[.int .u64 15] w fun e w' => e = .returned (.int .i64 (lenN 15 : Nat)) ∧ w' = w := by
  go_enter Ybad.func34, Ybad.ntmps34
  go_wp2
  go_ret
  exact ⟨by kernel_rfl, rfl⟩
set_option maxRecDepth 100000 in
set_option maxHeartbeats 4000000 in
theorem len64_16 (w : World) : Calls Ybad.prog 34 #[.int .u64 16] w fun e w' => e = .returned (.int .i64 (lenN 16 : Nat)) ∧ w' = w := by
  go_enter Ybad.func34, Ybad.ntmps34
  go_wp2
  go_ret
  exact ⟨by kernel_rfl, rfl⟩
set_option maxRecDepth 100000 in
set_option maxHeartbeats 4000000 in
theorem len64_17 (w : World) : Calls Ybad.prog 34 #[.int .u64 17] w fun e w' => e = .returned (.int .i64 (lenN 17 : Nat)) ∧ w' = w := by
  go_enter Ybad.func34, Ybad.ntmps34
  go_wp2
  go_ret
  exact ⟨by kernel_rfl, rfl⟩
set_option maxRecDepth 100000 in
set_option maxHeartbeats 4000000 in
theorem len64_18 (w : World) : Calls Ybad.prog 34 #[.int .u64 18] w fun e w' => e = .returned (.int .i64 (lenN 18 : Nat)) ∧ w' = w := by
  go_enter Ybad.func34, Ybad.ntmps34
  go_wp2
  go_ret
  exact ⟨by kernel_rfl, rfl⟩
set_option maxRecDepth 100000 in
set_option maxHeartbeats 4000000 in
theorem len64_19 (w : World) : Calls Ybad.prog 34 #[.int .u64 19] w fun e w' => e = .returned (.int .i64 (lenN 19 : Nat)) ∧ w' = w := by
  go_enter Ybad.func34, Ybad.ntmps34
  go_wp2
  go_ret
  exact ⟨by kernel_rfl, rfl⟩
theorem len64_any (n : Nat) (h : n ≤ 19) (w : World) : Calls Ybad.prog 34 #[.int .u64 (n : Int)] w fun e w' => e = .returned (.int .i64 (lenN n : Nat)) ∧ w' = w := by
  rcases (by omega : n = 0 ∨ n = 1 ∨ n = 2 ∨ n = 3 ∨ n = 4 ∨ n = 5 ∨ n = 6 ∨ n = 7 ∨ n = 8 ∨ n = 9 ∨ n = 10 ∨ n = 11 ∨ n = 12 ∨ n = 13 ∨ n = 14 ∨ n = 15 ∨ n = 16 ∨ n = 17 ∨ n = 18 ∨ n = 19) with rfl | rfl | rfl | rfl | rfl | rfl | rfl | rfl | rfl | rfl | rfl | rfl | rfl | rfl | rfl | rfl | rfl | rfl | rfl | rfl
  · exact len64_0 w
  · exact len64_1 w
  · exact len64_2 w
  · exact len64_3 w
  · exact len64_4 w
  · exact len64_5 w
  · exact len64_6 w
  · exact len64_7 w
  · exact len64_8 w
  · exact len64_9 w
  · exact len64_10 w
  · exact len64_11 w
  · exact len64_12 w
  · exact len64_13 w
  · exact len64_14 w
  · exact len64_15 w
  · exact len64_16 w
  · exact len64_17 w
  · exact len64_18 w
  · exact len64_19 w
set_option maxHeartbeats 400000 in
theorem len_any (n : Nat) (h : n ≤ 19) (w : World) : Calls Ybad.prog 23 #[.int .u64 (n : Int)] w fun e w' => e = .returned (.int .i64 (lenN n : Nat)) ∧ w' = w := by
  have hl := lenN_le n
  go_enter Ybad.func23, Ybad.ntmps23
  go_wp2_with fail
  refine (len64_any n h _).mono ?_
  rintro e w1 ⟨rfl, hw⟩
  rw [hw]
  go_wp2
  go_ret
  exact ⟨rfl, rfl⟩
end Go.Proofs.YbulkccziDoor
