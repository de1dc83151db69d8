import Derived.Test.YbulkccziDoorIns
namespace Go.Proofs.YbulkccziDoor
open Go.RowKit
set_option maxHeartbeats 8000000 in
theorem sift_any (g n c lo hi first off : Nat) (zs : List Nat) (tl : List Value) (w : World) (hw : w.heap[g]? = some (.cells (rowA zs tl) 51 (0, 0))) (hn : zs.length = n) (hlo : lo ≤ n) (hb : first + hi ≤ n) (hm : n ≤ 1000) (ho : Hid (off = 0)) :
    Calls Ybad.prog 35 #[.slice (some ⟨g, off, none⟩) n c, .int .i64 (lo : Int), .int .i64 (hi : Int), .int .i64 (first : Int)] w fun e w' => SortTo g zs tl w e w' := by
  have H0 : Hid (PR w g zs tl w zs) := PR.refl hw
  clear hw
  go_enter Ybad.func35, Ybad.ntmps35
  go_wp2
  go_loopw [8] (fun r wr => ∃ (k : Nat) (us : List Nat), k ≤ n ∧ r = .int .i64 k ∧ us.length = n ∧ Hid (PR w g zs tl wr us)) (fun r _ => hi + 1 - (intOf r).toNat)
  case atStart => exact ⟨lo, zs, hlo, rfl, hn, H0.out⟩
  case round =>
    obtain ⟨k, us, hk, rfl, hus, HP⟩ := hrel
    obtain ⟨G, hcw, hfw, HSW⟩ := HP.out.fam (off := off) hus ho.out
    by_cases hge : hi ≤ 2 * k + 1
    · have hd : (hi : Int) ≤ 2 * (k : Int) + 1 := by omega
      go_wp2
      exact bodyPost_ret (v := .tuple #[]) (by simp [results, Ybad.results35, go_sem]) rfl ⟨rfl, us, HP.out⟩
    · have hd : 2 * (k : Int) + 1 < (hi : Int) := by omega
      go_wp2
      by_cases h2 : 2 * k + 2 < hi
      · have hd2 : 2 * (k : Int) + 1 + 1 < (hi : Int) := by omega
        go_quiet (first | (go_at_call 30; exact Calls.quiet_of_same (less_any _ _ _)))
        go_wp2
        · generalize hw2 : wr.drewN nq = w2
          have HP2 : Hid (PR w g zs tl w2 us) := by rw [← hw2]; exact HP.out.drewN _
          clear hcw hfw HSW hw2
          obtain ⟨G, hcw, hfw, HSW⟩ := HP2.out.fam (off := off) hus ho.out
          go_quiet (first | (go_at_call 30; exact Calls.quiet_of_same (less_any _ _ _)))
          go_wp2
          · exact bodyPost_ret (v := .tuple #[]) (by simp [results, Ybad.results35, go_sem]) rfl ⟨rfl, us, HP2.out.drewN _⟩
          · go_region
            all_goals go_wp2
            go_roundw
            case rel =>
              obtain ⟨us', hl', HR⟩ := HSW.out (nq + 1) (first + k) (first + (2 * k + 1 + 1)) (by omega) (by omega)
              exact ⟨2 * k + 1 + 1, us', by omega, by go_num, hl', HR⟩
            case measure => simp [intOf]; omega
        · generalize hw2 : wr.drewN nq = w2
          have HP2 : Hid (PR w g zs tl w2 us) := by rw [← hw2]; exact HP.out.drewN _
          clear hcw hfw HSW hw2
          obtain ⟨G, hcw, hfw, HSW⟩ := HP2.out.fam (off := off) hus ho.out
          go_quiet (first | (go_at_call 30; exact Calls.quiet_of_same (less_any _ _ _)))
          go_wp2
          · exact bodyPost_ret (v := .tuple #[]) (by simp [results, Ybad.results35, go_sem]) rfl ⟨rfl, us, HP2.out.drewN _⟩
          · go_region
            all_goals go_wp2
            go_roundw
            case rel =>
              obtain ⟨us', hl', HR⟩ := HSW.out (nq + 1) (first + k) (first + (2 * k + 1)) (by omega) (by omega)
              exact ⟨2 * k + 1, us', by omega, by go_num, hl', HR⟩
            case measure => simp [intOf]; omega
      · have hd2 : ¬ (2 * (k : Int) + 1 + 1 < (hi : Int)) := by omega
        have hd3 : decide (2 * (k : Int) + 1 + 1 < (hi : Int)) = false := decide_eq_false hd2
        go_quiet (first | (go_at_call 30; exact Calls.quiet_of_same (less_any _ _ _)))
        go_wp2
        generalize hw2 : wr.drewN nq = w2
        have HP2 : Hid (PR w g zs tl w2 us) := by rw [← hw2]; exact HP.out.drewN _
        clear hcw hfw HSW hw2
        obtain ⟨G, hcw, hfw, HSW⟩ := HP2.out.fam (off := off) hus ho.out
        go_quiet (first | (go_at_call 30; exact Calls.quiet_of_same (less_any _ _ _)))
        go_wp2
        · exact bodyPost_ret (v := .tuple #[]) (by simp [results, Ybad.results35, go_sem]) rfl ⟨rfl, us, HP2.out.drewN _⟩
        · go_region
          all_goals go_wp2
          go_roundw
          case rel =>
            obtain ⟨us', hl', HR⟩ := HSW.out (nq + 1) (first + k) (first + (2 * k + 1)) (by omega) (by omega)
            exact ⟨2 * k + 1, us', by omega, by go_num, hl', HR⟩
          case measure => simp [intOf]; omega
end Go.Proofs.YbulkccziDoor
