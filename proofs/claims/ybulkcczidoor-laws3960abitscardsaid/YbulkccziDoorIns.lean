import Derived.Test.YbulkccziDoorSrt
namespace Go.Proofs.YbulkccziDoor
open Go.RowKit
/-- Behind a function that sorts in place: the row is a permutation of what it was. -/
def SortTo (g : Nat) (zs : List Nat) (tl : List Value) (w : World) (e : Ending) (w' : World) : Prop := e = .returned (.tuple #[]) ∧ ∃ us, PR w g zs tl w' us
set_option maxHeartbeats 4000000 in
theorem ins_any (g n c a b off : Nat) (zs : List Nat) (tl : List Value) (w : World) (hw : w.heap[g]? = some (.cells (rowA zs tl) 51 (0, 0))) (hn : zs.length = n) (hab : a ≤ b) (hb : b ≤ n) (hm : n ≤ 1000) (ho : Hid (off = 0)) :
    Calls Ybad.prog 24 #[.slice (some ⟨g, off, none⟩) n c, .int .i64 (a : Int), .int .i64 (b : Int)] w fun e w' => SortTo g zs tl w e w' := by
  have H0 : Hid (PR w g zs tl w zs) := PR.refl hw
  clear hw
  go_enter Ybad.func24, Ybad.ntmps24
  go_wp2
  go_loopw [6] (fun i wr => ∃ (k : Nat) (us : List Nat), a + 1 ≤ k ∧ (k ≤ b ∨ k = a + 1) ∧ i = .int .i64 k ∧ us.length = n ∧ Hid (PR w g zs tl wr us)) (fun i _ => b - (intOf i).toNat)
  case atStart => exact ⟨a + 1, zs, by omega, by omega, by go_num, hn, H0.out⟩
  case round =>
    obtain ⟨k, us, hk1, hk2, rfl, hus, HP⟩ := hrel
    by_cases hlt : k < b
    · go_wp2
      go_loopw [7] (fun j wr2 => ∃ (k2 : Nat) (vs : List Nat), a ≤ k2 ∧ k2 ≤ k ∧ j = .int .i64 k2 ∧ vs.length = n ∧ Hid (PR w g zs tl wr2 vs)) (fun j _ => (intOf j).toNat)
      case atStart => exact ⟨k, us, by omega, by omega, rfl, hus, HP.out⟩
      case round =>
        obtain ⟨j, vs, h1, h2, rfl, hvs, HQ⟩ := hrel
        obtain ⟨G, hcw, hfw, HSW⟩ := HQ.out.fam (off := off) hvs ho.out
        go_wp2
        by_cases hja : a < j
        · go_quiet (first | (go_at_call 30; exact Calls.quiet_of_same (less_any _ _ _)))
          go_wp2
          · go_region
            all_goals go_wp2
            go_roundw
            case rel =>
              obtain ⟨us', hl', HR⟩ := HSW.out (nq + 1) j (j - 1) (by omega) (by omega)
              exact ⟨j - 1, us', by omega, by omega, by congr 1; omega, hl', HR⟩
            case measure => simp [intOf]; omega
          · go_roundw
            case rel => exact ⟨k + 1, vs, by omega, by omega, by go_num, hvs, HQ.out.drewN _⟩
            case measure => simp [intOf]; omega
        · go_quiet (first | (go_at_call 30; exact Calls.quiet_of_same (less_any _ _ _)))
          go_wp2
          go_roundw
          case rel => exact ⟨k + 1, vs, by omega, by omega, by go_num, hvs, HQ.out.drewN _⟩
          case measure => simp [intOf]; omega
    · go_wp2
      exact bodyPost_ret (v := .tuple #[]) (by simp [results, Ybad.results24, go_sem]) rfl ⟨rfl, us, HP.out⟩
end Go.Proofs.YbulkccziDoor
