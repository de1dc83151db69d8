import Derived.Test.YbulkccziDoorIns
import Derived.Deep.CutBlock
import Derived.Deep.CutRange
import Derived.Deep.DeepCutAuto
import Derived.Deep.LoopGhost
namespace Go.Proofs.YbulkccziDoor
open Go.RowKit
/-- Behind partitionEqual. -/
def PeqTo (g a b : Nat) (zs : List Nat) (tl : List Value) (w : World) (e : Ending) (w' : World) : Prop := ∃ i us, a < i ∧ i ≤ b ∧ e = .returned (.int .i64 ((i : Nat) : Int)) ∧ PR w g zs tl w' us
def HasRow (w : World) (g n : Nat) (zs : List Nat) (tl : List Value) (wx : World) : Prop := ∃ us : List Nat, us.length = n ∧ PR w g zs tl wx us
set_option maxHeartbeats 8000000 in
theorem peq_any (g n c a b p off : Nat) (zs : List Nat) (tl : List Value) (w : World) (hw : w.heap[g]? = some (.cells (rowA zs tl) 51 (0, 0))) (hn : zs.length = n) (hap : a ≤ p) (hpb : p < b) (hb : b ≤ n) (hm : n ≤ 1000) (ho : Hid (off = 0)) :
    Calls Ybad.prog 31 #[.slice (some ⟨g, off, none⟩) n c, .int .i64 (a : Int), .int .i64 (b : Int), .int .i64 (p : Int)] w fun e w' => PeqTo g a b zs tl w e w' := by
  have H0 : Hid (PR w g zs tl w zs) := PR.refl hw
  clear hw
  go_enter Ybad.func31, Ybad.ntmps31
  go_upto_region 1 with fail
  go_cut [] (fun wx => HasRow w g n zs tl wx)
  case first =>
    obtain ⟨G, hcw, hfw, HSW⟩ := H0.out.fam (off := off) hn ho.out
    by_cases hpa : p = a
    · subst hpa
      go_region
      all_goals go_wp2
      go_meet
      case rel => exact HSW.out 1 p p (by omega) (by omega)
    · have hne : ¬ a = p := fun h => hpa h.symm
      go_region
      all_goals go_wp2
      go_meet
      case rel => exact HSW.out 1 a p (by omega) (by omega)
  case rest =>
    obtain ⟨us0, hus0, HP0⟩ := hcut
    have HP : Hid (PR w g zs tl wc us0) := HP0
    clear HP0 H0
    go_wp2_with fail
    go_loopg [9, 10] (b + 2) (fun gk vi vj wr => ∃ (i j : Nat), vi = .int .i64 i ∧ vj = .int .i64 j ∧ a < i ∧ i ≤ b ∧ a ≤ j ∧ j < b ∧ i ≤ j + 2 ∧ j + 2 - i ≤ gk ∧ Hid (HasRow w g n zs tl wr))
    case atStart => exact ⟨a + 1, b - 1, by go_num, by go_num, by omega, by omega, by omega, by omega, by omega, by omega, ⟨us0, hus0, HP.out⟩⟩
    case round =>
      obtain ⟨i, j, rfl, rfl, hi1, hi2, hj1, hj2, hij, hgk, HR⟩ := hrel
      clear HP
      go_upto_block 2 with fail
      go_cut [9] (fun vi wx => ∃ i' : Nat, vi = .int .i64 i' ∧ i ≤ i' ∧ (i' ≤ j + 1 ∨ i' = i) ∧ Hid (HasRow w g n zs tl wx))
      case first =>
        go_wp2_with fail
        go_loopg [9] (j + 2) (fun gk vi wx => ∃ i' : Nat, vi = .int .i64 i' ∧ i ≤ i' ∧ (i' ≤ j + 1 ∨ i' = i) ∧ j + 2 - i' ≤ gk ∧ Hid (HasRow w g n zs tl wx))
        case atStart => exact ⟨i, rfl, by omega, by omega, by omega, HR.out⟩
        case round =>
          obtain ⟨i', rfl, hii, hij', hgk', HR'⟩ := hrel
          obtain ⟨us, hus, HPu⟩ := HR'.out
          have HP : Hid (PR w g zs tl wr us) := HPu
          obtain ⟨G, hcw, hfw, HSW⟩ := HPu.fam (off := off) hus ho.out
          clear HPu HR'
          by_cases hle : i' ≤ j
          · go_wp2_with fail
            go_quiet (first | (go_at_call 30; exact Calls.quiet_of_same (less_any _ _ _)))
            go_wp2_with fail
            · go_roundg (gk - 1)
              case measure => omega
              case rel => exact ⟨i' + 1, by go_num, by omega, by omega, by omega, ⟨us, hus, HP.out.drewN _⟩⟩
            · go_meet
              case rel => exact ⟨i', rfl, by omega, by omega, ⟨us, hus, HP.out.drewN _⟩⟩
          · have hd : decide ((i' : Int) ≤ (j : Int)) = false := decide_eq_false (by omega)
            go_wp2_with fail
            go_quiet (first | (go_at_call 30; exact Calls.quiet_of_same (less_any _ _ _)))
            go_wp2_with fail
            go_meet
            case rel => exact ⟨i', rfl, by omega, by omega, ⟨us, hus, HP.out.drewN _⟩⟩
      case rest =>
        obtain ⟨i2, rfl, hii2, hij2, HR2⟩ := hcut
        clear HR
        go_upto_block 4 with fail
        go_cut [10] (fun vj wx => ∃ j' : Nat, vj = .int .i64 j' ∧ j' ≤ j ∧ (i2 ≤ j' + 1 ∨ j' = j) ∧ Hid (HasRow w g n zs tl wx))
        case first =>
          go_wp2_with fail
          go_loopg [10] (j + 2) (fun gk vj wx => ∃ j' : Nat, vj = .int .i64 j' ∧ j' ≤ j ∧ (i2 ≤ j' + 1 ∨ j' = j) ∧ j' + 1 ≤ gk ∧ Hid (HasRow w g n zs tl wx))
          case atStart => exact ⟨j, rfl, by omega, by omega, by omega, HR2.out⟩
          case round =>
            obtain ⟨j', rfl, hjj, hij', hgk', HR'⟩ := hrel
            obtain ⟨us, hus, HPu⟩ := HR'.out
            have HP : Hid (PR w g zs tl wr us) := HPu
            obtain ⟨G, hcw, hfw, HSW⟩ := HPu.fam (off := off) hus ho.out
            clear HPu HR'
            by_cases hle : i2 ≤ j'
            · go_wp2_with fail
              go_quiet (first | (go_at_call 30; exact Calls.quiet_of_same (less_any _ _ _)))
              go_wp2_with fail
              · go_roundg (gk - 1)
                case measure => omega
                case rel => exact ⟨j' - 1, by congr 1; omega, by omega, by omega, by omega, ⟨us, hus, HP.out.drewN _⟩⟩
              · go_meet
                case rel => exact ⟨j', rfl, by omega, by omega, ⟨us, hus, HP.out.drewN _⟩⟩
            · have hd : decide ((i2 : Int) ≤ (j' : Int)) = false := decide_eq_false (by omega)
              go_wp2_with fail
              go_quiet (first | (go_at_call 30; exact Calls.quiet_of_same (less_any _ _ _)))
              go_wp2_with fail
              go_meet
              case rel => exact ⟨j', rfl, by omega, by omega, ⟨us, hus, HP.out.drewN _⟩⟩
        case rest =>
          obtain ⟨j2, rfl, hjj2, hij3, HR3⟩ := hcut
          obtain ⟨us, hus, HPu⟩ := HR3.out
          have HP : Hid (PR w g zs tl wc us) := HPu
          obtain ⟨G, hcw, hfw, HSW⟩ := HPu.fam (off := off) hus ho.out
          clear HPu HR2 HR3
          by_cases hlt : j2 < i2
          · go_wp2
            go_ret
            exact ⟨i2, us, by omega, by omega, rfl, HP.out⟩
          · by_cases heq : i2 = j2
            · subst heq
              go_wp2_with fail
              go_region
              all_goals go_wp2_with fail
              go_roundg (gk - 1)
              case measure => omega
              case rel => exact ⟨i2 + 1, i2 - 1, by go_num, by congr 1; omega, by omega, by omega, by omega, by omega, by omega, by omega, HSW.out 1 i2 i2 (by omega) (by omega)⟩
            · have hne : ¬ j2 = i2 := fun h => heq h.symm
              go_wp2_with fail
              go_region
              all_goals go_wp2_with fail
              go_roundg (gk - 1)
              case measure => omega
              case rel => exact ⟨i2 + 1, j2 - 1, by go_num, by congr 1; omega, by omega, by omega, by omega, by omega, by omega, by omega, HSW.out 1 i2 j2 (by omega) (by omega)⟩
end Go.Proofs.YbulkccziDoor
