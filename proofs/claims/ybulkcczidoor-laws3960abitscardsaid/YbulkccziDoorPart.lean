import Derived.Test.YbulkccziDoorPeq
namespace Go.Proofs.YbulkccziDoor
open Go.RowKit
/-- Behind partition. -/
def PartTo (g a b : Nat) (zs : List Nat) (tl : List Value) (w : World) (e : Ending) (w' : World) : Prop := ∃ j us ok, a ≤ j ∧ j < b ∧ e = .returned (.tuple #[.int .i64 ((j : Nat) : Int), .bool ok]) ∧ PR w g zs tl w' us
theorem part_end {g n a b j : Nat} {zs : List Nat} {tl : List Value} {w w' : World} {ok : Bool} (h : ∃ us : List Nat, us.length = n ∧ PR w g zs tl w' us) (h1 : a ≤ j) (h2 : j < b) : PartTo g a b zs tl w (.returned (.tuple #[.int .i64 ((j : Nat) : Int), .bool ok])) w' := by
  obtain ⟨us, -, hp⟩ := h
  exact ⟨j, us, ok, h1, h2, rfl, hp⟩
set_option maxHeartbeats 16000000 in
set_option maxRecDepth 8000 in
theorem part_any (g n c a b p off : Nat) (zs : List Nat) (tl : List Value) (w : World) (hw : w.heap[g]? = some (.cells (rowA zs tl) 51 (0, 0))) (hn : zs.length = n) (hap : a ≤ p) (hpb : p < b) (hb : b ≤ n) (hm : n ≤ 1000) (ho : Hid (off = 0)) :
    Calls Ybad.prog 32 #[.slice (some ⟨g, off, none⟩) n c, .int .i64 (a : Int), .int .i64 (b : Int), .int .i64 (p : Int)] w fun e w' => PartTo g a b zs tl w e w' := by
  have H0 : Hid (PR w g zs tl w zs) := PR.refl hw
  clear hw
  go_enter Ybad.func32, Ybad.ntmps32
  go_upto_region 1 with fail
  go_cut [] (fun wx => HasRow w g n zs tl wx)
  case first =>
    obtain ⟨G, hcw, hfw, HSW⟩ := H0.out.fam (off := off) hn ho.out
    by_cases hpa : p = a
    · subst hpa
      go_region
      all_goals go_wp2
      go_meet
      case rel => exact HSW.out 1 p p (by omega) (by omega)
    · have hne : ¬ a = p := fun h => hpa h.symm
      go_region
      all_goals go_wp2
      go_meet
      case rel => exact HSW.out 1 a p (by omega) (by omega)
  case rest =>
    obtain ⟨us0, hus0, HP0⟩ := hcut
    have HRa : Hid (HasRow w g n zs tl wc) := ⟨us0, hus0, HP0⟩
    clear HP0 H0
    go_upto_block 0 with fail
    go_cut [10] (fun vi wx => ∃ i' : Nat, vi = .int .i64 i' ∧ (a + 1) ≤ i' ∧ (i' ≤ (b - 1) + 1 ∨ i' = (a + 1)) ∧ Hid (HasRow w g n zs tl wx))
    case first =>
      go_wp2_with fail
      go_loopg [10] ((b - 1) + 2) (fun gk vi wx => ∃ i' : Nat, vi = .int .i64 i' ∧ (a + 1) ≤ i' ∧ (i' ≤ (b - 1) + 1 ∨ i' = (a + 1)) ∧ (b - 1) + 2 - i' ≤ gk ∧ Hid (HasRow w g n zs tl wx))
      case atStart => exact ⟨(a + 1), by go_num, by omega, by omega, by omega, HRa.out⟩
      case round =>
        obtain ⟨i', rfl, hii, hij', hgk', HR'⟩ := hrel
        obtain ⟨us, hus, HPu⟩ := HR'.out
        have HP : Hid (PR w g zs tl wr us) := HPu
        obtain ⟨G, hcw, hfw, HSW⟩ := HPu.fam (off := off) hus ho.out
        clear HPu HR'
        by_cases hle : i' ≤ (b - 1)
        · have hle' : (i' : Int) ≤ ((b : Int) - 1) := by omega
          go_wp2_with fail
          go_quiet (first | (go_at_call 30; exact Calls.quiet_of_same (less_any _ _ _)))
          go_wp2_with fail
          · go_roundg (gk - 1)
            case measure => omega
            case rel => exact ⟨i' + 1, by go_num, by omega, by omega, by omega, ⟨us, hus, HP.out.drewN _⟩⟩
          · go_meet
            case rel => exact ⟨i', rfl, by omega, by omega, ⟨us, hus, HP.out.drewN _⟩⟩
        · have hd : decide ((i' : Int) ≤ ((b : Int) - 1)) = false := decide_eq_false (by omega)
          go_wp2_with fail
          go_quiet (first | (go_at_call 30; exact Calls.quiet_of_same (less_any _ _ _)))
          go_wp2_with fail
          go_meet
          case rel => exact ⟨i', rfl, by omega, by omega, ⟨us, hus, HP.out.drewN _⟩⟩
    case rest =>
      obtain ⟨i2a, rfl, hii2a, hij2a, HR2a⟩ := hcut
      go_upto_block 2 with fail
      go_cut [11] (fun vj wx => ∃ j' : Nat, vj = .int .i64 j' ∧ j' ≤ (b - 1) ∧ (i2a ≤ j' + 1 ∨ j' = (b - 1)) ∧ Hid (HasRow w g n zs tl wx))
      case first =>
        go_wp2_with fail
        go_loopg [11] ((b - 1) + 2) (fun gk vj wx => ∃ j' : Nat, vj = .int .i64 j' ∧ j' ≤ (b - 1) ∧ (i2a ≤ j' + 1 ∨ j' = (b - 1)) ∧ j' + 1 ≤ gk ∧ Hid (HasRow w g n zs tl wx))
        case atStart => exact ⟨(b - 1), by go_num, by omega, by omega, by omega, HR2a.out⟩
        case round =>
          obtain ⟨j', rfl, hjj, hij', hgk', HR'⟩ := hrel
          obtain ⟨us, hus, HPu⟩ := HR'.out
          have HP : Hid (PR w g zs tl wr us) := HPu
          obtain ⟨G, hcw, hfw, HSW⟩ := HPu.fam (off := off) hus ho.out
          clear HPu HR'
          by_cases hle : i2a ≤ j'
          · go_wp2_with fail
            go_quiet (first | (go_at_call 30; exact Calls.quiet_of_same (less_any _ _ _)))
            go_wp2_with fail
            · go_roundg (gk - 1)
              case measure => omega
              case rel => exact ⟨j' - 1, by congr 1; omega, by omega, by omega, by omega, ⟨us, hus, HP.out.drewN _⟩⟩
            · go_meet
              case rel => exact ⟨j', rfl, by omega, by omega, ⟨us, hus, HP.out.drewN _⟩⟩
          · have hd : decide ((i2a : Int) ≤ (j' : Int)) = false := decide_eq_false (by omega)
            go_wp2_with fail
            go_quiet (first | (go_at_call 30; exact Calls.quiet_of_same (less_any _ _ _)))
            go_wp2_with fail
            go_meet
            case rel => exact ⟨j', rfl, by omega, by omega, ⟨us, hus, HP.out.drewN _⟩⟩
      case rest =>
        obtain ⟨j2a, rfl, hjj2a, hij3a, HR3a⟩ := hcut
        clear HR2a
        obtain ⟨us, hus, HPu⟩ := HR3a.out
        have HP : Hid (PR w g zs tl wc us) := HPu
        obtain ⟨G, hcw, hfw, HSW⟩ := HPu.fam (off := off) hus ho.out
        clear HPu HR3a
        by_cases hlt : j2a < i2a
        · go_wp2_with fail
          by_cases hja : j2a = a
          · subst hja
            go_region
            all_goals go_wp2_with fail
            exact bodyPost_ret (v := .tuple #[.int .i64 (j2a : Int), .bool true]) (by simp [results, Ybad.results32, go_sem]) rfl (part_end (HSW.out 1 j2a j2a (by omega) (by omega)) (by omega) (by omega))
          · have hne : ¬ a = j2a := fun h => hja h.symm
            go_region
            all_goals go_wp2_with fail
            exact bodyPost_ret (v := .tuple #[.int .i64 (j2a : Int), .bool true]) (by simp [results, Ybad.results32, go_sem]) rfl (part_end (HSW.out 1 j2a a (by omega) (by omega)) (by omega) (by omega))
        · go_upto_region 10 with fail
          go_cut [] (fun wx => HasRow w g n zs tl wx)
          case first =>
            by_cases heq : i2a = j2a
            · subst heq
              go_region
              all_goals go_wp2_with fail
              go_meet
              case rel => exact HSW.out 1 i2a i2a (by omega) (by omega)
            · have hne : ¬ j2a = i2a := fun h => heq h.symm
              go_region
              all_goals go_wp2_with fail
              go_meet
              case rel => exact HSW.out 1 i2a j2a (by omega) (by omega)
          case rest =>
            obtain ⟨us1, hus1, HP1⟩ := hcut
            have HRb : Hid (HasRow w g n zs tl wc) := ⟨us1, hus1, HP1⟩
            clear HP1 HSW hcw hfw HP
            go_wp2_with fail
            go_loopg [10, 11] (b + 2) (fun gk vi vj wr => ∃ (i j : Nat), vi = .int .i64 i ∧ vj = .int .i64 j ∧ a < i ∧ i ≤ b ∧ a ≤ j ∧ j < b ∧ i ≤ j + 2 ∧ j + 2 - i ≤ gk ∧ Hid (HasRow w g n zs tl wr))
            case atStart => exact ⟨i2a + 1, j2a - 1, by go_num, by congr 1; omega, by omega, by omega, by omega, by omega, by omega, by omega, HRb.out⟩
            case round =>
              obtain ⟨i, j, rfl, rfl, hi1, hi2, hj1, hj2, hij, hgk, HR⟩ := hrel
              go_upto_block 6 with fail
              go_cut [10] (fun vi wx => ∃ i' : Nat, vi = .int .i64 i' ∧ i ≤ i' ∧ (i' ≤ j + 1 ∨ i' = i) ∧ Hid (HasRow w g n zs tl wx))
              case first =>
                go_wp2_with fail
                go_loopg [10] (j + 2) (fun gk vi wx => ∃ i' : Nat, vi = .int .i64 i' ∧ i ≤ i' ∧ (i' ≤ j + 1 ∨ i' = i) ∧ j + 2 - i' ≤ gk ∧ Hid (HasRow w g n zs tl wx))
                case atStart => exact ⟨i, rfl, by omega, by omega, by omega, HR.out⟩
                case round =>
                  obtain ⟨i', rfl, hii, hij', hgk', HR'⟩ := hrel
                  obtain ⟨us, hus, HPu⟩ := HR'.out
                  have HP : Hid (PR w g zs tl wr us) := HPu
                  obtain ⟨G, hcw, hfw, HSW⟩ := HPu.fam (off := off) hus ho.out
                  clear HPu HR'
                  by_cases hle : i' ≤ j
                  · have hle' : (i' : Int) ≤ (j : Int) := by omega
                    go_wp2_with fail
                    go_quiet (first | (go_at_call 30; exact Calls.quiet_of_same (less_any _ _ _)))
                    go_wp2_with fail
                    · go_roundg (gk - 1)
                      case measure => omega
                      case rel => exact ⟨i' + 1, by go_num, by omega, by omega, by omega, ⟨us, hus, HP.out.drewN _⟩⟩
                    · go_meet
                      case rel => exact ⟨i', rfl, by omega, by omega, ⟨us, hus, HP.out.drewN _⟩⟩
                  · have hd : decide ((i' : Int) ≤ (j : Int)) = false := decide_eq_false (by omega)
                    go_wp2_with fail
                    go_quiet (first | (go_at_call 30; exact Calls.quiet_of_same (less_any _ _ _)))
                    go_wp2_with fail
                    go_meet
                    case rel => exact ⟨i', rfl, by omega, by omega, ⟨us, hus, HP.out.drewN _⟩⟩
              case rest =>
                obtain ⟨i2b, rfl, hii2b, hij2b, HR2b⟩ := hcut
                go_upto_block 8 with fail
                go_cut [11] (fun vj wx => ∃ j' : Nat, vj = .int .i64 j' ∧ j' ≤ j ∧ (i2b ≤ j' + 1 ∨ j' = j) ∧ Hid (HasRow w g n zs tl wx))
                case first =>
                  go_wp2_with fail
                  go_loopg [11] (j + 2) (fun gk vj wx => ∃ j' : Nat, vj = .int .i64 j' ∧ j' ≤ j ∧ (i2b ≤ j' + 1 ∨ j' = j) ∧ j' + 1 ≤ gk ∧ Hid (HasRow w g n zs tl wx))
                  case atStart => exact ⟨j, rfl, by omega, by omega, by omega, HR2b.out⟩
                  case round =>
                    obtain ⟨j', rfl, hjj, hij', hgk', HR'⟩ := hrel
                    obtain ⟨us, hus, HPu⟩ := HR'.out
                    have HP : Hid (PR w g zs tl wr us) := HPu
                    obtain ⟨G, hcw, hfw, HSW⟩ := HPu.fam (off := off) hus ho.out
                    clear HPu HR'
                    by_cases hle : i2b ≤ j'
                    · go_wp2_with fail
                      go_quiet (first | (go_at_call 30; exact Calls.quiet_of_same (less_any _ _ _)))
                      go_wp2_with fail
                      · go_roundg (gk - 1)
                        case measure => omega
                        case rel => exact ⟨j' - 1, by congr 1; omega, by omega, by omega, by omega, ⟨us, hus, HP.out.drewN _⟩⟩
                      · go_meet
                        case rel => exact ⟨j', rfl, by omega, by omega, ⟨us, hus, HP.out.drewN _⟩⟩
                    · have hd : decide ((i2b : Int) ≤ (j' : Int)) = false := decide_eq_false (by omega)
                      go_wp2_with fail
                      go_quiet (first | (go_at_call 30; exact Calls.quiet_of_same (less_any _ _ _)))
                      go_wp2_with fail
                      go_meet
                      case rel => exact ⟨j', rfl, by omega, by omega, ⟨us, hus, HP.out.drewN _⟩⟩
                case rest =>
                  obtain ⟨j2b, rfl, hjj2b, hij3b, HR3b⟩ := hcut
                  clear HR2b
                  obtain ⟨us, hus, HPu⟩ := HR3b.out
                  have HP : Hid (PR w g zs tl wc us) := HPu
                  obtain ⟨G, hcw, hfw, HSW⟩ := HPu.fam (off := off) hus ho.out
                  clear HPu HR3b
                  by_cases hlt : j2b < i2b
                  · go_wp2_with fail
                    by_cases hja : j2b = a
                    · subst hja
                      go_region
                      all_goals go_wp2_with fail
                      exact bodyPost_ret (v := .tuple #[.int .i64 (j2b : Int), .bool false]) (by simp [results, Ybad.results32, go_sem]) rfl (part_end (HSW.out 1 j2b j2b (by omega) (by omega)) (by omega) (by omega))
                    · have hne : ¬ a = j2b := fun h => hja h.symm
                      go_region
                      all_goals go_wp2_with fail
                      exact bodyPost_ret (v := .tuple #[.int .i64 (j2b : Int), .bool false]) (by simp [results, Ybad.results32, go_sem]) rfl (part_end (HSW.out 1 j2b a (by omega) (by omega)) (by omega) (by omega))
                  · by_cases heq : i2b = j2b
                    · subst heq
                      go_wp2_with fail
                      go_region
                      all_goals go_wp2_with fail
                      go_roundg (gk - 1)
                      case measure => omega
                      case rel => exact ⟨i2b + 1, i2b - 1, by go_num, by congr 1; omega, by omega, by omega, by omega, by omega, by omega, by omega, HSW.out 1 i2b i2b (by omega) (by omega)⟩
                    · have hne : ¬ j2b = i2b := fun h => heq h.symm
                      go_wp2_with fail
                      go_region
                      all_goals go_wp2_with fail
                      go_roundg (gk - 1)
                      case measure => omega
                      case rel => exact ⟨i2b + 1, j2b - 1, by go_num, by congr 1; omega, by omega, by omega, by omega, by omega, by omega, by omega, HSW.out 1 i2b j2b (by omega) (by omega)⟩
end Go.Proofs.YbulkccziDoor
