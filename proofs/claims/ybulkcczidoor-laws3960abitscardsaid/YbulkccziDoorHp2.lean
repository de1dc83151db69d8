import Derived.Test.YbulkccziDoorHeap
namespace Go.Proofs.YbulkccziDoor
open Go.RowKit
theorem sift_pr {g n c lo hi first off : Nat} {zs us : List Nat} {tl : List Value} {w w1 : World} (h : PR w g zs tl w1 us) (hn : us.length = n) (hlo : lo ≤ n) (hb : first + hi ≤ n) (hm : n ≤ 1000) (ho : Hid (off = 0)) :
    Calls Ybad.prog 35 #[.slice (some ⟨g, off, none⟩) n c, .int .i64 (lo : Int), .int .i64 (hi : Int), .int .i64 (first : Int)] w1 fun e w' => e = .returned (.tuple #[]) ∧ ∃ vs : List Nat, vs.length = n ∧ Hid (PR w g zs tl w' vs) :=
  (sift_any g n c lo hi first off us tl w1 h.blk hn hlo hb hm ho).mono fun _ _ ⟨h1, vs, h2⟩ => ⟨h1, vs, by rw [h2.len]; exact hn, h.trans h2⟩
set_option maxHeartbeats 8000000 in
theorem heap_any (g n c a b off : Nat) (zs : List Nat) (tl : List Value) (w : World) (hw : w.heap[g]? = some (.cells (rowA zs tl) 51 (0, 0))) (hn : zs.length = n) (hab : a < b) (hb : b ≤ n) (hm : n ≤ 1000) (ho : Hid (off = 0)) :
    Calls Ybad.prog 25 #[.slice (some ⟨g, off, none⟩) n c, .int .i64 (a : Int), .int .i64 (b : Int)] w fun e w' => SortTo g zs tl w e w' := by
  have H0 : Hid (PR w g zs tl w zs) := PR.refl hw
  obtain ⟨h, hbh⟩ : ∃ h, b = a + h := ⟨b - a, by omega⟩
  have hh : (b : Int) - (a : Int) = (h : Int) := by omega
  have hah : a + h ≤ n := by omega
  have hh0 : 0 < h := by omega
  have HB : Hid (b = a + h) := hbh
  clear hw hbh
  go_enter Ybad.func25, Ybad.ntmps25
  go_wp2
  go_loopw [9] (fun i wr => ∃ (k : Nat) (us : List Nat), k ≤ n ∧ i = .int .i64 ((k : Int) - 1) ∧ us.length = n ∧ Hid (PR w g zs tl wr us)) (fun i _ => (intOf i + 1).toNat)
  case atStart => exact ⟨(h - 1) / 2 + 1, zs, by omega, by congr 1; omega, hn, H0.out⟩
  case round =>
    obtain ⟨k, us, hk, rfl, hus, HP⟩ := hrel
    cases k with
    | succ k =>
      have e : (((k + 1 : Nat) : Int) - 1) = (k : Int) := by omega
      rw [e]
      clear e
      go_wp2_with fail
      refine (sift_pr HP.out hus (by omega) hah hm ho).mono ?_
      rintro e w1 ⟨rfl, vs, hvs, HR⟩
      clear HP
      go_wp2
      go_roundw
      case rel => exact ⟨k, vs, by omega, by go_num, hvs, HR.out⟩
      case measure => simp [intOf]
    | zero =>
      have e : (((0 : Nat) : Int) - 1) = -1 := by omega
      rw [e]
      clear e
      go_wp2
      go_loopw [10] (fun i wr => ∃ (k : Nat) (us : List Nat), k ≤ h ∧ i = .int .i64 ((k : Int) - 1) ∧ us.length = n ∧ Hid (PR w g zs tl wr us)) (fun i _ => (intOf i + 1).toNat)
      case atStart => exact ⟨h, us, by omega, rfl, hus, HP.out⟩
      case round =>
        obtain ⟨k, us, hk, rfl, hus, HP⟩ := hrel
        cases k with
        | succ k =>
          have e : (((k + 1 : Nat) : Int) - 1) = (k : Int) := by omega
          rw [e]
          clear e
          obtain ⟨G, hcw, hfw, HSW⟩ := HP.out.fam (off := off) hus ho.out
          rcases Nat.eq_zero_or_pos k with rfl | hk0
          · go_wp2
            go_region
            all_goals go_wp2_with fail
            obtain ⟨us', hl', HR⟩ := HSW.out 1 a (a + 0) (by omega) (by omega)
            refine (sift_pr (lo := 0) (hi := 0) (first := a) (off := off) HR hl' (by omega) (by omega) hm ho).mono ?_
            rintro e w1 ⟨rfl, vs, hvs, HR2⟩
            clear HP HSW hcw hfw
            go_wp2
            go_roundw
            case rel => exact ⟨0, vs, by omega, by go_num, hvs, HR2.out⟩
            case measure => simp [intOf]
          · have hne : ¬ a + k = a := by omega
            have hne2 : ¬ a = a + k := by omega
            go_wp2
            go_region
            all_goals go_wp2_with fail
            obtain ⟨us', hl', HR⟩ := HSW.out 1 a (a + k) (by omega) (by omega)
            refine (sift_pr (lo := 0) (hi := k) (first := a) (off := off) HR hl' (by omega) (by omega) hm ho).mono ?_
            rintro e w1 ⟨rfl, vs, hvs, HR2⟩
            clear HP HSW hcw hfw
            go_wp2
            go_roundw
            case rel => exact ⟨k, vs, by omega, by go_num, hvs, HR2.out⟩
            case measure => simp [intOf]
        | zero =>
          have e : (((0 : Nat) : Int) - 1) = -1 := by omega
          rw [e]
          clear e
          go_wp2
          exact bodyPost_ret (v := .tuple #[]) (by simp [results, Ybad.results25, go_sem]) rfl ⟨rfl, us, HP.out⟩
end Go.Proofs.YbulkccziDoor
