import Derived.Test.YbulkccziDoorBp
namespace Go.Proofs.YbulkccziDoor
open Go.RowKit
theorem rnd_start (w : World) (L : Nat) (hL : L ≤ 1000) : Rnd w.heap.size (w.alloc (.cells #[.int .u64 (L : Int)] 82)) :=
  ⟨⟨L, ⟨by omega, by omega⟩, by unfold World.cell?; rw [heap_alloc_new]; rfl⟩, by unfold World.frozen?; rw [heap_alloc_new]; rfl⟩
set_option maxHeartbeats 8000000 in
theorem brk_any (g n c a b off : Nat) (zs : List Nat) (tl : List Value) (w : World) (hw : w.heap[g]? = some (.cells (rowA zs tl) 51 (0, 0))) (hn : zs.length = n) (hab : a + 13 ≤ b) (hab2 : b ≤ a + 19) (hb : b ≤ n) (hm : n ≤ 1000) (ho : Hid (off = 0)) :
    Calls Ybad.prog 26 #[.slice (some ⟨g, off, none⟩) n c, .int .i64 (a : Int), .int .i64 (b : Int)] w fun e w' => SortTo g zs tl w e w' := by
  have hgl : g < w.heap.size := (Array.getElem?_eq_some_iff.1 hw).1
  obtain ⟨L, hbl⟩ : ∃ L, b = a + L := ⟨b - a, by omega⟩
  have hh : (b : Int) - (a : Int) = (L : Int) := by omega
  have hL1 : 13 ≤ L := by omega
  have hL2 : L ≤ 19 := by omega
  have haL : a + L ≤ n := by omega
  have HB : Hid (b = a + L) := hbl
  have H0 : Hid (PR w g zs tl (w.alloc (.cells #[.int .u64 (L : Int)] 82)) zs) := (PR.refl hw).aside (World.grownBy_alloc _ _ _) (Nat.le_refl _) (by omega)
  have HP : Hid (Calls Ybad.prog 36 #[.int .i64 (L : Int)] (w.alloc (.cells #[.int .u64 (L : Int)] 82)) fun e w' => e = .returned (.int .u64 (if L < 16 then 16 else 32)) ∧ w' = (w.alloc (.cells #[.int .u64 (L : Int)] 82))) := pow2_any L hL1 hL2 _
  have HR : Hid (Rnd w.heap.size (w.alloc (.cells #[.int .u64 (L : Int)] 82))) := rnd_start w L (by omega)
  clear hbl hw
  obtain ⟨M, hM⟩ : ∃ M : Int, (if L < 16 then (16 : Int) else 32) = M := ⟨_, rfl⟩
  have hMM : M = 16 ∨ M = 32 := by rw [← hM]; split <;> simp
  have hM2 : M ≤ 2 * L := by rw [← hM]; split <;> omega
  rw [hM] at HP
  clear hM
  go_enter Ybad.func26, Ybad.ntmps26
  go_wp2_with fail
  refine HP.out.mono ?_
  rintro e w1 ⟨rfl, hw1⟩
  rw [hw1]
  clear hw1 HP
  go_wp2
  go_loopw [9] (fun vi wr => ∃ (i : Nat) (us : List Nat), a + L / 4 * 2 ≤ i + 1 ∧ i ≤ a + L / 4 * 2 + 2 ∧ vi = .int .i64 i ∧ us.length = n ∧ Hid (PR w g zs tl wr us) ∧ Hid (Rnd w.heap.size wr)) (fun vi _ => a + L / 4 * 2 + 2 - (intOf vi).toNat)
  case atStart => exact ⟨a + L / 4 * 2 - 1, zs, by omega, by omega, by congr 1; omega, hn, H0.out, HR.out⟩
  case round =>
    obtain ⟨i, us, hi1, hi2, rfl, hus, HQ, HS⟩ := hrel
    clear H0 HR
    by_cases hle : i ≤ a + L / 4 * 2 + 1
    · have hle' : (i : Int) ≤ (a : Int) + (L : Int) / 4 * 2 + 1 := by omega
      obtain ⟨z, hz, hc⟩ := HS.out.c
      have HN : Hid (Calls Ybad.prog 37 #[.pointer (some ⟨w.heap.size, 0, none⟩)] wr fun e w' => NextTo w.heap.size wr e w') := next_any w.heap.size z wr hz.1 hz.2 hc HS.out.f
      clear hc hz
      go_wp2_with fail
      refine HN.out.mono ?_
      rintro e w2 ⟨z2, hz2, rfl, hc2, hf2, hg2⟩
      have HS2 : Hid (Rnd w.heap.size w2) := ⟨⟨z2, hz2, hc2⟩, hf2⟩
      have HQ2 : Hid (PR w g zs tl w2 us) := HQ.out.aside hg2 (Nat.le_refl _) (by omega)
      obtain ⟨y, hy, hyM⟩ := and64 z2 (M - 1) hz2 (by omega)
      obtain ⟨G, hcw, hfw, HSW⟩ := HQ2.out.fam (off := off) hus ho.out
      clear hc2 hf2 hg2 HN HS HQ
      by_cases hyL : L ≤ y
      · have hyL' : (L : Int) ≤ (y : Int) := by omega
        obtain ⟨t, ht⟩ : ∃ t, y = L + t := ⟨y - L, by omega⟩
        have hyt : (y : Int) - (L : Int) = (t : Int) := by omega
        have htL : t < L := by omega
        have HT : Hid (y = L + t) := ht
        clear ht
        by_cases hit : i = a + t
        · subst hit
          go_wp2
          go_region
          all_goals go_wp2
          go_roundw
          case rel =>
            obtain ⟨us', hl', HR'⟩ := HSW.out 1 (a + t) (a + t) (by omega) (by omega)
            exact ⟨a + t + 1, us', by omega, by omega, by go_num, hl', HR', HS2.out.swap (by omega) _ _ _ _ _⟩
          case measure => simp [intOf]; omega
        · have hit2 : ¬ a + t = i := fun h => hit h.symm
          go_wp2
          go_region
          all_goals go_wp2
          go_roundw
          case rel =>
            obtain ⟨us', hl', HR'⟩ := HSW.out 1 i (a + t) (by omega) (by omega)
            exact ⟨i + 1, us', by omega, by omega, by go_num, hl', HR', HS2.out.swap (by omega) _ _ _ _ _⟩
          case measure => simp [intOf]; omega
      · have hyL' : ¬ (L : Int) ≤ (y : Int) := by omega
        have hyd : decide ((L : Int) ≤ (y : Int)) = false := decide_eq_false hyL'
        have hyd2 : decide (L ≤ y) = false := decide_eq_false hyL
        by_cases hit : i = a + y
        · subst hit
          go_wp2
          go_region
          all_goals go_wp2
          go_roundw
          case rel =>
            obtain ⟨us', hl', HR'⟩ := HSW.out 1 (a + y) (a + y) (by omega) (by omega)
            exact ⟨a + y + 1, us', by omega, by omega, by go_num, hl', HR', HS2.out.swap (by omega) _ _ _ _ _⟩
          case measure => simp [intOf]; omega
        · have hit2 : ¬ a + y = i := fun h => hit h.symm
          go_wp2
          go_region
          all_goals go_wp2
          go_roundw
          case rel =>
            obtain ⟨us', hl', HR'⟩ := HSW.out 1 i (a + y) (by omega) (by omega)
            exact ⟨i + 1, us', by omega, by omega, by go_num, hl', HR', HS2.out.swap (by omega) _ _ _ _ _⟩
          case measure => simp [intOf]; omega
    · have hd : decide ((i : Int) ≤ (a : Int) + (L : Int) / 4 * 2 + 1) = false := decide_eq_false (by omega)
      go_wp2
      exact bodyPost_ret (v := .tuple #[]) (by simp [results, Ybad.results26, go_sem]) rfl ⟨rfl, us, HQ.out⟩
end Go.Proofs.YbulkccziDoor
