import Derived.Test.YbulkcdakFmtBase
namespace Go.Proofs.YbulkcdakFmt
open Go.RowKit
set_option maxHeartbeats 400000 in
theorem plain_any (c : Int) (w : World) :
    Calls Ybaf.prog 7 #[.int .u8 c] w fun e w' => e = .returned (.bool (plainB c)) ∧ w' = w := by
  go_enter Ybaf.func7, Ybaf.ntmps7
  go_wp2
  · have h1 : 32 < c := by assumption
    have h2 : c < 127 := by assumption
    go_ret
    exact ⟨by simp [plainB, h1, h2], rfl⟩
  · have h2 : 127 ≤ c := by assumption
    have h3 : ¬ c < 127 := by omega
    go_ret
    exact ⟨by simp [plainB, h3], rfl⟩
  · have h1 : c ≤ 32 := by assumption
    have h3 : ¬ 32 < c := by omega
    go_ret
    exact ⟨by simp [plainB, h3], rfl⟩
theorem esc_split (zs : List Int) (k : Nat) (h : ∀ x ∈ zs.take k, plainB x = true) : ∃ r, esc zs = (zs.take k).map byteOfInt ++ r ∧ (zs.length ≤ k → r = []) := by
  refine ⟨esc (zs.drop k), ?_, ?_⟩
  · conv => lhs; rw [← List.take_append_drop k zs]
    rw [esc_append, esc_plain _ h]
  · intro hk
    rw [List.drop_eq_nil_of_le hk]
    rfl
set_option maxHeartbeats 400000 in
theorem prefix_walk (HE : EscSaid) (F : Stop.Interp) (a0 : Option Addr) (n cap : Nat) (zs : List Int) (w : World) (hF : F.told.answers w.tape) (hn : n ≤ 1024) (hzn : zs.length = n)
   (hc : ∀ j, j < n → ∃ b off, a0 = some ⟨b, off, none⟩ ∧ b < w.heap.size ∧ w.cell? ⟨b, off + j, none⟩ = some (.int .u8 (zs.getD j 0)))
   (hz : ∀ x ∈ zs, 0 ≤ x ∧ x ≤ 255) :
    Calls Ybaf.prog 4 #[.slice a0 n cap] w fun e w' => e = .returned (.bool true) ∧ Below w.heap.size w w' := by
  have hmk := make_any n hn
  have hcp1 := fun ty => copy_new w w.heap.size rfl ty a0 n cap zs hzn (zeros n) (zeros_size n) (fun j hj => by
    obtain ⟨b, off, rfl, hb, h⟩ := hc j hj
    exact ⟨_, rfl, by rw [Addr.add_lit]; exact h⟩)
  have hcp2 := fun ty => copy_new (w.alloc (.cells (nums zs).toArray 5)) (w.heap.size + 1) (by simp) ty a0 n cap zs hzn (zeros n) (zeros_size n) (fun j hj => by
    obtain ⟨b, off, rfl, hb, h⟩ := hc j hj
    exact ⟨_, rfl, by rw [Addr.add_lit]; rw [cell_later ((Below.refl _ w).alloc (Nat.le_refl _) _) h]⟩)
  have HF : Hid (F.told.answers w.tape) := hF
  clear hF hc
  go_enter Ybaf.func4, Ybaf.ntmps4
  go_wp2
  have hcell : ∀ j, j < n → ((w.alloc (Obj.cells (nums zs).toArray 5)).alloc (Obj.cells (nums zs).toArray 5)).cell? ⟨w.heap.size, j, none⟩ = some (.int .u8 (zs.getD j 0)) := fun j hj => by
    simp [nums, hzn, hj]
  go_loopw [5] (fun i wr => ∃ k : Nat, k ≤ n ∧ i = .int .i64 k ∧ wr = (w.alloc (Obj.cells (nums zs).toArray 5)).alloc (Obj.cells (nums zs).toArray 5) ∧ ∀ x ∈ zs.take k, plainB x = true) (fun i _ => n - (intOf i).toNat)
  case atStart => exact ⟨0, Nat.zero_le _, rfl, rfl, by simp⟩
  case round =>
    obtain ⟨k, hk, rfl, rfl, hpl⟩ := hrel
    by_cases hlt : k < n
    · have hcx := hcell k hlt
      go_wp2_with (go_at_call 7; refine (plain_any _ _).mono ?_; rintro e w' ⟨rfl, rfl⟩)
      · go_roundw
        case rel =>
          have hp : plainB zs[k] = true := by assumption
          refine ⟨k + 1, by omega, by go_num, trivial, ?_⟩
          intro x hx
          rw [List.take_succ_eq_append_getElem (by omega)] at hx
          rcases List.mem_append.1 hx with h | h
          · exact hpl x h
          · rw [List.mem_singleton.1 h]; exact hp
        case measure => simp [intOf]; omega
      · refine (HE F _ n n zs _ (by exact HF.out) hzn hn hz ?h2).mono ?_
        case h2 => exact fun j hj => ⟨_, _, rfl, by simp, by simp [nums, hzn, hj]⟩
        rintro e w1 ⟨rfl, hb1⟩
        have hkc : ∀ j, j < n → w1.cell? ⟨w.heap.size, j, none⟩ = some (.int .u8 (zs.getD j 0)) := fun j hj => by
          rw [hb1.cell (by simp; omega)]; simp [nums, hj, hzn]
        have hic : ∀ j, j < n → w1.cell? ⟨w.heap.size + 1, j, none⟩ = some (.int .u8 (zs.getD j 0)) := fun j hj => by
          rw [hb1.cell (by simp)]; simp [nums, hj, hzn]
        have hbel : Below w.heap.size w w1 := (((Below.refl _ w).alloc (Nat.le_refl _) _).alloc (by simp) _).trans (hb1.mono (by simp; omega))
        have hcv := conv_any w1 (some ⟨w.heap.size, 0, none⟩) k n (zs.take k) (by simp; omega) (fun j hj => ⟨_, rfl, by rw [Addr.add_lit, Nat.zero_add, hkc j (by omega)]; simp [hj]⟩)
        have hcv' := conv_any w1 (some ⟨w.heap.size, 0, none⟩) n n zs hzn (fun j hj => ⟨_, rfl, by rw [Addr.add_lit, Nat.zero_add]; exact hkc j hj⟩)
        obtain ⟨r, hr, hrn⟩ := esc_split zs k hpl
        have hel := esc_le zs
        rw [hr] at hel
        simp only [List.length_append] at hel
        rw [hr]
        have hne : ((k : Int) == (n : Int)) = false := by simp; omega
        have hlp : ((zs.take k).map byteOfInt).length = k := by simp; omega
        generalize (zs.take k).map byteOfInt = p at *
        clear hcell hcp1 hcp2 hb1 hr
        go_wp2_with fail
        refine (equal_any _ _ n n n n zs zs _ hzn hzn (fun j hj => ⟨_, rfl, by rw [Addr.add_lit, Nat.zero_add]; exact hic j hj⟩) (fun j hj => ⟨_, rfl, by rw [Addr.add_lit, Nat.zero_add]; exact hkc j hj⟩)).mono ?_
        rintro e w2 ⟨rfl, rfl⟩
        go_wp2_with fail
        refine (hp_true p r _ (by omega)).mono ?_
        rintro e w3 ⟨rfl, rfl⟩
        go_wp2
        go_ret
        exact ⟨rfl, hbel⟩
    · have : k = n := by omega
      subst this
      rw [List.take_of_length_le (by omega)] at hpl
      have hr := esc_plain zs hpl
      go_wp2_with fail
      refine (HE F _ k k zs _ (by exact HF.out) hzn hn hz ?h2).mono ?_
      case h2 => exact fun j hj => ⟨_, _, rfl, by simp, by simp [nums, hzn, hj]⟩
      rintro e w1 ⟨rfl, hb1⟩
      have hkc : ∀ j, j < k → w1.cell? ⟨w.heap.size, j, none⟩ = some (.int .u8 (zs.getD j 0)) := fun j hj => by
        rw [hb1.cell (by simp; omega)]; simp [nums, hj, hzn]
      have hic : ∀ j, j < k → w1.cell? ⟨w.heap.size + 1, j, none⟩ = some (.int .u8 (zs.getD j 0)) := fun j hj => by
        rw [hb1.cell (by simp)]; simp [nums, hj, hzn]
      have hbel : Below w.heap.size w w1 := (((Below.refl _ w).alloc (Nat.le_refl _) _).alloc (by simp) _).trans (hb1.mono (by simp; omega))
      have hcv' := conv_any w1 (some ⟨w.heap.size, 0, none⟩) k k zs hzn (fun j hj => ⟨_, rfl, by rw [Addr.add_lit, Nat.zero_add]; exact hkc j hj⟩)
      have hlp : (zs.map byteOfInt).length = k := by simp; omega
      rw [hr]
      have heq : ((k : Int) == (k : Int)) = true := by simp
      have hpp := fun w => hp_true (zs.map byteOfInt) [] w (by simp; omega)
      rw [List.append_nil] at hpp
      have HP : Hid (∀ w, Calls Ybaf.prog 8 #[.string ⟨(zs.map byteOfInt).toArray⟩, .string ⟨(zs.map byteOfInt).toArray⟩] w fun e w' => e = .returned (.bool true) ∧ w' = w) := hpp
      clear hcell hcp1 hcp2 hb1 hr hpp
      go_wp2_with fail
      refine (equal_any _ _ k k k k zs zs _ hzn hzn (fun j hj => ⟨_, rfl, by rw [Addr.add_lit, Nat.zero_add]; exact hic j hj⟩) (fun j hj => ⟨_, rfl, by rw [Addr.add_lit, Nat.zero_add]; exact hkc j hj⟩)).mono ?_
      rintro e w2 ⟨rfl, rfl⟩
      generalize zs.map byteOfInt = p at *
      go_wp2_with fail
      refine (HP.out _).mono ?_
      rintro e w3 ⟨rfl, rfl⟩
      go_wp2
      go_ret
      exact ⟨rfl, hbel⟩
end Go.Proofs.YbulkcdakFmt
