import Derived.Test.YbulkcdakFmtBase
namespace Go.Proofs.YbulkcdakFmt
open Go.RowKit
def chr (z : Int) : Int := if 33 + z % 94 = 92 then 33 else 33 + z % 94
def arr (zs : List Int) (n k : Nat) : Array Value := ((List.range n).map fun j => if j < k then .int .u8 (chr (zs.getD j 0)) else .int .u8 0).toArray
theorem arr_size (zs : List Int) (n k : Nat) : (arr zs n k).size = n := by simp [arr]
theorem arr_zero (zs : List Int) (n : Nat) : zeros n = arr zs n 0 := by
  apply Array.ext'
  rw [zeros, toList_madeCells_one]
  simp [arr, List.map_const']
theorem arr_at (zs : List Int) (n k j : Nat) (hj : j < n) : (arr zs n k)[j]? = some (if j < k then .int .u8 (chr (zs.getD j 0)) else .int .u8 0) := by
  simp [arr, hj]
theorem arr_succ (zs : List Int) (n k : Nat) : arr zs n (k + 1) = (arr zs n k).setIfInBounds k (.int .u8 (chr (zs.getD k 0))) := by
  apply Array.ext_getElem?
  intro i
  rw [Array.getElem?_setIfInBounds]
  by_cases hi : i < n
  · rw [arr_at _ _ _ _ hi, arr_at _ _ _ _ hi, arr_size]
    by_cases hik : k = i
    · subst hik; simp [hi]
    · have : (i < k + 1) = (i < k) := by simp; omega
      simp [hik, this]
  · have h1 : (arr zs n (k + 1))[i]? = none := by apply Array.getElem?_eq_none; rw [arr_size]; omega
    have h2 : (arr zs n k)[i]? = none := by apply Array.getElem?_eq_none; rw [arr_size]; omega
    rw [h1, h2, arr_size]
    by_cases hik : k = i
    · subst hik; simp [hi]
    · simp [hik]
def outs (zs : List Int) (n : Nat) : List Int := (List.range n).map fun j => chr (zs.getD j 0)
theorem arr_full (zs : List Int) (n : Nat) : arr zs n n = (nums (outs zs n)).toArray := by
  unfold arr nums outs
  rw [List.map_map]
  congr 1
  apply List.map_congr_left
  intro j hj
  have : j < n := by simpa using hj
  simp [this]

theorem chr_bd (z : Int) (_h : 0 ≤ z ∧ z ≤ 255) : 0 ≤ chr z ∧ chr z ≤ 255 ∧ plainB (chr z) = true := by
  unfold chr plainB
  split
  · decide
  · refine ⟨by omega, by omega, ?_⟩
    simp
    omega
theorem esc_outs (zs : List Int) (n : Nat) (hz : ∀ j : Nat, 0 ≤ zs[j]?.getD 0 ∧ zs[j]?.getD 0 ≤ 255) : esc (outs zs n) = (outs zs n).map byteOfInt := by
  apply esc_plain
  intro x hx
  simp [outs] at hx
  obtain ⟨j, _, rfl⟩ := hx
  exact (chr_bd _ (hz j)).2.2
theorem outs_bd (zs : List Int) (n : Nat) (hz : ∀ j : Nat, 0 ≤ zs[j]?.getD 0 ∧ zs[j]?.getD 0 ≤ 255) (j : Nat) : 0 ≤ (outs zs n)[j]?.getD 0 ∧ (outs zs n)[j]?.getD 0 ≤ 255 := by
  unfold outs
  by_cases h : j < n
  · have := chr_bd _ (hz j)
    simp [h]
    omega
  · simp [h]
theorem byte_same (es : List UInt8) (j : Nat) (x : Int) (hp : j < (⟨es.toArray⟩ : ByteArray).size) (h : es[j]? = some (byteOfInt x)) (hx : 0 ≤ x ∧ x ≤ 255) :
    (((((⟨es.toArray⟩ : ByteArray)[j]'hp).toNat : Nat) : Int) != x) = false := by
  obtain ⟨h1, h2⟩ := List.getElem?_eq_some_iff.1 h
  have e : (⟨es.toArray⟩ : ByteArray)[j]'hp = es[j] := rfl
  rw [e, h2, byteOfInt_toNat x hx]
  simp
set_option maxHeartbeats 400000 in
theorem printable_walk (HE : EscSaid) (F : Stop.Interp) (a0 : Option Addr) (n cap : Nat) (zs : List Int) (w : World) (hF : F.told.answers w.tape) (hn : n ≤ 1024)
   (hc : ∀ j, j < n → ∃ b off, a0 = some ⟨b, off, none⟩ ∧ b < w.heap.size ∧ w.cell? ⟨b, off + j, none⟩ = some (.int .u8 (zs.getD j 0)))
   (hz : ∀ j : Nat, 0 ≤ zs[j]?.getD 0 ∧ zs[j]?.getD 0 ≤ 255) :
    Calls Ybaf.prog 3 #[.slice a0 n cap] w fun e w' => e = .returned (.bool true) ∧ Below w.heap.size w w' := by
  have hmk := make_any n hn
  have hcp := fun ty => copy_new (w.alloc (.cells (arr zs n n) 5)) (w.heap.size + 1) (by simp) ty (some ⟨w.heap.size, 0, none⟩) n n (outs zs n) (by simp [outs]) (zeros n) (zeros_size n) (fun j hj => ⟨_, rfl, by rw [Addr.add_lit]; simp [arr_at, hj, outs]⟩)
  have HF : Hid (F.told.answers w.tape) := hF
  clear hF
  go_enter Ybaf.func3, Ybaf.ntmps3
  go_wp2
  go_loopw [4] (fun i wr => ∃ k : Nat, k ≤ n ∧ i = .int .i64 k ∧ wr = w.alloc (.cells (arr zs n k) 5)) (fun i _ => n - (intOf i).toNat)
  case atStart => exact ⟨0, Nat.zero_le _, rfl, by rw [arr_zero]⟩
  case round =>
    obtain ⟨k, hk, rfl, rfl⟩ := hrel
    by_cases hlt : k < n
    · clear hcp
      obtain ⟨b, off, rfl, hb, hcx⟩ := hc k hlt
      clear hc
      have hsz := arr_size zs n k
      have hzk := hz k
      go_wp2
      · go_roundw
        case rel =>
          have h1 : (33 + zs[k]?.getD 0 % 94 == 92) = true := by assumption
          refine ⟨k + 1, by omega, by go_num, ?_⟩
          rw [arr_succ]
          simp at h1
          simp [chr, h1]
        case measure => simp [intOf]; omega
      · go_roundw
        case rel =>
          have h1 : (33 + zs[k]?.getD 0 % 94 == 92) = false := by assumption
          refine ⟨k + 1, by omega, by go_num, ?_⟩
          rw [arr_succ]
          simp at h1
          simp [chr, h1]
        case measure => simp [intOf]; omega
    · have : k = n := by omega
      subst this
      clear hc
      go_wp2_with fail
      refine (HE F _ k k (outs zs k) _ (by exact HF.out) (by simp [outs]) hn ?h1 ?h2).mono ?_
      case h1 => intro x hx; simp [outs] at hx; obtain ⟨j, _, rfl⟩ := hx; have := chr_bd _ (hz j); omega
      case h2 => exact fun j hj => ⟨_, _, rfl, by simp; omega, by simp [arr_at, hj, outs]⟩
      rintro e w1 ⟨rfl, hb1⟩
      have hbc : ∀ j, j < k → w1.cell? ⟨w.heap.size, j, none⟩ = some (.int .u8 ((outs zs k).getD j 0)) := fun j hj => by
        rw [hb1.cell (by simp; omega)]; simp [arr_at, hj, outs]
      have hkc : ∀ j, j < k → w1.cell? ⟨w.heap.size + 1, j, none⟩ = some (.int .u8 ((outs zs k).getD j 0)) := fun j hj => by
        rw [hb1.cell (by simp)]; simp [nums, hj, outs]
      have hbel : Below w.heap.size w w1 := (((Below.refl _ w).alloc (Nat.le_refl _) _).alloc (by simp) _).trans (hb1.mono (by simp; omega))
      have hsz : (esc (outs zs k)).length = k := by rw [esc_outs zs k hz]; simp [outs]
      have hel : ∀ j (hj : j < k), (esc (outs zs k))[j]? = some (byteOfInt ((outs zs k).getD j 0)) := fun j hj => by
        rw [esc_outs zs k hz]; simp [outs, hj]
      generalize esc (outs zs k) = es at *
      go_wp2_with fail
      refine (equal_any _ _ k k k k (outs zs k) (outs zs k) _ (by simp [outs]) (by simp [outs]) (fun j hj => ⟨_, rfl, by rw [Addr.add_lit]; simpa using hbc j hj⟩) (fun j hj => ⟨_, rfl, by rw [Addr.add_lit]; simpa using hkc j hj⟩)).mono ?_
      rintro e w2 ⟨rfl, rfl⟩
      go_wp2
      go_loopw [8] (fun i wr => ∃ j : Nat, j ≤ k ∧ i = .int .i64 j ∧ ∃ nq, wr = w2.drewN nq) (fun i _ => k - (intOf i).toNat)
      case atStart => exact ⟨0, Nat.zero_le _, rfl, 0, rfl⟩
      case round =>
        obtain ⟨j, hj, rfl, nq, rfl⟩ := hrel
        by_cases hjl : j < k
        · have hjc := hkc j hjl
          have hd : (((((⟨es.toArray⟩ : ByteArray)[j]'(by show j < es.toArray.size; simp; omega)).toNat : Nat) : Int) != (outs zs k)[j]?.getD 0) = false := by
            have h1 := hel j hjl
            have h2 := (outs_bd zs k hz j)
            exact byte_same es j _ _ (by simpa using h1) h2
          go_wp2
          go_quiet (fail)
          go_wp2
          go_roundw
          case rel => exact ⟨j + 1, by omega, by go_num, _, rfl⟩
          case measure => simp [intOf]; omega
        · go_wp2
          go_ret
          exact ⟨rfl, below_drewN hbel _⟩
end Go.Proofs.YbulkcdakFmt
