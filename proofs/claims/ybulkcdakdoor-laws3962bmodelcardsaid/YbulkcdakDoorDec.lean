import Derived.Test.YbulkcdakDoorExt
namespace Go.Proofs.YbulkcdakDoor
open Go.RowKit

/-! the plain side of zzs3962bdec -/
def digs (v : Nat) : Nat → List UInt8
  | 0 => []
  | k + 1 => dchar (v / 10 ^ k) :: digs v k
theorem digs_length (v : Nat) : ∀ k, (digs v k).length = k
  | 0 => rfl
  | k + 1 => by simp [digs, digs_length v k]
theorem digs_succ (v : Nat) : ∀ k, digs v (k + 1) = digs (v / 10) k ++ [dchar v]
  | 0 => by simp [digs]
  | k + 1 => by
    have ih := digs_succ v k
    rw [digs, ih, digs]
    have : v / 10 ^ (k + 1) = v / 10 / 10 ^ k := by rw [Nat.pow_succ', Nat.div_div_eq_div_mul]
    simp [this]
theorem decGo_zero : ∀ fuel, decGo fuel 0 = []
  | 0 => rfl
  | fuel + 1 => by simp [decGo]
theorem decGo_digs : ∀ (k fuel v : Nat), k ≤ fuel → v / 10 ^ k = 0 → (∀ j, j < k → v / 10 ^ j ≠ 0) → decGo fuel v = digs v k
  | 0, fuel, v, _, h0, _ => by
    have : v = 0 := by simpa using h0
    subst this
    simp [decGo_zero, digs]
  | k + 1, fuel, v, hf, h0, hj => by
    obtain ⟨f, rfl⟩ : ∃ f, fuel = f + 1 := ⟨fuel - 1, by omega⟩
    have hv : v ≠ 0 := by simpa using hj 0 (by omega)
    rw [decGo, if_neg hv, digs_succ]
    rw [decGo_digs k f (v / 10) (by omega) (by rw [Nat.div_div_eq_div_mul, ← Nat.pow_succ']; exact h0) (fun j h => by
      have := hj (j + 1) (by omega)
      rw [Nat.div_div_eq_div_mul, ← Nat.pow_succ']; exact this)]
def bufL (v k : Nat) : List Value := List.replicate (20 - k) (.int .u8 0) ++ (digs v k).map fun c => Value.int .u8 c.toNat
def buf (v k : Nat) : Array Value := (bufL v k).toArray
theorem buf_size (v k : Nat) (hk : k ≤ 20) : (buf v k).size = 20 := by simp [buf, bufL, digs_length]; omega
theorem buf_succ (v k : Nat) (hk : k < 20) : (buf v k).setIfInBounds (20 - k - 1) (.int .u8 (dchar (v / 10 ^ k)).toNat) = buf v (k + 1) := by
  have e : 20 - k = (20 - (k + 1)) + 1 := by omega
  unfold buf bufL
  rw [List.setIfInBounds_toArray]
  congr 1
  rw [e, Nat.add_sub_cancel, List.replicate_succ', List.append_assoc, List.set_append_right _ _ (by simp)]
  simp [digs]
theorem buf_start (v : Nat) : buf v 0 = #[.int .u8 0, .int .u8 0, .int .u8 0, .int .u8 0, .int .u8 0, .int .u8 0, .int .u8 0, .int .u8 0, .int .u8 0, .int .u8 0, .int .u8 0, .int .u8 0, .int .u8 0, .int .u8 0, .int .u8 0, .int .u8 0, .int .u8 0, .int .u8 0, .int .u8 0, .int .u8 0] := rfl
theorem buf_tail (v k : Nat) (j : Nat) (hj : j < k) : (buf v k)[20 - k + j]? = some (.int .u8 ((digs v k)[j]'(by rw [digs_length]; exact hj)).toNat) := by
  have hj' : j < (digs v k).length := by rw [digs_length]; exact hj
  simp [buf, bufL, hj']

theorem conv_any (w : World) (b off n c : Nat) (l : List UInt8) (hx : l.length = n) (h : ∀ j (hj : j < l.length), w.cell? ⟨b, off + j, none⟩ = some (.int .u8 (l[j]).toNat)) :
    (convert 30 9 (.slice (some ⟨b, off, none⟩) n c)).run Ybad.prog w = .ok (.string ⟨l.toArray⟩) w := by
  have hr := run_convert_bytes_arg (P := Ybad.prog) w 30 5 Ybad.underlying30 Ybad.underlying5 b off n c (l.map fun x => (x.toNat : Int)) (by simp [hx]) (fun j hj => by
      rw [h j (by omega)]
      simp [List.getD, show j < l.length by omega]) 9 Ybad.underlying9
  rw [hr]
  have e : strOfNums (l.map fun x => (x.toNat : Int)) = ⟨l.toArray⟩ := by
    have e1 : (l.map fun x => (x.toNat : Int)).map (fun n => UInt8.ofNat n.toNat) = l := by
      rw [List.map_map]
      conv => rhs; rw [← List.map_id l]
      apply List.map_congr_left
      intro x _
      simp
    unfold strOfNums
    rw [e1]
  rw [e]
theorem ret_str {l l' : List UInt8} (h : l = l') : Ending.returned (.string ⟨l.toArray⟩) = .returned (.string ⟨l'.toArray⟩) := by rw [h]
theorem arr37 : Ybad.prog.arrayLen 37 = 20 := by kernel_rfl
theorem elem37 : Ybad.prog.elem 37 = 5 := by kernel_rfl
theorem slice_dec (k : Nat) (hk : k ≤ 20) (hk0 : 0 < k) (b : Nat) (w : World) : (Instr.sliceAt 37 (.pointer (some ⟨b, 0, none⟩)) (some (.int .i64 ((20 - k : Nat) : Int))) none none).run Ybad.prog w = .ok (.slice (some ⟨b, 20 - k, none⟩) k k) w := by
  rw [run_sliceAt_array_l w 37 _ (by kernel_rfl) .i64 _ (by omega) (by rw [arr37]; omega), arr37, elem37, Ybad.sizeOf5]
  simp only [Result.andThen, slicedAt, Int.toNat_natCast]
  rw [if_neg (by omega), Addr.add_lit]
  simp
  omega
theorem dec_conv (v k b : Nat) (w : World) (hb : b = w.heap.size) : (convert 30 9 (.slice (some ⟨b, 20 - k, none⟩) k k)).run Ybad.prog (w.alloc (.cells (buf v k) 37)) = .ok (.string ⟨(digs v k).toArray⟩) (w.alloc (.cells (buf v k) 37)) := by
  subst hb
  refine conv_any _ w.heap.size (20 - k) k k (digs v k) (digs_length v k) (fun j hj => ?_)
  rw [digs_length] at hj
  have := buf_tail v k j hj
  simp [this]

set_option maxHeartbeats 1000000 in
set_option maxRecDepth 100000 in
theorem dec_any (v : Nat) (hv : v < 18446744073709551616) (w : World) :
    Calls Ybad.prog 8 #[.int .u64 v] w fun e w' => e = .returned (.string ⟨(decL v).toArray⟩) ∧ Below w.heap.size w w' := by
  by_cases h0 : v = 0
  · subst h0
    go_enter Ybad.func8, Ybad.ntmps8
    go_wp2
    go_ret
    exact ⟨rfl, Below.refl _ _⟩
  · have hd : decL v = decGo 20 v := by simp [decL, h0]
    rw [hd]
    have HD : Hid (decL v = decGo 20 v) := hd
    clear hd
    have hne : (((v : Nat) : Int) == 0) = false := by simp; omega
    go_enter Ybad.func8, Ybad.ntmps8
    go_wp2
    go_loopw [0, 4] (fun x i wr => ∃ k n : Nat, k ≤ 20 ∧ x = .int .u64 n ∧ i = .int .i64 ((20 - k : Nat) : Int) ∧ Hid (n = v / 10 ^ k) ∧ Hid (∀ j, j < k → v / 10 ^ j ≠ 0) ∧ wr = w.alloc (.cells (buf v k) 37)) (fun _ i _ => (intOf i).toNat)
    case atStart => exact ⟨0, v, by omega, rfl, rfl, by show v = v / 10 ^ 0; simp, fun j hj => by omega, rfl⟩
    case round =>
      obtain ⟨k, n, hk, rfl, rfl, hn, hj, rfl⟩ := hrel
      by_cases hz : n = 0
      · subst hz
        have hdg : decGo 20 v = digs v k := decGo_digs k 20 v hk hn.out.symm hj.out
        have hk0 : 0 < k := by
          rcases Nat.eq_zero_or_pos k with h | h
          · subst h; have := hn.out; simp at this; omega
          · exact h
        have hsl := slice_dec k hk hk0
        have hcv := dec_conv v k w.heap.size w rfl
        have HG : Hid (decGo 20 v = digs v k) := hdg
        clear hdg
        go_wp2
        go_ret
        exact ⟨ret_str HG.out.symm, (Below.refl _ _).alloc (Nat.le_refl _) _⟩
      · have hk20 : k < 20 := by
          rcases Nat.lt_or_ge k 20 with h | h
          · exact h
          · have : v / 10 ^ k = 0 := by
              have : k = 20 := by omega
              subst this
              apply Nat.div_eq_of_lt
              omega
            exact absurd (hn.out.trans this) hz
        have hn64 : n < 18446744073709551616 := by
          have h1 := Nat.div_le_self v (10 ^ k)
          rw [← hn.out] at h1
          omega
        have hsz := buf_size v k hk
        have hpos : (0 : Int) < (n : Int) := by omega
        obtain ⟨x0, hx0⟩ : ∃ x0, (buf v k)[20 - k - 1]? = some x0 := ⟨_, Array.getElem?_eq_getElem (by omega)⟩
        have HB : Hid ((buf v k).setIfInBounds (20 - k - 1) (.int .u8 (dchar (v / 10 ^ k)).toNat) = buf v (k + 1)) := buf_succ v k hk20
        go_wp2
        go_roundw
        case rel =>
          refine ⟨k + 1, n / 10, by omega, by go_num, by go_num, ?_, ?_, ?_⟩
          · show n / 10 = v / 10 ^ (k + 1)
            rw [hn.out, Nat.div_div_eq_div_mul, ← Nat.pow_succ]
          · intro j hj'
            rcases Nat.lt_or_ge j k with h | h
            · exact hj.out j h
            · have : j = k := by omega
              subst this
              rw [← hn.out]
              exact hz
          · rw [← HB.out, ← hn.out, dchar_toNat]
            congr 4
        case measure => simp [intOf]; omega
end Go.Proofs.YbulkcdakDoor
