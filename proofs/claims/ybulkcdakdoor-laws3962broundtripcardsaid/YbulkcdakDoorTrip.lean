import Derived.Test.YbulkcdakDoorDec
namespace Go.Proofs.YbulkcdakDoor
open Go.RowKit
def endL (k : Int) : List UInt8 := if k % 4 = 0 then [] else if k % 4 = 1 then [32] else if k % 4 = 2 then [9] else [10, 13]
def innerL (k : Int) : List UInt8 := if k % 4 = 0 then [32] else if k % 4 = 1 then [9] else if k % 4 = 2 then [32, 32] else [32, 11, 12, 13, 10]
def zerosL (k : Int) : List UInt8 := if k % 4 = 0 then [] else if k % 4 = 1 then [48] else if k % 4 = 2 then [48, 48] else [48, 48, 48]
theorem endL_len (k : Int) : (endL k).length ≤ 2 := by unfold endL; split <;> (try split) <;> (try split) <;> simp
theorem innerL_len (k : Int) : (innerL k).length ≤ 5 := by unfold innerL; split <;> (try split) <;> (try split) <;> simp
theorem zerosL_len (k : Int) : (zerosL k).length ≤ 3 := by unfold zerosL; split <;> (try split) <;> (try split) <;> simp
theorem ret_str' {l l' : List UInt8} (h : l' = l) : Ending.returned (.string ⟨l.toArray⟩) = .returned (.string ⟨l'.toArray⟩) := by rw [h]
set_option maxHeartbeats 400000 in
theorem end_any (k : Int) (hk : 0 ≤ k ∧ k ≤ 255) (w : World) : Calls Ybad.prog 6 #[.int .u8 k] w fun e w' => e = .returned (.string ⟨(endL k).toArray⟩) ∧ w' = w := by
  rcases (by omega : k % 4 = 0 ∨ k % 4 = 1 ∨ k % 4 = 2 ∨ k % 4 = 3) with h | h | h | h
  all_goals
    have HE : Hid (k % 4 = _) := h
    have h0 := h
    go_enter Ybad.func6, Ybad.ntmps6
    go_wp2
    go_ret
    exact ⟨ret_str' (by simp [endL, HE.out]), rfl⟩
set_option maxHeartbeats 400000 in
theorem inner_any (k : Int) (hk : 0 ≤ k ∧ k ≤ 255) (w : World) : Calls Ybad.prog 9 #[.int .u8 k] w fun e w' => e = .returned (.string ⟨(innerL k).toArray⟩) ∧ w' = w := by
  rcases (by omega : k % 4 = 0 ∨ k % 4 = 1 ∨ k % 4 = 2 ∨ k % 4 = 3) with h | h | h | h
  all_goals
    have HE : Hid (k % 4 = _) := h
    have h0 := h
    go_enter Ybad.func9, Ybad.ntmps9
    go_wp2
    go_ret
    exact ⟨ret_str' (by simp [innerL, HE.out]), rfl⟩
set_option maxHeartbeats 400000 in
theorem zeros_any (k : Int) (hk : 0 ≤ k ∧ k ≤ 255) (w : World) : Calls Ybad.prog 7 #[.int .u8 k] w fun e w' => e = .returned (.string ⟨(zerosL k).toArray⟩) ∧ w' = w := by
  rcases (by omega : k % 4 = 0 ∨ k % 4 = 1 ∨ k % 4 = 2 ∨ k % 4 = 3) with h | h | h | h
  all_goals
    have HE : Hid (k % 4 = _) := h
    have h0 := h
    go_enter Ybad.func7, Ybad.ntmps7
    go_wp2
    go_ret
    exact ⟨ret_str' (by simp [zerosL, HE.out]), rfl⟩

theorem endL_sp (k : Int) : ∀ c ∈ endL k, Lib.isSp c = true := by
  intro c hc
  unfold endL at hc
  split at hc
  · cases hc
  · split at hc
    · simp at hc; subst hc; rfl
    · split at hc
      · simp at hc; subst hc; rfl
      · simp at hc; rcases hc with rfl | rfl <;> rfl
theorem innerL_sp (k : Int) : ∀ c ∈ innerL k, Lib.isSp c = true := by
  intro c hc
  unfold innerL at hc
  split at hc
  · simp at hc; subst hc; rfl
  · split at hc
    · simp at hc; subst hc; rfl
    · split at hc
      · simp at hc; subst hc; rfl
      · simp at hc; rcases hc with rfl | rfl | rfl | rfl | rfl <;> rfl
theorem innerL_ne (k : Int) : innerL k ≠ [] := by unfold innerL; split <;> (try split) <;> (try split) <;> simp
theorem zerosL_48 (k : Int) : ∀ c ∈ zerosL k, c = 48 := by
  intro c hc
  unfold zerosL at hc
  split at hc
  · cases hc
  · split at hc
    · simpa using hc
    · split at hc
      · simpa using hc
      · simpa using hc
theorem fld_dig (k : Int) (v : Nat) : (zerosL k ++ decL v).all dig = true := by
  rw [List.all_append, decL_dig v, Bool.and_true, List.all_eq_true]
  intro c hc
  rw [zerosL_48 k c hc]
  rfl
theorem fld_ne (k : Int) (v : Nat) : zerosL k ++ decL v ≠ [] := by
  intro h
  exact decL_ne v (List.append_eq_nil_iff.1 h).2
theorem fld_good (k : Int) (v : Nat) (hv : v < 4294967296) : good (zerosL k ++ decL v) = true ∧ uOf (zerosL k ++ decL v) = v := by
  have hn : numF 0 (zerosL k ++ decL v) = v := by rw [zeros_num _ _ (zerosL_48 k), decL_num v (by omega)]
  have := good_num _ (fld_ne k v) (fld_dig k v) (by omega)
  rw [hn] at this
  exact this
theorem dig_all {l : List UInt8} (h : l.all dig = true) : ∀ c ∈ l, Lib.isSp c = false := fun c hc => dig_notSp c (List.all_eq_true.1 h c hc)
theorem dig_lt (c : UInt8) (h : dig c = true) : c.toNat < 128 := by
  unfold dig at h
  simp at h
  omega
theorem sp_lt (c : UInt8) (h : Lib.isSp c = true) : c.toNat < 128 := by
  rw [isSp_nat] at h
  simp at h
  omega
theorem idsR_all (f0 f1 f2 : List UInt8) (h0 : good f0 = true) (h1 : good f1 = true) (h2 : good f2 = true) : idsR f0 f1 f2 = #[.int .u64 (uOf f0), .int .u64 (uOf f1), .int .u64 (uOf f2)] ∧ okB f0 f1 f2 = true := by
  simp [idsR, goods, okB, h0, h1, h2, idsA, idAt]

theorem trip_ext (a b c : Nat) (s0 s1 s2 s3 z0 z1 z2 : Int) (ha : a < 4294967296) (hb : b < 4294967296) (hc : c < 4294967296) (w : World) (hg : Glob w) :
    Calls Ybad.prog 10 #[.string ((⟨(endL s0).toArray⟩ : ByteArray) ++ ⟨(zerosL z0).toArray⟩ ++ ⟨(decL a).toArray⟩ ++ ⟨(innerL s1).toArray⟩ ++ ⟨(zerosL z1).toArray⟩ ++ ⟨(decL b).toArray⟩ ++ ⟨(innerL s2).toArray⟩ ++ ⟨(zerosL z2).toArray⟩ ++ ⟨(decL c).toArray⟩ ++ ⟨(endL s3).toArray⟩)] w fun e w' =>
      e = .returned (.tuple #[.agg #[.int .u64 a, .int .u64 b, .int .u64 c], .bool true]) ∧ Below w.heap.size w w' := by
  have hl : ((⟨(endL s0).toArray⟩ : ByteArray) ++ ⟨(zerosL z0).toArray⟩ ++ ⟨(decL a).toArray⟩ ++ ⟨(innerL s1).toArray⟩ ++ ⟨(zerosL z1).toArray⟩ ++ ⟨(decL b).toArray⟩ ++ ⟨(innerL s2).toArray⟩ ++ ⟨(zerosL z2).toArray⟩ ++ ⟨(decL c).toArray⟩ ++ ⟨(endL s3).toArray⟩).data.toList
      = endL s0 ++ ((zerosL z0 ++ decL a) ++ (innerL s1 ++ ((zerosL z1 ++ decL b) ++ (innerL s2 ++ ((zerosL z2 ++ decL c) ++ endL s3))))) := by
    simp only [ByteArray.mk_append_mk, List.append_assoc]
  have hf := fields_three (endL s0) (zerosL z0 ++ decL a) (innerL s1) (zerosL z1 ++ decL b) (innerL s2) (zerosL z2 ++ decL c) (endL s3) (endL_sp s0) (innerL_sp s1) (innerL_sp s2) (endL_sp s3) (innerL_ne s1) (innerL_ne s2)
    (dig_all (fld_dig z0 a)) (dig_all (fld_dig z1 b)) (dig_all (fld_dig z2 c)) (fld_ne z0 a) (fld_ne z1 b) (fld_ne z2 c)
  generalize (⟨(endL s0).toArray⟩ : ByteArray) ++ ⟨(zerosL z0).toArray⟩ ++ ⟨(decL a).toArray⟩ ++ ⟨(innerL s1).toArray⟩ ++ ⟨(zerosL z1).toArray⟩ ++ ⟨(decL b).toArray⟩ ++ ⟨(innerL s2).toArray⟩ ++ ⟨(zerosL z2).toArray⟩ ++ ⟨(decL c).toArray⟩ ++ ⟨(endL s3).toArray⟩ = s at *
  have le0 := endL_len s0
  have le3 := endL_len s3
  have li1 := innerL_len s1
  have li2 := innerL_len s2
  have lz0 := zerosL_len z0
  have lz1 := zerosL_len z1
  have lz2 := zerosL_len z2
  have lda := decL_len a
  have ldb := decL_len b
  have ldc := decL_len c
  have hsz : s.size ≤ 100000 := by
    have : s.size = s.data.toList.length := (Array.length_toList (xs := s.data)).symm
    rw [this, hl]
    simp only [List.length_append]
    omega
  have hascii : ∀ (j : Nat) x, s.data.toList[j]? = some x → x.toNat < 128 := by
    intro j x hx
    have hm : x ∈ s.data.toList := List.mem_of_getElem? hx
    rw [hl] at hm
    simp only [List.mem_append] at hm
    have dg : ∀ (k : Int) (v : Nat), (x ∈ zerosL k ∨ x ∈ decL v) → x.toNat < 128 := fun k v h => dig_lt x (List.all_eq_true.1 (fld_dig k v) x (List.mem_append.2 h))
    rcases hm with h | h | h | h | h | h | h
    · exact sp_lt x (endL_sp s0 x h)
    · exact dg _ _ h
    · exact sp_lt x (innerL_sp s1 x h)
    · exact dg _ _ h
    · exact sp_lt x (innerL_sp s2 x h)
    · exact dg _ _ h
    · exact sp_lt x (endL_sp s3 x h)
  rw [← hl] at hf
  obtain ⟨ga, ua⟩ := fld_good z0 a ha
  obtain ⟨gb, ub⟩ := fld_good z1 b hb
  obtain ⟨gc, uc⟩ := fld_good z2 c hc
  have hr := ext_3 s w hsz hascii hg _ _ _ hf (by simp; omega) (by simp; omega) (by simp; omega)
  obtain ⟨e1, e2⟩ := idsR_all _ _ _ ga gb gc
  rw [e1, e2, ua, ub, uc] at hr
  exact hr

set_option maxHeartbeats 2000000 in
theorem trip_walk (a b c : Nat) (s0 s1 s2 s3 z0 z1 z2 : Int) (ha : a < 4294967296) (hb : b < 4294967296) (hc : c < 4294967296) (h0 : 0 ≤ s0 ∧ s0 ≤ 255) (h1 : 0 ≤ s1 ∧ s1 ≤ 255) (h2 : 0 ≤ s2 ∧ s2 ≤ 255) (h3 : 0 ≤ s3 ∧ s3 ≤ 255)
    (g0 : 0 ≤ z0 ∧ z0 ≤ 255) (g1 : 0 ≤ z1 ∧ z1 ≤ 255) (g2 : 0 ≤ z2 ∧ z2 ≤ 255) (w : World) (hg : Glob w) :
    Calls Ybad.prog 3 #[.int .u32 a, .int .u32 b, .int .u32 c, .int .u8 s0, .int .u8 s1, .int .u8 s2, .int .u8 s3, .int .u8 z0, .int .u8 z1, .int .u8 z2] w fun e w' => e = .returned (.bool true) ∧ Below w.heap.size w w' := by
  have HG : Hid (Glob w) := hg
  clear hg
  have le0 := endL_len s0
  have le3 := endL_len s3
  have li1 := innerL_len s1
  have li2 := innerL_len s2
  have lz0 := zerosL_len z0
  have lz1 := zerosL_len z1
  have lz2 := zerosL_len z2
  have lda := decL_len a
  have ldb := decL_len b
  have ldc := decL_len c
  go_enter Ybad.func3, Ybad.ntmps3
  go_wp2_with fail
  refine (end_any s0 h0 _).mono ?_
  rintro e w1 ⟨rfl, rfl⟩
  go_wp2_with fail
  refine (zeros_any z0 g0 _).mono ?_
  rintro e w1 ⟨rfl, rfl⟩
  go_wp2_with fail
  refine (dec_any a (by omega) _).mono ?_
  rintro e wa ⟨rfl, ba⟩
  go_wp2_with fail
  refine (inner_any s1 h1 _).mono ?_
  rintro e w1 ⟨rfl, rfl⟩
  go_wp2_with fail
  refine (zeros_any z1 g1 _).mono ?_
  rintro e w1 ⟨rfl, rfl⟩
  go_wp2_with fail
  refine (dec_any b (by omega) _).mono ?_
  rintro e wb ⟨rfl, bb⟩
  go_wp2_with fail
  refine (inner_any s2 h2 _).mono ?_
  rintro e w1 ⟨rfl, rfl⟩
  go_wp2_with fail
  refine (zeros_any z2 g2 _).mono ?_
  rintro e w1 ⟨rfl, rfl⟩
  go_wp2_with fail
  refine (dec_any c (by omega) _).mono ?_
  rintro e wc ⟨rfl, bc⟩
  go_wp2_with fail
  refine (end_any s3 h3 _).mono ?_
  rintro e w1 ⟨rfl, rfl⟩
  go_wp2_with fail
  have bel := (ba.trans (bb.mono ba.size)).trans (bc.mono (Nat.le_trans ba.size bb.size))
  refine (trip_ext a b c s0 s1 s2 s3 z0 z1 z2 ha hb hc _ (HG.out.below bel)).mono ?_
  rintro e wr ⟨rfl, br⟩
  have HB : Hid _ := bel.trans (br.mono bel.size)
  go_wp2
  go_ret
  exact ⟨rfl, HB.out.trans ((Below.refl _ _).alloc (by exact HB.out.size) _)⟩
end Go.Proofs.YbulkcdakDoor
