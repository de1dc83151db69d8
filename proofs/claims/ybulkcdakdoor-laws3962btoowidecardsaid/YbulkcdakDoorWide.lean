import Derived.Test.YbulkcdakDoorDec
import Derived.LoopN
import Derived.Laws.BitsAllLaws
import Derived.Deep.RegionHeld3
import Derived.Deep.QuietTactic
import Derived.BigQuiet
namespace Go.Proofs.YbulkcdakDoor
open Go.RowKit
theorem big_ge (x : Nat) : 4294967296 ≤ x ||| 4294967296 := Nat.right_le_or
theorem big_lt (x : Nat) (h : x < 18446744073709551616) : x ||| 4294967296 < 18446744073709551616 := Nat.or_lt_two_pow (n := 64) h (by omega)
theorem or_big (x : Int) (h0 : 0 ≤ x) (h1 : x < 18446744073709551616) : ∃ big : Nat, bits .or .u64 x 4294967296 = (big : Int) ∧ 4294967296 ≤ big ∧ big < 18446744073709551616 :=
  ⟨_, u64_or x 4294967296 h0 h1 (by omega) (by omega), big_ge _, big_lt _ (by omega)⟩

def Vals (w : World) (v0 v1 v2 : Nat) (wx : World) : Prop := wx.heap[w.heap.size]? = some (.cells #[.int .u64 v0, .int .u64 v1, .int .u64 v2] 26 (0, 0)) ∧ Below w.heap.size w wx
theorem Vals.cell {w : World} {v0 v1 v2 : Nat} {wx : World} (h : Vals w v0 v1 v2 wx) : wx.cell? ⟨w.heap.size, 0, none⟩ = some (.int .u64 v0) ∧ wx.cell? ⟨w.heap.size, 1, none⟩ = some (.int .u64 v1) ∧ wx.cell? ⟨w.heap.size, 2, none⟩ = some (.int .u64 v2) := by
  simp [World.cell?, h.1]
theorem Vals.lt {w : World} {v0 v1 v2 : Nat} {wx : World} (h : Vals w v0 v1 v2 wx) : w.heap.size < wx.heap.size := (Array.getElem?_eq_some_iff.1 h.1).1
theorem Vals.later {w : World} {v0 v1 v2 : Nat} {wx wy : World} (h : Vals w v0 v1 v2 wx) (hb : Below wx.heap.size wx wy) : Vals w v0 v1 v2 wy := by
  have hl := h.lt
  exact ⟨by rw [hb.block _ hl]; exact h.1, h.2.trans (hb.mono (by omega))⟩
theorem Vals.drew {w : World} {v0 v1 v2 : Nat} {wx : World} (h : Vals w v0 v1 v2 wx) : Vals w v0 v1 v2 wx.drew := ⟨h.1, h.2.drew⟩
theorem Vals.start (w : World) (v0 v1 v2 : Nat) (o : Obj) : Vals w v0 v1 v2 ((w.alloc (.cells #[.int .u64 v0, .int .u64 v1, .int .u64 v2] 26)).alloc o) := by
  refine ⟨?_, ((Below.refl _ _).alloc (Nat.le_refl _) _).alloc (by simp) _⟩
  rw [heap_alloc_old _ _ (by simp), heap_alloc_new]
theorem sw_of {w : World} {v0 v1 v2 : Nat} {wx : World} (h : Vals w v0 v1 v2 wx) : wx.cell? ⟨w.heap.size, 0, none⟩ = some (.int .u64 v0) ∧ wx.cell? ⟨w.heap.size, 1, none⟩ = some (.int .u64 v1) ∧ wx.cell? ⟨w.heap.size, 2, none⟩ = some (.int .u64 v2) ∧ Hid (Vals w v0 v1 v2 wx) :=
  ⟨h.cell.1, h.cell.2.1, h.cell.2.2, h⟩
theorem dec_vals (w : World) (v0 v1 v2 v : Nat) (hv : v < 18446744073709551616) (wx : World) (h : wx.cell? ⟨w.heap.size, 0, none⟩ = some (.int .u64 v0) ∧ wx.cell? ⟨w.heap.size, 1, none⟩ = some (.int .u64 v1) ∧ wx.cell? ⟨w.heap.size, 2, none⟩ = some (.int .u64 v2) ∧ Hid (Vals w v0 v1 v2 wx)) :
    Calls Ybad.prog 8 #[.int .u64 v] wx fun e w' => e = .returned (.string ⟨(decL v).toArray⟩) ∧ Hid (Vals w v0 v1 v2 w') :=
  (dec_any v hv wx).mono fun _ _ ⟨h1, h2⟩ => ⟨h1, h.2.2.2.out.later h2⟩

theorem glob_of {w : World} (hg : Glob w) {v0 v1 v2 : Nat} {wx : World} (h : wx.cell? ⟨w.heap.size, 0, none⟩ = some (.int .u64 v0) ∧ wx.cell? ⟨w.heap.size, 1, none⟩ = some (.int .u64 v1) ∧ wx.cell? ⟨w.heap.size, 2, none⟩ = some (.int .u64 v2) ∧ Hid (Vals w v0 v1 v2 wx)) : Glob wx :=
  hg.below h.2.2.2.out.2
theorem later_of {w : World} {v0 v1 v2 : Nat} {wx wy : World} (hb : Below wx.heap.size wx wy) (h : wx.cell? ⟨w.heap.size, 0, none⟩ = some (.int .u64 v0) ∧ wx.cell? ⟨w.heap.size, 1, none⟩ = some (.int .u64 v1) ∧ wx.cell? ⟨w.heap.size, 2, none⟩ = some (.int .u64 v2) ∧ Hid (Vals w v0 v1 v2 wx)) : Vals w v0 v1 v2 wy :=
  h.2.2.2.out.later hb
theorem fin_below {w : World} {v0 v1 v2 : Nat} {wx : World} (h : Vals w v0 v1 v2 wx) (o : Obj) (a : Nat) : Below w.heap.size w ((wx.alloc o).drewN a) :=
  have := h.lt
  below_drewN (h.2.alloc (by omega) o) a
theorem dec_good (v : Nat) (hv : v < 4294967296) : good (decL v) = true ∧ uOf (decL v) = v := by
  have hn := decL_num v (by omega)
  have := good_num _ (decL_ne v) (decL_dig v) (by omega)
  rw [hn] at this
  exact this
theorem dec_bad (v : Nat) (h1 : 4294967296 ≤ v) (h2 : v < 18446744073709551616) : good (decL v) = false := by
  have hn := decL_num v h2
  exact bad_num _ (decL_ne v) (decL_dig v) (by omega)
theorem dg_all {l : List UInt8} (h : l.all dig = true) : ∀ c ∈ l, Lib.isSp c = false := fun c hc => dig_notSp c (List.all_eq_true.1 h c hc)
theorem dg_lt (c : UInt8) (h : dig c = true) : c.toNat < 128 := by
  unfold dig at h
  simp at h
  omega
theorem wide_ext (v0 v1 v2 : Nat) (w : World) (hg : Glob w) :
    Calls Ybad.prog 10 #[.string ((⟨(decL v0).toArray⟩ : ByteArray) ++ ⟨#[32]⟩ ++ ⟨(decL v1).toArray⟩ ++ ⟨#[9]⟩ ++ ⟨(decL v2).toArray⟩)] w fun e w' =>
      e = .returned (.tuple #[.agg (idsR (decL v0) (decL v1) (decL v2)), .bool (okB (decL v0) (decL v1) (decL v2))]) ∧ Below w.heap.size w w' := by
  have hl : ((⟨(decL v0).toArray⟩ : ByteArray) ++ ⟨#[32]⟩ ++ ⟨(decL v1).toArray⟩ ++ ⟨#[9]⟩ ++ ⟨(decL v2).toArray⟩).data.toList = [] ++ (decL v0 ++ ([32] ++ (decL v1 ++ ([9] ++ (decL v2 ++ []))))) := by
    have e1 : (⟨#[32]⟩ : ByteArray) = ⟨[(32 : UInt8)].toArray⟩ := rfl
    have e2 : (⟨#[9]⟩ : ByteArray) = ⟨[(9 : UInt8)].toArray⟩ := rfl
    rw [e1, e2]
    simp only [ByteArray.mk_append_mk, List.append_assoc, List.nil_append, List.append_nil]
  have hf := fields_three [] (decL v0) [32] (decL v1) [9] (decL v2) [] (fun c hc => by cases hc) (fun c hc => by simp at hc; subst hc; rfl) (fun c hc => by simp at hc; subst hc; rfl) (fun c hc => by cases hc) (by simp) (by simp)
    (dg_all (decL_dig v0)) (dg_all (decL_dig v1)) (dg_all (decL_dig v2)) (decL_ne v0) (decL_ne v1) (decL_ne v2)
  generalize (⟨(decL v0).toArray⟩ : ByteArray) ++ ⟨#[32]⟩ ++ ⟨(decL v1).toArray⟩ ++ ⟨#[9]⟩ ++ ⟨(decL v2).toArray⟩ = s at *
  have l0 := decL_len v0
  have l1 := decL_len v1
  have l2 := decL_len v2
  have hsz : s.size ≤ 100000 := by
    have : s.size = s.data.toList.length := (Array.length_toList (xs := s.data)).symm
    rw [this, hl]
    simp only [List.length_append, List.length_cons, List.length_nil]
    omega
  have hascii : ∀ (j : Nat) x, s.data.toList[j]? = some x → x.toNat < 128 := by
    intro j x hx
    have hm : x ∈ s.data.toList := List.mem_of_getElem? hx
    rw [hl] at hm
    simp only [List.mem_append] at hm
    have dg : ∀ v : Nat, x ∈ decL v → x.toNat < 128 := fun v h => dg_lt x (List.all_eq_true.1 (decL_dig v) x h)
    rcases hm with h | h | h | h | h | h | h
    · cases h
    · exact dg _ h
    · simp at h; subst h; decide
    · exact dg _ h
    · simp at h; subst h; decide
    · exact dg _ h
    · cases h
  rw [← hl] at hf
  exact ext_3 s w hsz hascii hg _ _ _ hf (by omega) (by omega) (by omega)

set_option maxHeartbeats 4000000 in
theorem wide_walk_0 (a b : Nat) (x p : Int) (ha : a < 4294967296) (hb : b < 4294967296) (hx0 : 0 ≤ x) (hx1 : x < 18446744073709551616) (hp : 0 ≤ p ∧ p ≤ 255) (hm : p % 3 = 0) (w : World) (hg : Glob w) :
    Calls Ybad.prog 5 #[.int .u32 a, .int .u32 b, .int .u64 x, .int .u8 p] w fun e w' => e = .returned (.bool true) ∧ Below w.heap.size w w' := by
  have HG : Hid (Glob w) := hg
  clear hg
  obtain ⟨big, hbig, hb1, hb2⟩ := or_big x hx0 hx1
  have HI : Hid (idsR (decL big) (decL a) (decL b) = #[.int .u64 (uOf (decL big)), .int .u64 (0 : Nat), .int .u64 (0 : Nat)] ∧ okB (decL big) (decL a) (decL b) = false) := by
    have ga := dec_good a ha
    have gb := dec_good b hb
    have gB := dec_bad big hb1 hb2
    show _ ∧ _
    simp [idsR, goods, okB, idsA, idAt, gB]
  have HX : Hid (∀ wx, Glob wx → Calls Ybad.prog 10 #[.string ((⟨(decL big).toArray⟩ : ByteArray) ++ ⟨#[32]⟩ ++ ⟨(decL a).toArray⟩ ++ ⟨#[9]⟩ ++ ⟨(decL b).toArray⟩)] wx fun e w' =>
      e = .returned (.tuple #[.agg #[.int .u64 (uOf (decL big)), .int .u64 (0 : Nat), .int .u64 (0 : Nat)], .bool false]) ∧ Below wx.heap.size wx w') := by
    intro wx hgx
    have := wide_ext big a b wx hgx
    rw [HI.out.1, HI.out.2] at this
    exact this
  clear HI
  have la := decL_len a
  have lb := decL_len b
  have lB := decL_len big
  have hv0 : big < 18446744073709551616 := by omega
  have hv1 : a < 18446744073709551616 := by omega
  have hv2 : b < 18446744073709551616 := by omega
  have k1 := fun w => run_string_add_sum (P := Ybad.prog) w ⟨(decL big).toArray⟩ ⟨#[32]⟩ (by simp [ByteArray.size]; omega)
  have k2 := fun w => run_string_add_sum (P := Ybad.prog) w (⟨(decL big).toArray⟩ ++ ⟨#[32]⟩) ⟨(decL a).toArray⟩ (by rw [ByteArray.size_append']; simp [ByteArray.size]; omega)
  have k3 := fun w => run_string_add_sum (P := Ybad.prog) w (⟨(decL big).toArray⟩ ++ ⟨#[32]⟩ ++ ⟨(decL a).toArray⟩) ⟨#[9]⟩ (by rw [ByteArray.size_append', ByteArray.size_append']; simp [ByteArray.size]; omega)
  have k4 := fun w => run_string_add_sum (P := Ybad.prog) w (⟨(decL big).toArray⟩ ++ ⟨#[32]⟩ ++ ⟨(decL a).toArray⟩ ++ ⟨#[9]⟩) ⟨(decL b).toArray⟩ (by rw [ByteArray.size_append', ByteArray.size_append', ByteArray.size_append']; simp [ByteArray.size]; omega)
  go_enter Ybad.func5, Ybad.ntmps5
  go_wp2
  simp only [hm]
  refine wp_loop_rounds 4 ?_
  rw [rounds_succ]
  go_wp2
  rw [rounds_succ]
  go_wp2
  rw [rounds_succ]
  go_wp2
  rw [rounds_succ]
  go_wp2
  go_region_held3 (fun w' => w'.cell? ⟨w.heap.size, 0, none⟩ = some (.int .u64 big) ∧ w'.cell? ⟨w.heap.size, 1, none⟩ = some (.int .u64 a) ∧ w'.cell? ⟨w.heap.size, 2, none⟩ = some (.int .u64 b) ∧ Hid (Vals w big a b w')) (first | exact sw_of (Vals.start w big a b _).drew | exact sw_of (Vals.start w big a b _) | (apply sw_of; assumption))
    (first | (go_at_call_of 8 (Value.int IntKind.u64 (big : Int)); refine (dec_vals w big a b big hv0 _ ?_).mono ?_; (assumption); rintro e w1 ⟨rfl, b1⟩) | (go_at_call_of 8 (Value.int IntKind.u64 (a : Int)); refine (dec_vals w big a b a hv1 _ ?_).mono ?_; (assumption); rintro e w1 ⟨rfl, b1⟩) | (go_at_call_of 8 (Value.int IntKind.u64 (b : Int)); refine (dec_vals w big a b b hv2 _ ?_).mono ?_; (assumption); rintro e w1 ⟨rfl, b1⟩))
  clear k1 k2 k3 k4
  go_wp2_with fail
  refine (HX.out _ ?hgl).mono ?_
  case hgl => exact glob_of (v0 := big) (v1 := a) (v2 := b) HG.out (by assumption)
  rintro e w2 ⟨rfl, b2⟩
  have HV2 : Hid (Vals w big a b w2) := later_of b2 (by assumption)
  obtain ⟨c0, c1, c2⟩ := HV2.out.cell
  have hlt := HV2.out.lt
  clear b2
  go_wp2
  refine wp_loop_rounds 4 ?_
  rw [rounds_succ]
  go_wp2
  go_quiet (fail)
  go_wp2
  rw [rounds_succ]
  go_wp2
  go_quiet (fail)
  go_wp2
  rw [rounds_succ]
  go_wp2
  go_quiet (fail)
  go_wp2
  rw [rounds_succ]
  go_wp2
  go_ret
  refine ⟨rfl, ?_⟩
  exact fin_below HV2.out _ _
set_option maxHeartbeats 4000000 in
theorem wide_walk_1 (a b : Nat) (x p : Int) (ha : a < 4294967296) (hb : b < 4294967296) (hx0 : 0 ≤ x) (hx1 : x < 18446744073709551616) (hp : 0 ≤ p ∧ p ≤ 255) (hm : p % 3 = 1) (w : World) (hg : Glob w) :
    Calls Ybad.prog 5 #[.int .u32 a, .int .u32 b, .int .u64 x, .int .u8 p] w fun e w' => e = .returned (.bool true) ∧ Below w.heap.size w w' := by
  have HG : Hid (Glob w) := hg
  clear hg
  obtain ⟨big, hbig, hb1, hb2⟩ := or_big x hx0 hx1
  have HI : Hid (idsR (decL a) (decL big) (decL b) = #[.int .u64 a, .int .u64 (uOf (decL big)), .int .u64 (0 : Nat)] ∧ okB (decL a) (decL big) (decL b) = false) := by
    have ga := dec_good a ha
    have gb := dec_good b hb
    have gB := dec_bad big hb1 hb2
    show _ ∧ _
    simp [idsR, goods, okB, idsA, idAt, ga.1, gB, ga.2]
  have HX : Hid (∀ wx, Glob wx → Calls Ybad.prog 10 #[.string ((⟨(decL a).toArray⟩ : ByteArray) ++ ⟨#[32]⟩ ++ ⟨(decL big).toArray⟩ ++ ⟨#[9]⟩ ++ ⟨(decL b).toArray⟩)] wx fun e w' =>
      e = .returned (.tuple #[.agg #[.int .u64 a, .int .u64 (uOf (decL big)), .int .u64 (0 : Nat)], .bool false]) ∧ Below wx.heap.size wx w') := by
    intro wx hgx
    have := wide_ext a big b wx hgx
    rw [HI.out.1, HI.out.2] at this
    exact this
  clear HI
  have la := decL_len a
  have lb := decL_len b
  have lB := decL_len big
  have hv0 : a < 18446744073709551616 := by omega
  have hv1 : big < 18446744073709551616 := by omega
  have hv2 : b < 18446744073709551616 := by omega
  have k1 := fun w => run_string_add_sum (P := Ybad.prog) w ⟨(decL a).toArray⟩ ⟨#[32]⟩ (by simp [ByteArray.size]; omega)
  have k2 := fun w => run_string_add_sum (P := Ybad.prog) w (⟨(decL a).toArray⟩ ++ ⟨#[32]⟩) ⟨(decL big).toArray⟩ (by rw [ByteArray.size_append']; simp [ByteArray.size]; omega)
  have k3 := fun w => run_string_add_sum (P := Ybad.prog) w (⟨(decL a).toArray⟩ ++ ⟨#[32]⟩ ++ ⟨(decL big).toArray⟩) ⟨#[9]⟩ (by rw [ByteArray.size_append', ByteArray.size_append']; simp [ByteArray.size]; omega)
  have k4 := fun w => run_string_add_sum (P := Ybad.prog) w (⟨(decL a).toArray⟩ ++ ⟨#[32]⟩ ++ ⟨(decL big).toArray⟩ ++ ⟨#[9]⟩) ⟨(decL b).toArray⟩ (by rw [ByteArray.size_append', ByteArray.size_append', ByteArray.size_append']; simp [ByteArray.size]; omega)
  go_enter Ybad.func5, Ybad.ntmps5
  go_wp2
  simp only [hm]
  refine wp_loop_rounds 4 ?_
  rw [rounds_succ]
  go_wp2
  rw [rounds_succ]
  go_wp2
  rw [rounds_succ]
  go_wp2
  rw [rounds_succ]
  go_wp2
  go_region_held3 (fun w' => w'.cell? ⟨w.heap.size, 0, none⟩ = some (.int .u64 a) ∧ w'.cell? ⟨w.heap.size, 1, none⟩ = some (.int .u64 big) ∧ w'.cell? ⟨w.heap.size, 2, none⟩ = some (.int .u64 b) ∧ Hid (Vals w a big b w')) (first | exact sw_of (Vals.start w a big b _).drew | exact sw_of (Vals.start w a big b _) | (apply sw_of; assumption))
    (first | (go_at_call_of 8 (Value.int IntKind.u64 (a : Int)); refine (dec_vals w a big b a hv0 _ ?_).mono ?_; (assumption); rintro e w1 ⟨rfl, b1⟩) | (go_at_call_of 8 (Value.int IntKind.u64 (big : Int)); refine (dec_vals w a big b big hv1 _ ?_).mono ?_; (assumption); rintro e w1 ⟨rfl, b1⟩) | (go_at_call_of 8 (Value.int IntKind.u64 (b : Int)); refine (dec_vals w a big b b hv2 _ ?_).mono ?_; (assumption); rintro e w1 ⟨rfl, b1⟩))
  clear k1 k2 k3 k4
  go_wp2_with fail
  refine (HX.out _ ?hgl).mono ?_
  case hgl => exact glob_of (v0 := a) (v1 := big) (v2 := b) HG.out (by assumption)
  rintro e w2 ⟨rfl, b2⟩
  have HV2 : Hid (Vals w a big b w2) := later_of b2 (by assumption)
  obtain ⟨c0, c1, c2⟩ := HV2.out.cell
  have hlt := HV2.out.lt
  clear b2
  go_wp2
  refine wp_loop_rounds 4 ?_
  rw [rounds_succ]
  go_wp2
  go_quiet (fail)
  go_wp2
  rw [rounds_succ]
  go_wp2
  go_quiet (fail)
  go_wp2
  rw [rounds_succ]
  go_wp2
  go_quiet (fail)
  go_wp2
  rw [rounds_succ]
  go_wp2
  go_ret
  refine ⟨rfl, ?_⟩
  exact fin_below HV2.out _ _
set_option maxHeartbeats 4000000 in
theorem wide_walk_2 (a b : Nat) (x p : Int) (ha : a < 4294967296) (hb : b < 4294967296) (hx0 : 0 ≤ x) (hx1 : x < 18446744073709551616) (hp : 0 ≤ p ∧ p ≤ 255) (hm : p % 3 = 2) (w : World) (hg : Glob w) :
    Calls Ybad.prog 5 #[.int .u32 a, .int .u32 b, .int .u64 x, .int .u8 p] w fun e w' => e = .returned (.bool true) ∧ Below w.heap.size w w' := by
  have HG : Hid (Glob w) := hg
  clear hg
  obtain ⟨big, hbig, hb1, hb2⟩ := or_big x hx0 hx1
  have HI : Hid (idsR (decL a) (decL b) (decL big) = #[.int .u64 a, .int .u64 b, .int .u64 (uOf (decL big))] ∧ okB (decL a) (decL b) (decL big) = false) := by
    have ga := dec_good a ha
    have gb := dec_good b hb
    have gB := dec_bad big hb1 hb2
    show _ ∧ _
    simp [idsR, goods, okB, idsA, idAt, ga.1, gb.1, gB, ga.2, gb.2]
  have HX : Hid (∀ wx, Glob wx → Calls Ybad.prog 10 #[.string ((⟨(decL a).toArray⟩ : ByteArray) ++ ⟨#[32]⟩ ++ ⟨(decL b).toArray⟩ ++ ⟨#[9]⟩ ++ ⟨(decL big).toArray⟩)] wx fun e w' =>
      e = .returned (.tuple #[.agg #[.int .u64 a, .int .u64 b, .int .u64 (uOf (decL big))], .bool false]) ∧ Below wx.heap.size wx w') := by
    intro wx hgx
    have := wide_ext a b big wx hgx
    rw [HI.out.1, HI.out.2] at this
    exact this
  clear HI
  have la := decL_len a
  have lb := decL_len b
  have lB := decL_len big
  have hv0 : a < 18446744073709551616 := by omega
  have hv1 : b < 18446744073709551616 := by omega
  have hv2 : big < 18446744073709551616 := by omega
  have k1 := fun w => run_string_add_sum (P := Ybad.prog) w ⟨(decL a).toArray⟩ ⟨#[32]⟩ (by simp [ByteArray.size]; omega)
  have k2 := fun w => run_string_add_sum (P := Ybad.prog) w (⟨(decL a).toArray⟩ ++ ⟨#[32]⟩) ⟨(decL b).toArray⟩ (by rw [ByteArray.size_append']; simp [ByteArray.size]; omega)
  have k3 := fun w => run_string_add_sum (P := Ybad.prog) w (⟨(decL a).toArray⟩ ++ ⟨#[32]⟩ ++ ⟨(decL b).toArray⟩) ⟨#[9]⟩ (by rw [ByteArray.size_append', ByteArray.size_append']; simp [ByteArray.size]; omega)
  have k4 := fun w => run_string_add_sum (P := Ybad.prog) w (⟨(decL a).toArray⟩ ++ ⟨#[32]⟩ ++ ⟨(decL b).toArray⟩ ++ ⟨#[9]⟩) ⟨(decL big).toArray⟩ (by rw [ByteArray.size_append', ByteArray.size_append', ByteArray.size_append']; simp [ByteArray.size]; omega)
  go_enter Ybad.func5, Ybad.ntmps5
  go_wp2
  simp only [hm]
  refine wp_loop_rounds 4 ?_
  rw [rounds_succ]
  go_wp2
  rw [rounds_succ]
  go_wp2
  rw [rounds_succ]
  go_wp2
  rw [rounds_succ]
  go_wp2
  go_region_held3 (fun w' => w'.cell? ⟨w.heap.size, 0, none⟩ = some (.int .u64 a) ∧ w'.cell? ⟨w.heap.size, 1, none⟩ = some (.int .u64 b) ∧ w'.cell? ⟨w.heap.size, 2, none⟩ = some (.int .u64 big) ∧ Hid (Vals w a b big w')) (first | exact sw_of (Vals.start w a b big _).drew | exact sw_of (Vals.start w a b big _) | (apply sw_of; assumption))
    (first | (go_at_call_of 8 (Value.int IntKind.u64 (a : Int)); refine (dec_vals w a b big a hv0 _ ?_).mono ?_; (assumption); rintro e w1 ⟨rfl, b1⟩) | (go_at_call_of 8 (Value.int IntKind.u64 (b : Int)); refine (dec_vals w a b big b hv1 _ ?_).mono ?_; (assumption); rintro e w1 ⟨rfl, b1⟩) | (go_at_call_of 8 (Value.int IntKind.u64 (big : Int)); refine (dec_vals w a b big big hv2 _ ?_).mono ?_; (assumption); rintro e w1 ⟨rfl, b1⟩))
  clear k1 k2 k3 k4
  go_wp2_with fail
  refine (HX.out _ ?hgl).mono ?_
  case hgl => exact glob_of (v0 := a) (v1 := b) (v2 := big) HG.out (by assumption)
  rintro e w2 ⟨rfl, b2⟩
  have HV2 : Hid (Vals w a b big w2) := later_of b2 (by assumption)
  obtain ⟨c0, c1, c2⟩ := HV2.out.cell
  have hlt := HV2.out.lt
  clear b2
  go_wp2
  refine wp_loop_rounds 4 ?_
  rw [rounds_succ]
  go_wp2
  go_quiet (fail)
  go_wp2
  rw [rounds_succ]
  go_wp2
  go_quiet (fail)
  go_wp2
  rw [rounds_succ]
  go_wp2
  go_quiet (fail)
  go_wp2
  rw [rounds_succ]
  go_wp2
  go_ret
  refine ⟨rfl, ?_⟩
  exact fin_below HV2.out _ _
theorem wide_walk (a b : Nat) (x p : Int) (ha : a < 4294967296) (hb : b < 4294967296) (hx0 : 0 ≤ x) (hx1 : x < 18446744073709551616) (hp : 0 ≤ p ∧ p ≤ 255) (w : World) (hg : Glob w) :
    Calls Ybad.prog 5 #[.int .u32 a, .int .u32 b, .int .u64 x, .int .u8 p] w fun e w' => e = .returned (.bool true) ∧ Below w.heap.size w w' := by
  rcases (by omega : p % 3 = 0 ∨ p % 3 = 1 ∨ p % 3 = 2) with h | h | h
  · exact wide_walk_0 a b x p ha hb hx0 hx1 hp h w hg
  · exact wide_walk_1 a b x p ha hb hx0 hx1 hp h w hg
  · exact wide_walk_2 a b x p ha hb hx0 hx1 hp h w hg
end Go.Proofs.YbulkcdakDoor
