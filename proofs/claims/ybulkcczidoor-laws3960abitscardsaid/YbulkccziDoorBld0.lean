import Derived.Test.YbulkccziDoorHuf4
namespace Go.Proofs.YbulkccziDoor
open Go.RowKit
/-! build, plainly. -/
def syUp (fs : List Nat) (k : Nat) : List Nat := (List.range k).filter (fun s => decide (0 < fs.getD s 0))
def lvUp (fs : List Nat) (k : Nat) : List Nat := (syUp fs k).map (fun s => fs.getD s 0 * 512 + s)
theorem syUp_yes {fs : List Nat} {k : Nat} (h : 0 < fs.getD k 0) : syUp fs (k + 1) = syUp fs k ++ [k] := by
  unfold syUp
  rw [List.range_succ, List.filter_append]
  congr 1
  simp only [List.filter_cons, List.filter_nil, decide_eq_true h]
  rfl
theorem syUp_no {fs : List Nat} {k : Nat} (h : ¬ 0 < fs.getD k 0) : syUp fs (k + 1) = syUp fs k := by
  unfold syUp
  rw [List.range_succ, List.filter_append]
  simp only [List.filter_cons, List.filter_nil, decide_eq_false h]
  simp
theorem lvUp_yes {fs : List Nat} {k : Nat} (h : 0 < fs.getD k 0) : lvUp fs (k + 1) = lvUp fs k ++ [fs.getD k 0 * 512 + k] := by
  unfold lvUp; rw [syUp_yes h]; simp
theorem lvUp_no {fs : List Nat} {k : Nat} (h : ¬ 0 < fs.getD k 0) : lvUp fs (k + 1) = lvUp fs k := by
  unfold lvUp; rw [syUp_no h]
theorem syUp_lt {fs : List Nat} {k s : Nat} (h : s ∈ syUp fs k) : s < k := by simp [syUp] at h; exact h.1
theorem syUp_len (fs : List Nat) (k : Nat) : (syUp fs k).length ≤ k := by
  unfold syUp
  have := List.length_filter_le (fun s => decide (0 < fs.getD s 0)) (List.range k)
  simpa using this
/-- The leaves: which symbols, and how high the counts. -/
structure LI (fs zs : List Nat) (K : Nat) : Prop where
  sy : (zs.map (· % 512)).Perm (syUp fs 19)
  cn : ∀ z ∈ zs, 1 ≤ z / 512 ∧ z / 512 ≤ 2 ^ K
theorem LI.perm {fs zs us : List Nat} {K : Nat} (h : LI fs zs K) (hp : us.Perm zs) : LI fs us K :=
  ⟨(hp.map _).trans h.sy, fun z hz => h.cn z (hp.mem_iff.1 hz)⟩
theorem LI.len {fs zs : List Nat} {K : Nat} (h : LI fs zs K) : zs.length = (syUp fs 19).length := by
  have := h.sy.length_eq
  simpa using this
theorem LI.small {fs zs : List Nat} {K : Nat} (h : LI fs zs K) {z : Nat} (hz : z ∈ zs) : z % 512 < 19 :=
  syUp_lt (h.sy.mem_iff.1 (List.mem_map_of_mem hz))
theorem LI.bound {fs zs : List Nat} {K : Nat} (h : LI fs zs K) (hK : K ≤ 12) : ∀ z ∈ zs, z < 4000000 ∧ z % 512 < 19 := fun z hz => by
  have h1 := (h.cn z hz).2
  have h2 : 2 ^ K ≤ 2 ^ 12 := Nat.pow_le_pow_right (by decide) hK
  exact ⟨by omega, h.small hz⟩
theorem LI.start {fs : List Nat} (hf : ∀ s, fs.getD s 0 ≤ 4096) : LI fs (lvUp fs 19) 12 := by
  refine ⟨?_, fun z hz => ?_⟩
  · unfold lvUp
    rw [List.map_map]
    have : (syUp fs 19).map ((· % 512) ∘ fun s => fs.getD s 0 * 512 + s) = (syUp fs 19).map id := List.map_congr_left (fun s hs => by have := syUp_lt hs; simp only [Function.comp, id]; omega)
    rw [this, List.map_id]
  · unfold lvUp at hz
    obtain ⟨s, hs, rfl⟩ := List.mem_map.1 hz
    have h1 := syUp_lt hs
    have h2 : 0 < fs.getD s 0 := by unfold syUp at hs; simpa using (List.mem_filter.1 hs).2
    have h3 := hf s
    constructor <;> omega
def hv (z : Nat) : Nat := max (z / 512 / 2) 1 * 512 + z % 512
theorem LI.halve {fs zs : List Nat} {K : Nat} (h : LI fs zs (K + 1)) : LI fs (zs.map hv) K := by
  refine ⟨?_, fun z hz => ?_⟩
  · rw [List.map_map]
    have : zs.map ((· % 512) ∘ hv) = zs.map (· % 512) := List.map_congr_left (fun z _ => by simp only [Function.comp, hv]; omega)
    rw [this]; exact h.sy
  · obtain ⟨y, hy, rfl⟩ := List.mem_map.1 hz
    have h1 := h.cn y hy
    have h2 : 2 ^ (K + 1) = 2 * 2 ^ K := by rw [Nat.pow_succ]; omega
    have h3 : 1 ≤ 2 ^ K := Nat.one_le_two_pow
    have h4 : hv y / 512 = max (y / 512 / 2) 1 := by unfold hv; omega
    rw [h4]
    omega
theorem LI.ones {fs zs : List Nat} (h : LI fs zs 0) : wsOf zs = List.replicate zs.length 1 := by
  apply List.eq_replicate_iff.2
  refine ⟨by simp [wsOf], fun b hb => ?_⟩
  unfold wsOf at hb
  obtain ⟨z, hz, rfl⟩ := List.mem_map.1 hb
  have := h.cn z hz
  have e : z / 512 = 1 := by simp at this; omega
  rw [e]; rfl
def onesB (n : Nat) : Bool := (List.range n).all fun t => Nat.ble (depN n (ordF (List.replicate n 1)) t) 7
theorem ones_all : ((List.range 20).all fun n => Nat.blt n 2 || onesB n) = true := by kernel_rfl
theorem ones_ok (n : Nat) (h2 : 2 ≤ n) (h9 : n ≤ 19) (t : Nat) (ht : t < n) : depN n (ordF (List.replicate n 1)) t ≤ 7 := by
  have h := List.all_eq_true.1 ones_all n (by simp; omega)
  rcases Bool.or_eq_true_iff.1 h with h | h
  · have := Nat.le_of_ble_eq_true h; omega
  · have := List.all_eq_true.1 h t (by simpa using ht)
    exact Nat.le_of_ble_eq_true this
theorem LI.fits {fs zs : List Nat} (h : LI fs zs 0) (h2 : 2 ≤ zs.length) (h9 : zs.length ≤ 19) (t : Nat) (ht : t < zs.length) : dpt zs t ≤ 7 := by
  unfold dpt
  rw [h.ones]
  exact ones_ok _ h2 h9 t ht
end Go.Proofs.YbulkccziDoor
