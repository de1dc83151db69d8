import Derived.Test.YbulkcdakDoorPlain
namespace Go.Proofs.YbulkcdakDoor
open Go

/-! The law's own reading of a line, as plain lists. -/
def tabA : ByteArray := ⟨#[48, 49, 50, 51, 52, 53, 54, 55, 56, 57, 48, 49, 50, 51, 52, 53, 32, 9, 10, 11, 12, 13, 43, 45, 95, 120]⟩
def chT (z : Int) : UInt8 := tabA.data.getD (z % 26).toNat 0
theorem tab_lt : ∀ j : Fin 26, (tabA.data.getD j.val 0).toNat < 128 := by decide
theorem chT_lt (z : Int) : (chT z).toNat < 128 := tab_lt ⟨(z % 26).toNat, by omega⟩
def lineL (zs : List Int) (n : Nat) : List UInt8 := (List.range n).map fun j => chT (zs.getD j 0)
theorem lineL_len (zs : List Int) (n : Nat) : (lineL zs n).length = n := by simp [lineL]
theorem lineL_at (zs : List Int) (n k : Nat) (h : k < n) : (lineL zs n)[k]? = some (chT (zs.getD k 0)) := by simp [lineL, h]
theorem lineL_lt (zs : List Int) (n : Nat) (x : UInt8) (h : x ∈ lineL zs n) : x.toNat < 128 := by
  simp [lineL] at h
  obtain ⟨j, _, rfl⟩ := h
  exact chT_lt _
def gd (f : List UInt8) : Bool := f.all dig && decide (mvF 0 f ≤ 4294967295)
def cur (ls : List UInt8) (i k : Nat) : List UInt8 := (ls.take k).drop i
theorem cur_self (ls : List UInt8) (i : Nat) : cur ls i i = [] := by
  unfold cur
  apply List.drop_eq_nil_of_le
  simp
  omega
theorem cur_succ (ls : List UInt8) (i k : Nat) (c : UInt8) (hik : i ≤ k) (h : ls[k]? = some c) : cur ls i (k + 1) = cur ls i k ++ [c] := by
  unfold cur
  obtain ⟨h1, h2⟩ := List.getElem?_eq_some_iff.1 h
  rw [List.take_add_one, h]
  simp only [Option.toList_some]
  rw [List.drop_append_of_le_length (by simp; omega)]
theorem cur_drop (ls : List UInt8) (i k : Nat) (hik : i ≤ k) : cur ls i k ++ ls.drop k = ls.drop i := by
  unfold cur
  by_cases hk : k ≤ ls.length
  · have h : ls = ls.take k ++ ls.drop k := (List.take_append_drop k ls).symm
    conv => rhs; rw [h]
    rw [List.drop_append_of_le_length (by simp; omega)]
  · have h1 : ls.drop k = [] := List.drop_eq_nil_of_le (by omega)
    have h2 : ls.take k = ls := List.take_of_length_le (by omega)
    rw [h1, h2, List.append_nil]
theorem mvF_snoc (l : List UInt8) (c : UInt8) : mvF 0 (l ++ [c]) = mstep (mvF 0 l) c := by simp [mvF]
theorem all_snoc (l : List UInt8) (c : UInt8) : (l ++ [c]).all dig = (l.all dig && dig c) := by simp
theorem mvF_lt (l : List UInt8) : mvF 0 l < 42949672960 := by
  have : ∀ (l : List UInt8) (acc : Nat), acc < 42949672960 → mvF acc l < 42949672960 := by
    intro l
    induction l with
    | nil => intro acc h; exact h
    | cons c r ih =>
      intro acc h
      have e : mvF acc (c :: r) = mvF (mstep acc c) r := rfl
      rw [e]
      apply ih
      unfold mstep dig
      split
      · rename_i hd
        simp at hd
        split <;> omega
      · exact h
  exact this l 0 (by omega)
/-- The state of the reading at place k: the fields that lie behind, and what is left. -/
structure Tok (ls : List UInt8) (done : List (List UInt8)) (k : Nat) : Prop where
  le : k ≤ ls.length
  cut : Lib.fields ls = done ++ Lib.fieldsGo [] (ls.drop k)
  ne : ∀ f ∈ done, f ≠ []
  len : done.length ≤ k
  short : ∀ f ∈ done, f.length ≤ ls.length
theorem Tok.start (ls : List UInt8) : Tok ls [] 0 := ⟨Nat.zero_le _, rfl, fun f h => by (cases h), Nat.zero_le _, fun f h => by cases h⟩
theorem Tok.space {ls : List UInt8} {done : List (List UInt8)} {k : Nat} {c : UInt8} (h : Tok ls done k) (hc : ls[k]? = some c) (hs : Lib.isSp c = true) : Tok ls done (k + 1) := by
  obtain ⟨h1, h2⟩ := List.getElem?_eq_some_iff.1 hc
  refine ⟨by omega, ?_, h.ne, by have := h.len; omega, h.short⟩
  rw [h.cut, List.drop_eq_getElem_cons h1, h2]
  rw [Lib.fieldsGo, hs]
  simp
theorem Tok.field {ls : List UInt8} {done : List (List UInt8)} {i k : Nat} (h : Tok ls done i) (hik : i < k) (hk : k ≤ ls.length) (hn : ∀ c ∈ cur ls i k, Lib.isSp c = false)
    (he : k = ls.length ∨ ∃ c, ls[k]? = some c ∧ Lib.isSp c = true) : Tok ls (done ++ [cur ls i k]) k := by
  have hne : cur ls i k ≠ [] := by
    intro h0
    have : (cur ls i k).length = 0 := by rw [h0]; rfl
    simp [cur] at this
    omega
  refine ⟨hk, ?_, ?_, ?_, ?_⟩
  · rw [h.cut, ← cur_drop ls i k (by omega), fieldsGo_take _ [] _ hn, List.nil_append, fieldsGo_next _ _ hne ?_]
    · simp
    · rcases he with rfl | ⟨c, hc, hs⟩
      · exact Or.inl (List.drop_eq_nil_of_le (Nat.le_refl _))
      · obtain ⟨h1, h2⟩ := List.getElem?_eq_some_iff.1 hc
        exact Or.inr ⟨c, ls.drop (k + 1), by rw [List.drop_eq_getElem_cons h1, h2], hs⟩
  · intro f hf
    rcases List.mem_append.1 hf with h' | h'
    · exact h.ne f h'
    · simp at h'; subst h'; exact hne
  · have := h.len
    simp
    omega
  · intro f hf
    rcases List.mem_append.1 hf with h' | h'
    · exact h.short f h'
    · simp at h'; subst h'; simp [cur]; omega
theorem Tok.stop {ls : List UInt8} {done : List (List UInt8)} (h : Tok ls done ls.length) : Lib.fields ls = done := by
  have := h.cut
  rw [List.drop_eq_nil_of_le (Nat.le_refl _)] at this
  simpa [Lib.fieldsGo] using this
theorem isSp_int (c : UInt8) : Lib.isSp c = (decide ((c.toNat : Int) = 32) || (decide ((9 : Int) ≤ (c.toNat : Int)) && decide ((c.toNat : Int) ≤ 13))) := by
  rw [isSp_nat]
  congr 1
  · simp; omega
  · congr 1 <;> simp <;> omega
end Go.Proofs.YbulkcdakDoor
