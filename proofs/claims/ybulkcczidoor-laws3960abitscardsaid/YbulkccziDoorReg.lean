import Derived.Test.YbulkccziDoorSrt
namespace Go.Proofs.YbulkccziDoor
open Go.RowKit
/-! A region that draws its order, by what holds at each of its states: one goal for each operation, whatever the orders. -/
def regF (n : Nat) : Code → Option Code
  | .region id ops d => if id = n then some (.region id ops d) else none
  | .seq a b => (regF n a).orElse fun _ => regF n b
  | .cond _ a b => (regF n a).orElse fun _ => regF n b
  | .block _ b => regF n b
  | .loop b => regF n b
  | .scope b => regF n b
  | _ => none
def regOf (n : Nat) (f : Func) : Code := ((f.body.bind (regF n))).getD .skip
def onlyN (K : Act → World → Prop) : Exit → Act → World → Prop
  | .normal => K
  | _ => fun _ _ => False
/-- The frame outside the slots from lo on, n of them. -/
def Same (a a' : Act) (lo n : Nat) : Prop := a'.defers = a.defers ∧ a'.tmps.size = a.tmps.size ∧ ∀ j, (j < lo ∨ lo + n ≤ j) → a'.tmps[j]? = a.tmps[j]?
theorem Same.refl (a : Act) (lo n : Nat) : Same a a lo n := ⟨rfl, rfl, fun _ _ => rfl⟩
theorem Same.put {a a' : Act} {lo n i : Nat} (h : Same a a' lo n) (hi : i < n) (v : Value) : Same a (a'.put (some (lo + i)) v) lo n :=
  ⟨h.1, by simpa [Act.put] using h.2.1, fun j hj => by
    have : lo + i ≠ j := by omega
    simp only [Act.put]
    rw [Array.getElem?_setIfInBounds_ne this]
    exact h.2.2 j hj⟩
def cntF : List Bool → Nat
  | [] => 0
  | b :: r => (if b then 0 else 1) + cntF r
theorem cntF_set : ∀ (l : List Bool) (i : Nat), l[i]? = some false → cntF (l.set i true) + 1 = cntF l
  | [], i, h => by simp at h
  | b :: r, 0, h => by simp at h; subst h; simp [cntF]; omega
  | b :: r, i + 1, h => by
    have := cntF_set r i (by simpa using h)
    simp only [List.set_cons_succ, cntF]
    omega
theorem cntF_pos : ∀ (l : List Bool) (i : Nat), l[i]? = some false → 0 < cntF l := fun l i h => by have := cntF_set l i h; omega
theorem cntF_rep : ∀ n, cntF (List.replicate n false) = n
  | 0 => rfl
  | n + 1 => by simp only [List.replicate_succ, cntF, cntF_rep n]; simp; omega
theorem listed_at {listed : Array Bool} {i : Nat} (h : i < listed.size) (h2 : listed.getD i true = false) : listed.toList[i]? = some false := by
  simp [Array.getD, h] at h2
  simp [h, h2]
theorem ready_mem {md : Region.Mode} {ops : Array Oper} {listed : Array Bool} {i : Nat} (h : i ∈ Region.ready md ops listed) :
    i < ops.size ∧ listed.getD i true = false ∧ ∀ o, ops[i]? = some o → ∀ e ∈ o.after.toList, Region.binds md e = true → listed[e.on]?.getD false = true := by
  unfold Region.ready at h
  rw [List.mem_filter] at h
  obtain ⟨h1, h2⟩ := h
  have h1' : i < ops.size := by simpa using h1
  refine ⟨h1', ?_, fun o ho e he hb => ?_⟩
  · rw [Bool.and_eq_true] at h2
    have h3 := h2.1
    rw [Bool.not_eq_true'] at h3
    exact h3
  · rw [Bool.and_eq_true] at h2
    have := h2.2
    rw [ho] at this
    simp only [Option.map_some, Option.getD_some] at this
    have h3 := (Array.all_eq_true_iff_forall_mem.1 this) e (by simpa using he)
    simpa [hb] using h3
/-- What an operation that has come up waited for has come up. -/
def Closed (md : Region.Mode) (ops : Array Oper) (listed : Array Bool) : Prop := ∀ (i : Nat) (o : Oper), ops[i]? = some o → listed[i]?.getD false = true → ∀ e ∈ o.after.toList, Region.binds md e = true → listed[e.on]?.getD false = true
theorem Closed.set {md : Region.Mode} {ops : Array Oper} {listed : Array Bool} (h : Closed md ops listed) (hs : listed.size = ops.size) {i : Nat} (hi : i ∈ Region.ready md ops listed) : Closed md ops (listed.setIfInBounds i true) := by
  intro k o ho hk e he hb
  obtain ⟨h1, _, h3⟩ := ready_mem hi
  have h4 : listed[e.on]?.getD false = true := by
    by_cases hki : i = k
    · subst hki; exact h3 o ho e he hb
    · rw [Array.getElem?_setIfInBounds_ne hki] at hk
      exact h k o ho hk e he hb
  by_cases hei : i = e.on
  · rw [hei]
    have : e.on < listed.size := by omega
    simp [this]
  · rw [Array.getElem?_setIfInBounds_ne hei]
    exact h4
section
variable {P : Program} {md : Region.Mode} {ops : Array Oper} {Q : Exit → Act → World → Prop}
theorem wpAny_inv (I : Array Bool → Act → World → Prop) (hend : ∀ listed a w, I listed a w → listed.size = ops.size → Region.ready md ops listed = [] → Q .normal a w)
    (hstep : ∀ listed a w i, I listed a w → listed.size = ops.size → Closed md ops listed → i ∈ Region.ready md ops listed → wpOp P ops Q i (I (listed.setIfInBounds i true)) a w) :
    ∀ (fuel : Nat) (listed : Array Bool) (a : Act) (w : World), listed.size = ops.size → cntF listed.toList ≤ fuel → Closed md ops listed → I listed a w → wpAny P md ops Q fuel listed a w
  | 0, listed, a, w, hs, hc, _, hi => by
    have hr : Region.ready md ops listed = [] := by
      apply List.eq_nil_iff_forall_not_mem.2
      intro i hm
      obtain ⟨h1, h2, _⟩ := ready_mem hm
      have h3 : i < listed.size := by omega
      have := cntF_pos listed.toList i (listed_at h3 h2)
      omega
    exact ⟨hr, hend _ _ _ hi hs hr⟩
  | fuel + 1, listed, a, w, hs, hc, hcl, hi => by
    refine ⟨fun hr => hend _ _ _ hi hs hr, fun i hm => ?_⟩
    obtain ⟨h1, h2, _⟩ := ready_mem hm
    have h3 : i < listed.size := by omega
    have := cntF_set listed.toList i (listed_at h3 h2)
    exact wpOp_mono (fun a' w' h => wpAny_inv I hend hstep fuel _ a' w' (by simpa using hs) (by simp; omega) (hcl.set hs hm) h) (hstep _ _ _ _ hi hs hcl hm)
/-- Each operation waits for earlier ones alone: so where none is ready all have come up. -/
theorem ready_nil {listed : Array Bool} (hd : ∀ (i : Nat) (o : Oper), ops[i]? = some o → ∀ e ∈ o.after.toList, e.on < i) (hs : listed.size = ops.size) (h : Region.ready md ops listed = []) : ∀ i, i < ops.size → listed[i]?.getD false = true := by
  intro i
  induction i using Nat.strongRecOn with
  | _ i ih =>
    intro hi
    cases hl : listed[i]?.getD false with
    | true => rfl
    | false =>
      exfalso
      have : i ∈ Region.ready md ops listed := by
        unfold Region.ready
        rw [List.mem_filter]
        refine ⟨by simpa using hi, ?_⟩
        rw [Bool.and_eq_true]
        have h3 : i < listed.size := by omega
        refine ⟨by simp [Array.getD, h3] at hl ⊢; exact hl, ?_⟩
        have ho : ops[i]? = some ops[i] := by simp [hi]
        rw [ho]
        simp only [Option.map_some, Option.getD_some]
        rw [Array.all_eq_true_iff_forall_mem]
        intro e he
        have h5 := hd i _ ho e (by simpa using he)
        rw [Array.getD_eq_getD_getElem?, ih e.on h5 (by omega)]
        simp
      rw [h] at this
      cases this
def earlier (ops : Array Oper) : Bool := (List.range ops.size).all fun i => ((ops[i]?).map fun o => o.after.toList.all fun e => Nat.blt e.on i).getD true
theorem ready_nil' {listed : Array Bool} (hd : earlier ops = true) (hs : listed.size = ops.size) (h : Region.ready md ops listed = []) : ∀ i, i < ops.size → listed[i]?.getD false = true := by
  refine ready_nil (fun i o ho e he => ?_) hs h
  have hi : i < ops.size := (Array.getElem?_eq_some_iff.1 ho).1
  have h1 := List.all_eq_true.1 hd i (by simpa using hi)
  rw [ho] at h1
  simp only [Option.map_some, Option.getD_some] at h1
  exact Nat.blt_eq.mp (List.all_eq_true.1 h1 e he)
theorem listed_set {listed : Array Bool} {i j : Nat} (h : (listed.setIfInBounds i true)[j]?.getD false = true) (hj : i ≠ j) : listed[j]?.getD false = true := by
  rw [Array.getElem?_setIfInBounds_ne hj] at h
  exact h
theorem listed_ne {listed : Array Bool} {i j : Nat} (hj : i ≠ j) : (listed.setIfInBounds i true)[j]?.getD false = listed[j]?.getD false := by
  rw [Array.getElem?_setIfInBounds_ne hj]
theorem listed_same {listed : Array Bool} {i : Nat} (h : i < listed.size) : (listed.setIfInBounds i true)[i]?.getD false = true := by
  simp [h]
theorem listed_not {listed : Array Bool} {i : Nat} (h : listed.getD i true = false) : listed[i]?.getD false = false := by
  simp only [Array.getD_eq_getD_getElem?] at h
  cases h2 : listed[i]? with
  | none => rfl
  | some b => rw [h2] at h; simpa using h
/-- The slots of the operations that have come up hold what they yield. -/
def Slots (listed : Array Bool) (a : Act) (lo n : Nat) (val : Nat → Value) : Prop := ∀ j, j < n → listed[j]?.getD false = true → a.tmps[lo + j]? = some (val j)
theorem Slots.put {listed : Array Bool} {a : Act} {lo n i : Nat} {val : Nat → Value} (h : Slots listed a lo n val) (hi : lo + i < a.tmps.size) {v : Value} (hv : v = val i) : Slots (listed.setIfInBounds i true) (a.put (some (lo + i)) v) lo n val := by
  intro j hj hl
  by_cases he : i = j
  · subst he; subst hv
    simp [Act.put, hi]
  · have : lo + i ≠ lo + j := by omega
    simp only [Act.put]
    rw [Array.getElem?_setIfInBounds_ne this]
    exact h j hj (listed_set hl he)
theorem Slots.skip {listed : Array Bool} {a : Act} {lo n i : Nat} {val : Nat → Value} (h : Slots listed a lo n val) (hi : n ≤ i) : Slots (listed.setIfInBounds i true) a lo n val :=
  fun j hj hl => h j hj (listed_set hl (by omega))
theorem wp_region_inv {id : Nat} {a : Act} {w : World} (hm : P.follows .mixedOrders = true) (I : Array Bool → Act → World → Prop) (hend : ∀ listed a w, I listed a w → listed.size = ops.size → Region.ready .any ops listed = [] → Q .normal a w)
    (hstep : ∀ listed a w i, I listed a w → listed.size = ops.size → Closed .any ops listed → i ∈ Region.ready .any ops listed → wpOp P ops Q i (I (listed.setIfInBounds i true)) a w)
    (h0 : I (Array.replicate ops.size false) a w.drew) : Code.wp P (.region id ops true) Q a w :=
  wp_region_any hm (wpAny_inv I hend hstep ops.size _ a _ (by simp) (by simp [cntF_rep]) (fun i o _ hl => by (exfalso; revert hl; simp [Array.getElem?_replicate]; split <;> simp)) h0)
end
end Go.Proofs.YbulkccziDoor
