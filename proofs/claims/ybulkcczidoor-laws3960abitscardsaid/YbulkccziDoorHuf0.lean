import Derived.Test.YbulkccziDoorSrt
import Derived.Test.YbulkccziDoorPiv
namespace Go.Proofs.YbulkccziDoor
open Go.RowKit
/-! The two queues, plainly. -/
structure Qs where
  leaf : Nat
  inner : Nat
  acc : Int
  O : List Nat
def pickOne (n next : Nat) (W : List Int) (q : Qs) : Qs :=
  if q.leaf < n ∧ (q.inner = next ∨ W.getD q.leaf 0 ≤ W.getD q.inner 0) then
    { leaf := q.leaf + 1, inner := q.inner, acc := IntKind.i32.wrap (q.acc + W.getD q.leaf 0), O := q.O ++ [q.leaf] }
  else { leaf := q.leaf, inner := q.inner + 1, acc := IntKind.i32.wrap (q.acc + W.getD q.inner 0), O := q.O ++ [q.inner] }
structure Hs where
  W : List Int
  leaf : Nat
  inner : Nat
  O : List Nat
def Hs.q (h : Hs) : Qs := ⟨h.leaf, h.inner, 0, h.O⟩
def joinQ (n : Nat) (h : Hs) : Qs := pickOne n h.W.length h.W (pickOne n h.W.length h.W h.q)
def join (n : Nat) (h : Hs) : Hs := ⟨h.W ++ [(joinQ n h).acc], (joinQ n h).leaf, (joinQ n h).inner, (joinQ n h).O⟩
def joins (n : Nat) (ws : List Int) : Nat → Hs
  | 0 => ⟨ws, 0, n, []⟩
  | k + 1 => join n (joins n ws k)
/-- The node that x hangs under. -/
def ix : List Nat → Nat → Nat
  | [], _ => 0
  | y :: r, x => if x = y then 0 else ix r x + 1
theorem ix_old : ∀ (O : List Nat) (x y : Nat), x ∈ O → ix (O ++ [y]) x = ix O x
  | [], _, _, h => by cases h
  | z :: r, x, y, h => by
    simp only [List.cons_append, ix]
    by_cases hx : x = z
    · simp [hx]
    · rw [if_neg hx, if_neg hx, ix_old r x y (by simpa [hx] using h)]
theorem ix_new : ∀ (O : List Nat) (x : Nat), x ∉ O → ix (O ++ [x]) x = O.length
  | [], _, _ => by simp [ix]
  | z :: r, x, h => by
    simp only [List.mem_cons, not_or] at h
    simp only [List.cons_append, ix, if_neg h.1, ix_new r x h.2, List.length_cons]
theorem ix_lt : ∀ (O : List Nat) (x : Nat), x ∈ O → ix O x < O.length
  | [], _, h => by cases h
  | z :: r, x, h => by
    simp only [ix, List.length_cons]
    by_cases hx : x = z
    · simp [hx]
    · rw [if_neg hx]
      have := ix_lt r x (by simpa [hx] using h)
      omega
def par (n : Nat) (O : List Nat) (x : Nat) : Nat := n + ix O x / 2
theorem par_old {n x y : Nat} {O : List Nat} (hx : x ∈ O) : par n (O ++ [y]) x = par n O x := by
  unfold par
  rw [ix_old _ _ _ hx]
theorem par_new {n x : Nat} {O : List Nat} (hx : x ∉ O) : par n (O ++ [x]) x = n + O.length / 2 := by
  unfold par
  rw [ix_new _ _ hx]
/-- What holds of the queues: what was taken is the leaves below leaf and the nodes below inner. -/
structure QOk (n next t : Nat) (q : Qs) : Prop where
  len : q.O.length = t
  sum : q.leaf + q.inner = n + t
  le : q.leaf ≤ n
  lo : n ≤ q.inner
  hi : q.inner ≤ next
  mem : ∀ x, x ∈ q.O ↔ (x < q.leaf ∨ (n ≤ x ∧ x < q.inner))
  up : ∀ x, x ∈ q.O → x < par n q.O x
theorem up_snoc {n y : Nat} {O : List Nat} (h : ∀ x, x ∈ O → x < par n O x) (hy : y ∉ O) (hlt : y < n + O.length / 2) : ∀ x, x ∈ O ++ [y] → x < par n (O ++ [y]) x := by
  intro x hx
  rcases List.mem_append.1 hx with h' | h'
  · rw [par_old h']; exact h x h'
  · have : x = y := by simpa using h'
    subst this
    rw [par_new hy]; exact hlt
theorem pick_leaf {n next t : Nat} {W : List Int} {q : Qs} (h : QOk n next t q) (hc : q.leaf < n ∧ (q.inner = next ∨ W.getD q.leaf 0 ≤ W.getD q.inner 0)) :
    pickOne n next W q = ⟨q.leaf + 1, q.inner, IntKind.i32.wrap (q.acc + W.getD q.leaf 0), q.O ++ [q.leaf]⟩ ∧ QOk n next (t + 1) (pickOne n next W q) ∧ q.leaf ∉ q.O := by
  have e : pickOne n next W q = ⟨q.leaf + 1, q.inner, IntKind.i32.wrap (q.acc + W.getD q.leaf 0), q.O ++ [q.leaf]⟩ := if_pos hc
  have h1 := h.sum; have h2 := h.lo
  have hn : q.leaf ∉ q.O := by rw [h.mem]; omega
  refine ⟨e, ?_, hn⟩
  rw [e]
  refine ⟨by simp [h.len], by simp; omega, hc.1, h.lo, h.hi, fun x => ?_, up_snoc h.up hn (by omega)⟩
  simp only [List.mem_append, h.mem, List.mem_singleton]
  omega
theorem pick_inner {n next t : Nat} {W : List Int} {q : Qs} (h : QOk n next t q) (hc : ¬ (q.leaf < n ∧ (q.inner = next ∨ W.getD q.leaf 0 ≤ W.getD q.inner 0))) (ht : t < next) (hx : next ≤ n + t / 2) :
    q.inner < next ∧ pickOne n next W q = ⟨q.leaf, q.inner + 1, IntKind.i32.wrap (q.acc + W.getD q.inner 0), q.O ++ [q.inner]⟩ ∧ QOk n next (t + 1) (pickOne n next W q) ∧ q.inner ∉ q.O := by
  have e : pickOne n next W q = ⟨q.leaf, q.inner + 1, IntKind.i32.wrap (q.acc + W.getD q.inner 0), q.O ++ [q.inner]⟩ := if_neg hc
  have h1 := h.sum; have h2 := h.lo; have h3 := h.le; have h4 := h.hi
  have hlt : q.inner < next := by
    rcases Nat.lt_or_ge q.leaf n with hl | hl
    · rcases Nat.eq_or_lt_of_le h4 with he | he
      · exact absurd ⟨hl, Or.inl he⟩ hc
      · exact he
    · omega
  have hn : q.inner ∉ q.O := by rw [h.mem]; omega
  refine ⟨hlt, e, ?_, hn⟩
  rw [e]
  refine ⟨by simp [h.len], by simp; omega, h.le, by simp; omega, by simp; omega, fun x => ?_, up_snoc h.up hn (by rw [h.len]; omega)⟩
  simp only [List.mem_append, h.mem, List.mem_singleton]
  omega
theorem pick_ok {n next t : Nat} {W : List Int} {q : Qs} (h : QOk n next t q) (ht : t < next) (hx : next ≤ n + t / 2) : QOk n next (t + 1) (pickOne n next W q) := by
  by_cases hc : q.leaf < n ∧ (q.inner = next ∨ W.getD q.leaf 0 ≤ W.getD q.inner 0)
  · exact (pick_leaf h hc).2.1
  · exact (pick_inner h hc ht hx).2.2.1
structure HOk (n k : Nat) (h : Hs) : Prop where
  wl : h.W.length = n + k
  q : QOk n (n + k) (2 * k) h.q
theorem joinQ_ok {n k : Nat} {h : Hs} (ho : HOk n k h) (hk : k + 1 < n) : QOk n (n + k) (2 * k + 2) (joinQ n h) := by
  unfold joinQ
  rw [ho.wl]
  exact pick_ok (pick_ok ho.q (by omega) (by omega)) (by omega) (by omega)
theorem join_ok {n k : Nat} {h : Hs} (ho : HOk n k h) (hk : k + 1 < n) : HOk n (k + 1) (join n h) := by
  have := joinQ_ok ho hk
  refine ⟨by simp [join, ho.wl]; omega, ?_⟩
  exact ⟨by have := this.len; simp [join, Hs.q]; omega, by have := this.sum; simp [join, Hs.q]; omega, this.le, this.lo, by have := this.hi; simp [join, Hs.q]; omega, this.mem, this.up⟩
theorem joins_ok {n : Nat} (ws : List Int) (hw : ws.length = n) : ∀ k, k < n → HOk n k (joins n ws k)
  | 0, _ => ⟨by simpa [joins] using hw, ⟨rfl, by simp [joins, Hs.q], Nat.zero_le _, Nat.le_refl _, Nat.le_refl _, fun x => by simp [joins, Hs.q], fun x hx => by (simp [joins, Hs.q] at hx)⟩⟩
  | k + 1, h => join_ok (joins_ok ws hw k (by omega)) h
def dep (n : Nat) (O : List Nat) : Nat → Nat → Nat
  | 0, _ => 0
  | f + 1, x => if x < 2 * n - 2 then dep n O f (par n O x) + 1 else 0
def depN (n : Nat) (O : List Nat) (x : Nat) : Nat := dep n O (2 * n) x
def ordF (ws : List Int) : List Nat := (joins ws.length ws (ws.length - 1)).O
def hufF (ws : List Int) : List Nat := (List.range ws.length).map (depN ws.length (ordF ws))
theorem ordF_mem (ws : List Int) (h : 2 ≤ ws.length) (x : Nat) : x ∈ ordF ws ↔ x < 2 * ws.length - 2 := by
  have ho := joins_ok ws rfl (ws.length - 1) (by omega)
  have h1 := ho.q.sum; have h2 := ho.q.le; have h3 := ho.q.lo; have h4 := ho.q.hi
  have h5 := ho.q.mem x
  have hm : (joins ws.length ws (ws.length - 1)).q.O = ordF ws := rfl
  rw [hm] at h5
  rw [h5]
  -- inner stays below the last node
  have hi : (joins ws.length ws (ws.length - 1)).q.inner ≤ ws.length + (ws.length - 2) := by
    obtain ⟨k, hk⟩ : ∃ k, ws.length - 1 = k + 1 := ⟨ws.length - 2, by omega⟩
    have hq := joinQ_ok (joins_ok ws rfl k (by omega)) (by omega)
    have hhi := hq.hi
    rw [hk]
    have e : (joins ws.length ws (k + 1)).q.inner = (joinQ ws.length (joins ws.length ws k)).inner := rfl
    rw [e]
    omega
  omega
theorem ordF_len (ws : List Int) (h : 2 ≤ ws.length) : (ordF ws).length = 2 * ws.length - 2 := by
  have ho := (joins_ok ws rfl (ws.length - 1) (by omega)).q.len
  have hm : (joins ws.length ws (ws.length - 1)).q.O = ordF ws := rfl
  rw [hm] at ho
  omega
theorem ordF_up (ws : List Int) (h : 2 ≤ ws.length) (x : Nat) (hx : x < 2 * ws.length - 2) : x < par ws.length (ordF ws) x ∧ par ws.length (ordF ws) x ≤ 2 * ws.length - 2 := by
  have hm := (ordF_mem ws h x).2 hx
  refine ⟨(joins_ok ws rfl (ws.length - 1) (by omega)).q.up x hm, ?_⟩
  have h1 := ix_lt _ _ hm
  rw [ordF_len ws h] at h1
  unfold par
  omega
theorem dep_stable {n : Nat} {O : List Nat} (hu : ∀ x, x < 2 * n - 2 → x < par n O x) : ∀ f x, 2 * n - 1 - x ≤ f → dep n O f x = dep n O (f + 1) x
  | 0, x, h => by simp only [dep]; rw [if_neg (by omega)]
  | f + 1, x, h => by
    rw [dep, dep]
    by_cases hx : x < 2 * n - 2
    · rw [if_pos hx, if_pos hx, dep_stable hu f _ (by have := hu x hx; omega)]
    · rw [if_neg hx, if_neg hx]
theorem depN_root {n : Nat} {O : List Nat} {x : Nat} (h : 2 * n - 2 ≤ x) : depN n O x = 0 := by
  unfold depN
  cases n with
  | zero => rfl
  | succ n => rw [show 2 * (n + 1) = (2 * n + 1) + 1 from by omega, dep, if_neg (by omega)]
theorem depN_step {n : Nat} {O : List Nat} (hu : ∀ x, x < 2 * n - 2 → x < par n O x) {x : Nat} (h : x < 2 * n - 2) : depN n O x = depN n O (par n O x) + 1 := by
  have h1 := hu x h
  have e : dep n O (2 * n - 1) (par n O x) = dep n O (2 * n) (par n O x) := by
    rw [dep_stable hu (2 * n - 1) (par n O x) (by omega)]
    congr 1
    omega
  have e2 : depN n O x = dep n O (2 * n - 1 + 1) x := by unfold depN; congr 1; omega
  rw [e2, dep, if_pos h, e]
  rfl
theorem dep_le (n : Nat) (O : List Nat) : ∀ f x, dep n O f x ≤ f
  | 0, _ => Nat.le_refl _
  | f + 1, x => by
    rw [dep]
    split
    · exact Nat.succ_le_succ (dep_le n O f _)
    · exact Nat.zero_le _
theorem depN_le (n : Nat) (O : List Nat) (x : Nat) : depN n O x ≤ 2 * n := dep_le n O _ x
end Go.Proofs.YbulkccziDoor
