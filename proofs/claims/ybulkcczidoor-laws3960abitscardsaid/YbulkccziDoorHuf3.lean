import Derived.Test.YbulkccziDoorHuf2
namespace Go.Proofs.YbulkccziDoor
open Go.RowKit
def AW (k : Nat) (a : Array Value) (W : List Int) : Prop := ∀ t, t < k → a[t]? = some (.int .i32 (W.getD t 0))
def wsOf (zs : List Nat) : List Int := zs.map fun z => ((z / 512 : Nat) : Int)
theorem wsOf_at (zs : List Nat) (k : Nat) : (wsOf zs).getD k 0 = ((zs.getD k 0 / 512 : Nat) : Int) := by
  simp only [wsOf, List.getD, List.getElem?_map]
  cases zs[k]? <;> simp
theorem AW.snoc {k : Nat} {a : Array Value} {W : List Int} (h : AW k a W) (hk : k < a.size) {z : Int} (hz : z = W.getD k 0) : AW (k + 1) (a.setIfInBounds k (.int .i32 z)) W := by
  intro t ht
  rw [Array.getElem?_setIfInBounds]
  by_cases e : k = t
  · subst e; simp [hk, hz]
  · rw [if_neg e]; exact h t (by omega)
theorem AW.above {k i : Nat} {a : Array Value} {W : List Int} (h : AW k a W) (hi : k ≤ i) (v : Value) : AW k (a.setIfInBounds i v) W := by
  intro t ht
  rw [Array.getElem?_setIfInBounds, if_neg (by omega)]
  exact h t ht
theorem AW.more {k : Nat} {a : Array Value} {W : List Int} {z : Int} (h : AW k a W) (hl : W.length = k) (hz : a[k]? = some (.int .i32 z)) : AW (k + 1) a (W ++ [z]) := by
  intro t ht
  by_cases e : t = k
  · subst e; rw [hz]; simp [List.getD, ← hl]
  · rw [h t (by omega)]
    simp [List.getD, List.getElem?_append_left, show t < W.length by omega]
def PW (n : Nat) (a : Array Value) (O : List Nat) : Prop := ∀ x, x ∈ O → a[x]? = some (.int .i16 ((par n O x : Nat) : Int))
theorem PW.snoc {n y : Nat} {a : Array Value} {O : List Nat} (h : PW n a O) (hy : y ∉ O) (hs : y < a.size) {z : Int} (hz : z = ((n + O.length / 2 : Nat) : Int)) : PW n (a.setIfInBounds y (.int .i16 z)) (O ++ [y]) := by
  intro x hx
  rw [Array.getElem?_setIfInBounds]
  by_cases e : y = x
  · subst e
    rw [if_pos rfl, if_pos hs, par_new hy, hz]
  · rw [if_neg e]
    have hxo : x ∈ O := by
      rcases List.mem_append.1 hx with h' | h'
      · exact h'
      · exact absurd (by simpa using h') (Ne.symm e)
    rw [par_old hxo]
    exact h x hxo
def picks (n : Nat) (h : Hs) : Nat → Qs
  | 0 => h.q
  | r + 1 => pickOne n h.W.length h.W (picks n h r)
/-- The state within a join: r of the two are taken. -/
structure BR (n k nx : Nat) (h : Hs) (r lf inn : Nat) (aw ap : Array Value) : Prop where
  hx : nx = n + k
  ok : QOk n nx (2 * k + r) (picks n h r)
  l : lf = (picks n h r).leaf
  i : inn = (picks n h r).inner
  fw : AW nx aw h.W
  ac : aw[nx]? = some (.int .i32 (picks n h r).acc)
  pw : PW n ap (picks n h r).O
  wl : h.W.length = n + k
/-- Between the joins. -/
structure BS (n k nx : Nat) (h : Hs) (lf inn : Nat) (aw ap : Array Value) : Prop where
  hx : nx = n + k
  ok : HOk n k h
  l : lf = h.leaf
  i : inn = h.inner
  fw : AW nx aw h.W
  pw : PW n ap h.O
theorem BS.enter {n k nx : Nat} {h : Hs} {lf inn : Nat} {aw ap : Array Value} (b : BS n k nx h lf inn aw ap) (hs : nx < aw.size) : BR n k nx h 0 lf inn (aw.setIfInBounds nx (.int .i32 0)) ap :=
  ⟨b.hx, by rw [b.hx]; exact b.ok.q, b.l, b.i, b.fw.above (Nat.le_refl _) _, by rw [Array.getElem?_setIfInBounds, if_pos rfl, if_pos hs]; rfl, b.pw, b.ok.wl⟩
theorem BR.leave {n k nx : Nat} {h : Hs} {lf inn : Nat} {aw ap : Array Value} (b : BR n k nx h 2 lf inn aw ap) (ho : HOk n k h) (hk : k + 1 < n) : BS n (k + 1) (nx + 1) (join n h) lf inn aw ap :=
  ⟨by have := b.hx; omega, join_ok ho hk, b.l, b.i, b.fw.more (by rw [b.wl, b.hx]) b.ac, b.pw⟩
theorem BR.cond {n k nx : Nat} {h : Hs} {r lf inn : Nat} {aw ap : Array Value} (b : BR n k nx h r lf inn aw ap) : lf ≤ n ∧ n ≤ inn ∧ inn ≤ nx ∧ lf + inn = n + (2 * k + r) := by
  have h1 := b.ok.le; have h2 := b.ok.lo; have h3 := b.ok.hi; have h4 := b.ok.sum
  rw [b.l, b.i]
  exact ⟨h1, h2, h3, h4⟩
theorem BR.leaf {n k nx : Nat} {h : Hs} {r lf inn : Nat} {aw ap : Array Value} (b : BR n k nx h r lf inn aw ap) (hr : r < 2) (hs : nx < aw.size) (hp : lf < ap.size)
    (hc : lf < n ∧ (inn = nx ∨ h.W.getD lf 0 ≤ h.W.getD inn 0)) {z1 z2 : Int} (h1 : z1 = (nx : Int)) (h2 : z2 = IntKind.i32.wrap ((picks n h r).acc + h.W.getD lf 0)) :
    BR n k nx h (r + 1) (lf + 1) inn (aw.setIfInBounds nx (.int .i32 z2)) (ap.setIfInBounds lf (.int .i16 z1)) := by
  obtain ⟨e, ho, hn⟩ := pick_leaf (W := h.W) b.ok (by rw [← b.l, ← b.i]; exact hc)
  have e' : picks n h (r + 1) = pickOne n nx h.W (picks n h r) := by rw [picks, b.wl, b.hx]
  have hl := b.ok.len; have hnx := b.hx
  rw [← e'] at e ho
  refine ⟨b.hx, ho, ?_, ?_, b.fw.above (Nat.le_refl _) _, ?_, ?_, b.wl⟩
  · rw [e]; simp [b.l]
  · rw [e]; exact b.i
  · rw [Array.getElem?_setIfInBounds, if_pos rfl, if_pos hs, e, h2, b.l]
  · rw [e]
    show PW n _ ((picks n h r).O ++ [(picks n h r).leaf])
    rw [← b.l]
    refine b.pw.snoc (by rw [b.l]; exact hn) hp ?_
    rw [h1, hl]
    congr 1
    omega
theorem BR.inner {n k nx : Nat} {h : Hs} {r lf inn : Nat} {aw ap : Array Value} (b : BR n k nx h r lf inn aw ap) (hr : r < 2) (hk : k + 1 < n) (hs : nx < aw.size) (hp : inn < ap.size)
    (hc : ¬ (lf < n ∧ (inn = nx ∨ h.W.getD lf 0 ≤ h.W.getD inn 0))) {z1 z2 : Int} (h1 : z1 = (nx : Int)) (h2 : z2 = IntKind.i32.wrap ((picks n h r).acc + h.W.getD inn 0)) :
    BR n k nx h (r + 1) lf (inn + 1) (aw.setIfInBounds nx (.int .i32 z2)) (ap.setIfInBounds inn (.int .i16 z1)) := by
  have hl := b.ok.len; have hnx := b.hx
  obtain ⟨_, e, ho, hn⟩ := pick_inner (W := h.W) b.ok (by rw [← b.l, ← b.i]; exact hc) (by omega) (by omega)
  have e' : picks n h (r + 1) = pickOne n nx h.W (picks n h r) := by rw [picks, b.wl, b.hx]
  rw [← e'] at e ho
  refine ⟨b.hx, ho, ?_, ?_, b.fw.above (Nat.le_refl _) _, ?_, ?_, b.wl⟩
  · rw [e]; exact b.l
  · rw [e]; simp [b.i]
  · rw [Array.getElem?_setIfInBounds, if_pos rfl, if_pos hs, e, h2, b.i]
  · rw [e]
    show PW n _ ((picks n h r).O ++ [(picks n h r).inner])
    rw [← b.i]
    refine b.pw.snoc (by rw [b.i]; exact hn) hp ?_
    rw [h1, hl]
    congr 1
    omega
end Go.Proofs.YbulkccziDoor
