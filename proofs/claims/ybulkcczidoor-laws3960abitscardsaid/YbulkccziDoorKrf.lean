import Derived.Test.YbulkccziDoorMk5
namespace Go.Proofs.YbulkccziDoor
open Go.RowKit
/-! The code's lengths: complete, and given to just the symbols that are used. -/
theorem sum_pairsN (f : Nat → Nat) : ∀ m, ((List.range (2 * m)).map f).sum = ((List.range m).map (fun j => f (2 * j) + f (2 * j + 1))).sum
  | 0 => rfl
  | m + 1 => by
    rw [show 2 * (m + 1) = 2 * m + 1 + 1 from by omega, List.range_succ, List.range_succ, List.range_succ]
    simp only [List.map_append, List.sum_append, List.map_cons, List.map_nil, List.sum_cons, List.sum_nil]
    rw [sum_pairsN f m]
    omega
theorem sum_splitN (f : Nat → Nat) (n : Nat) : ∀ m, ((List.range (n + m)).map f).sum = ((List.range n).map f).sum + ((List.range m).map (fun j => f (n + j))).sum
  | 0 => by simp
  | m + 1 => by
    rw [← Nat.add_assoc, List.range_succ, List.range_succ]
    simp only [List.map_append, List.sum_append, List.map_cons, List.map_nil, List.sum_cons, List.sum_nil]
    rw [sum_splitN f n m]
    omega
theorem sum_congrN (f g : Nat → Nat) (m : Nat) (h : ∀ j, j < m → f j = g j) : ((List.range m).map f).sum = ((List.range m).map g).sum := by
  congr 1
  exact List.map_congr_left fun j hj => h j (by simpa using hj)
theorem kraft_plain (n K : Nat) (hn : 2 ≤ n) (O : List Nat) (d : Nat → Nat) (hp : O.Perm (List.range (2 * n - 2))) (hd : ∀ i, i < 2 * n - 2 → d (O.getD i 0) = d (n + i / 2) + 1) (h0 : d (2 * n - 2) = 0) (hK : ∀ x, d x < K) :
    ((List.range n).map (fun x => 2 ^ (K - d x))).sum = 2 ^ K := by
  obtain ⟨m, rfl⟩ : ∃ m, n = m + 1 := ⟨n - 1, by omega⟩
  have e2 : 2 * (m + 1) - 2 = 2 * m := by omega
  rw [e2] at hp hd h0
  have hl : O.length = 2 * m := by have := hp.length_eq; simpa using this
  -- all but the root
  have h1 : ((List.range (2 * m)).map (fun x => 2 ^ (K - d x))).sum = ((List.range (2 * m)).map (fun i => 2 ^ (K - d (O.getD i 0)))).sum := by
    have e : (List.range (2 * m)).map (fun i => 2 ^ (K - d (O.getD i 0))) = O.map (fun x => 2 ^ (K - d x)) := by
      apply List.ext_getElem
      · simp [hl]
      · intro i h1 h2
        have : i < O.length := by simpa using h2
        simp [this]
    rw [e]
    exact ((hp.map (fun x => 2 ^ (K - d x))).sum_nat).symm
  have h2 : ((List.range (2 * m)).map (fun i => 2 ^ (K - d (O.getD i 0)))).sum = ((List.range m).map (fun j => 2 ^ (K - d (m + 1 + j)))).sum := by
    rw [sum_pairsN]
    apply sum_congrN
    intro j hj
    rw [hd (2 * j) (by omega), hd (2 * j + 1) (by omega), show 2 * j / 2 = j from by omega, show (2 * j + 1) / 2 = j from by omega]
    have h3 := hK (m + 1 + j)
    obtain ⟨q, hq⟩ : ∃ q, K - d (m + 1 + j) = q + 1 := ⟨K - d (m + 1 + j) - 1, by omega⟩
    rw [show K - (d (m + 1 + j) + 1) = q from by omega, hq, Nat.pow_succ]
    omega
  obtain ⟨k, rfl⟩ : ∃ k, m = k + 1 := ⟨m - 1, by omega⟩
  have h3 := sum_splitN (fun x => 2 ^ (K - d x)) (k + 1 + 1) k
  rw [show k + 1 + 1 + k = 2 * (k + 1) from by omega] at h3
  have h4 : ((List.range (k + 1)).map (fun j => 2 ^ (K - d (k + 1 + 1 + j)))).sum = ((List.range k).map (fun j => 2 ^ (K - d (k + 1 + 1 + j)))).sum + 2 ^ K := by
    rw [List.range_succ]
    simp only [List.map_append, List.sum_append, List.map_cons, List.map_nil, List.sum_cons, List.sum_nil]
    rw [show k + 1 + 1 + k = 2 * (k + 1) from by omega, h0]
    simp
  omega
theorem sum_mulN (c : Nat) (f : Nat → Nat) : ∀ l : List Nat, (l.map (fun x => c * f x)).sum = c * (l.map f).sum
  | [] => by simp
  | x :: r => by simp only [List.map_cons, List.sum_cons, sum_mulN c f r, Nat.mul_add]
theorem perm_rangeN : ∀ (m : Nat) (l : List Nat), l.length = m → (∀ x, x < m → x ∈ l) → l.Perm (List.range m)
  | 0, l, hl, _ => by rw [List.length_eq_zero_iff.1 hl]; exact List.Perm.refl _
  | m + 1, l, hl, hm => by
    have h1 := List.perm_cons_erase (hm m (by omega))
    have h2 := perm_rangeN m (l.erase m) (by rw [List.length_erase_of_mem (hm m (by omega))]; omega) (fun x hx => (List.mem_erase_of_ne (by omega)).2 (hm x (by omega)))
    rw [List.range_succ]
    exact h1.trans ((h2.cons m).trans (List.perm_append_singleton m _).symm)
theorem ix_at : ∀ (O : List Nat) (i : Nat), O.Nodup → i < O.length → ix O (O.getD i 0) = i
  | [], i, _, h => by simp at h
  | y :: r, 0, _, _ => by simp [ix]
  | y :: r, i + 1, hn, h => by
    have hn' := List.nodup_cons.1 hn
    have h' : i < r.length := by simpa using h
    have e : (y :: r).getD (i + 1) 0 = r.getD i 0 := by simp [List.getD]
    rw [e, ix, if_neg, ix_at r i hn'.2 h']
    intro e2
    apply hn'.1
    rw [← e2]
    simp [List.getD, h']
theorem dpt_fact (zs : List Nat) (h2 : 2 ≤ zs.length) : (∀ t, t < 2 * zs.length - 2 → dpt zs t = dpt zs (par zs.length (ordF (wsOf zs)) t) + 1) ∧ (ordF (wsOf zs)).Perm (List.range (2 * zs.length - 2)) := by
  have hw : (wsOf zs).length = zs.length := by simp [wsOf]
  have hu : ∀ x, x < 2 * zs.length - 2 → x < par zs.length (ordF (wsOf zs)) x := fun x hx => by
    have := (ordF_up (wsOf zs) (by omega) x (by omega)).1
    rw [hw] at this
    exact this
  refine ⟨fun t ht => depN_step hu ht, perm_rangeN _ _ ?_ fun x hx => ?_⟩
  · rw [ordF_len _ (by omega), hw]
  · rw [ordF_mem _ (by omega), hw]; exact hx
theorem dpt_pos (zs : List Nat) (h2 : 2 ≤ zs.length) (t : Nat) (ht : t < zs.length) : 0 < dpt zs t := by
  rw [(dpt_fact zs h2).1 t (by omega)]
  omega
theorem kraft_dpt (zs : List Nat) (h2 : 2 ≤ zs.length) (h7 : ∀ t, t < zs.length → dpt zs t ≤ 7) : ((List.range zs.length).map (fun t => 2 ^ (7 - dpt zs t))).sum = 128 := by
  obtain ⟨hs, hp⟩ := dpt_fact zs h2
  have hnd : (ordF (wsOf zs)).Nodup := hp.nodup_iff.2 List.nodup_range
  have hl : (ordF (wsOf zs)).length = 2 * zs.length - 2 := by have := hp.length_eq; simpa using this
  have hk := kraft_plain zs.length (2 * zs.length + 1 + 7) h2 (ordF (wsOf zs)) (dpt zs) hp (fun i hi => by
    rw [hs _ ?_]
    · unfold par
      rw [ix_at _ i hnd (by omega)]
    · have : (ordF (wsOf zs)).getD i 0 ∈ ordF (wsOf zs) := by
        have h3 : i < (ordF (wsOf zs)).length := by omega
        simp [List.getD, h3]
      simpa using hp.mem_iff.1 this) (depN_root (Nat.le_refl _)) (fun x => by have := depN_le zs.length (ordF (wsOf zs)) x; unfold dpt; omega)
  have e : ((List.range zs.length).map (fun x => 2 ^ (2 * zs.length + 1 + 7 - dpt zs x))).sum = 2 ^ (2 * zs.length + 1) * ((List.range zs.length).map (fun t => 2 ^ (7 - dpt zs t))).sum := by
    rw [← sum_mulN]
    apply sum_congrN
    intro j hj
    have := h7 j hj
    rw [← Nat.pow_add]
    congr 1
    omega
  rw [e, Nat.pow_add 2 (2 * zs.length + 1) 7] at hk
  exact Nat.eq_of_mul_eq_mul_left (Nat.two_pow_pos _) hk
theorem setK_at (zs : List Nat) (D : Nat → Nat) (hn : (zs.map (· % 512)).Nodup) (h19 : ∀ z ∈ zs, z % 512 < 19) : ∀ k, k ≤ zs.length → (∀ t, t < k → (setK zs D zeroL k).getD (zs.getD t 0 % 512) 0 = D t) ∧ ∀ s, (∀ t, t < k → zs.getD t 0 % 512 ≠ s) → (setK zs D zeroL k).getD s 0 = 0
  | 0, _ => ⟨fun t ht => by omega, fun s _ => by simp only [setK, zeroL, List.getD, List.getElem?_replicate]; split <;> rfl⟩
  | k + 1, hk => by
    obtain ⟨h1, h2⟩ := setK_at zs D hn h19 k (by omega)
    have hl : (setK zs D zeroL k).length = 19 := by rw [setK_len]; rfl
    have hz : zs.getD k 0 % 512 < 19 := h19 _ (by have : k < zs.length := by omega
                                                  simp [List.getD, this])
    refine ⟨fun t ht => ?_, fun s hs => ?_⟩
    · rw [setK]
      rcases Nat.lt_or_ge t k with hlt | hge
      · have hne : zs.getD k 0 % 512 ≠ zs.getD t 0 % 512 := by
          intro e
          have a1 : t < zs.length := by omega
          have a2 : k < zs.length := by omega
          have := (List.getElem_inj (h₀ := by simpa using a2) (h₁ := by simpa using a1) hn).1 (by simpa [List.getD, a1, a2] using e : (zs.map (· % 512))[k]'(by simpa using a2) = (zs.map (· % 512))[t]'(by simpa using a1))
          omega
        have := h1 t hlt
        simp only [List.getD, List.getElem?_set] at this hne ⊢
        rw [if_neg hne]
        exact this
      · have : t = k := by omega
        subst this
        have hz' : zs.getD t 0 % 512 < (setK zs D zeroL t).length := by omega
        simp only [List.getD, List.getElem?_set] at hz' ⊢
        simp [hz']
    · rw [setK]
      have := h2 s (fun t ht => hs t (by omega))
      have hne := hs k (by omega)
      simp only [List.getD, List.getElem?_set] at this hne ⊢
      rw [if_neg hne]
      exact this
theorem sum_filterN (p : Nat → Bool) (f : Nat → Nat) : ∀ l : List Nat, (∀ x ∈ l, p x = false → f x = 0) → (l.map f).sum = ((l.filter p).map f).sum
  | [], _ => rfl
  | x :: r, h => by
    have ih := sum_filterN p f r (fun y hy => h y (List.mem_cons_of_mem _ hy))
    rw [List.filter_cons]
    by_cases hp : p x = true
    · simp [hp, ih]
    · have := h x (by simp) (by simpa using hp)
      simp [hp, ih, this]
def krS (ls : List Nat) (s : Nat) : Nat := if 0 < ls.getD s 0 then 2 ^ (7 - ls.getD s 0) else 0
def krK (ls : List Nat) (k : Nat) : Nat := ((List.range k).map (krS ls)).sum
theorem krK_succ (ls : List Nat) (k : Nat) : krK ls (k + 1) = krK ls k + krS ls k := by simp [krK, List.range_succ]
theorem krS_le (ls : List Nat) (s : Nat) : krS ls s ≤ 128 := by
  unfold krS
  split
  · exact Nat.le_trans (Nat.pow_le_pow_right (by decide) (by omega : 7 - ls.getD s 0 ≤ 7)) (by decide)
  · omega
theorem krK_le (ls : List Nat) : ∀ k, krK ls k ≤ 128 * k
  | 0 => by simp [krK]
  | k + 1 => by rw [krK_succ]; have := krK_le ls k; have := krS_le ls k; omega
/-- What Bits asks of the code's lengths. -/
theorem code_law (fs zs : List Nat) (h : LI fs zs 12) (h2 : 2 ≤ (syUp fs 19).length) (h7 : ∀ t, t < zs.length → dpt zs t ≤ 7) :
    (∀ s, s < 19 → (0 < (setK zs (dpt zs) zeroL zs.length).getD s 0 ↔ 0 < fs.getD s 0)) ∧ krK (setK zs (dpt zs) zeroL zs.length) 19 = 128 := by
  have hn2 : 2 ≤ zs.length := by rw [h.len]; exact h2
  have hnd : (zs.map (· % 512)).Nodup := h.sy.nodup_iff.2 (syUp_nodup fs 19)
  obtain ⟨h3, h4⟩ := setK_at zs (dpt zs) hnd (fun z hz => h.small hz) zs.length (Nat.le_refl _)
  have hmem : ∀ s, s ∈ syUp fs 19 ↔ ∃ t, t < zs.length ∧ zs.getD t 0 % 512 = s := fun s => by
    rw [← h.sy.mem_iff, List.mem_map]
    constructor
    · rintro ⟨z, hz, rfl⟩
      obtain ⟨t, ht, rfl⟩ := List.getElem_of_mem hz
      exact ⟨t, ht, by simp [List.getD, ht]⟩
    · rintro ⟨t, ht, rfl⟩
      exact ⟨zs[t], List.getElem_mem ht, by simp [List.getD, ht]⟩
  have hpos : ∀ s, s < 19 → (0 < (setK zs (dpt zs) zeroL zs.length).getD s 0 ↔ 0 < fs.getD s 0) := fun s hs => by
    by_cases hm : s ∈ syUp fs 19
    · obtain ⟨t, ht, rfl⟩ := (hmem s).1 hm
      rw [h3 t ht]
      exact ⟨fun _ => (syUp_mem.1 hm).2, fun _ => dpt_pos zs hn2 t ht⟩
    · have := h4 s (fun t ht e => hm ((hmem s).2 ⟨t, ht, e⟩))
      rw [this]
      exact ⟨fun h => by omega, fun h => absurd (syUp_mem.2 ⟨hs, h⟩) hm⟩
  refine ⟨hpos, ?_⟩
  have e1 : krK (setK zs (dpt zs) zeroL zs.length) 19 = ((syUp fs 19).map (krS (setK zs (dpt zs) zeroL zs.length))).sum := by
    unfold krK syUp
    apply sum_filterN
    intro s hs hf
    unfold krS
    rw [if_neg]
    rw [hpos s (by simpa using hs)]
    simpa using hf
  have e2 : ((syUp fs 19).map (krS (setK zs (dpt zs) zeroL zs.length))).sum = ((zs.map (· % 512)).map (krS (setK zs (dpt zs) zeroL zs.length))).sum := ((h.sy.map _).sum_nat).symm
  have e3 : (zs.map (· % 512)).map (krS (setK zs (dpt zs) zeroL zs.length)) = (List.range zs.length).map (fun t => 2 ^ (7 - dpt zs t)) := by
    apply List.ext_getElem
    · simp
    · intro t a1 a2
      have ht : t < zs.length := by simpa using a2
      have h5 := h3 t ht
      have h6 := dpt_pos zs hn2 t ht
      rw [show zs.getD t 0 = zs[t] from by simp [List.getD, ht]] at h5
      simp only [List.getElem_map, List.getElem_range]
      unfold krS
      rw [h5, if_pos h6]
  rw [e1, e2, e3]
  exact kraft_dpt zs hn2 h7
end Go.Proofs.YbulkccziDoor
