import Derived.KernelRfl
namespace Go.Proofs.YbulkccziDoor
/-! The run coding, plainly. -/
def zTok (r : Nat) : List (Nat × Nat) := if _h : 11 ≤ r then (18, min r 138 - 11) :: zTok (r - min r 138) else if 3 ≤ r then [(17, r - 3)] else List.replicate r (0, 0)
termination_by r
decreasing_by omega
def vTok (v r : Nat) : List (Nat × Nat) := if _h : 3 ≤ r then (16, min r 6 - 3) :: vTok v (r - min r 6) else List.replicate r (v, 0)
termination_by r
decreasing_by omega
theorem zTok_big {r : Nat} (h : 11 ≤ r) : zTok r = (18, min r 138 - 11) :: zTok (r - min r 138) := by rw [zTok, dif_pos h]
theorem zTok_mid {r : Nat} (h : ¬ 11 ≤ r) (h3 : 3 ≤ r) : zTok r = [(17, r - 3)] := by rw [zTok, dif_neg h, if_pos h3]
theorem zTok_small {r : Nat} (h3 : ¬ 3 ≤ r) : zTok r = List.replicate r (0, 0) := by rw [zTok, dif_neg (by omega), if_neg h3]
theorem vTok_big {v r : Nat} (h : 3 ≤ r) : vTok v r = (16, min r 6 - 3) :: vTok v (r - min r 6) := by rw [vTok, dif_pos h]
theorem vTok_small {v r : Nat} (h : ¬ 3 ≤ r) : vTok v r = List.replicate r (v, 0) := by rw [vTok, dif_neg h]
def runT (v r : Nat) : List (Nat × Nat) := if v = 0 then zTok r else (v, 0) :: vTok v (r - 1)
def runLen (v : Nat) : List Nat → Nat
  | [] => 0
  | x :: r => if x = v then runLen v r + 1 else 0
theorem runLen_le (v : Nat) : ∀ l, runLen v l ≤ l.length
  | [] => Nat.le_refl _
  | x :: r => by
    rw [runLen]
    split
    · exact Nat.succ_le_succ (runLen_le v r)
    · exact Nat.zero_le _
def tk : List Nat → List (Nat × Nat)
  | [] => []
  | v :: r => runT v (runLen v r + 1) ++ tk (r.drop (runLen v r))
termination_by l => l.length
decreasing_by simp; omega
theorem tk_nil : tk [] = [] := by rw [tk]
theorem tk_cons (v : Nat) (r : List Nat) : tk (v :: r) = runT v (runLen v r + 1) ++ tk (r.drop (runLen v r)) := by rw [tk]
theorem runLen_take (v : Nat) : ∀ l, l.take (runLen v l) = List.replicate (runLen v l) v
  | [] => rfl
  | x :: r => by
    rw [runLen]
    split
    · rename_i h
      subst h
      rw [List.take_succ_cons, runLen_take x r, List.replicate_succ]
    · rfl
theorem runLen_at (v : Nat) (ls : List Nat) : ∀ (d a : Nat), (∀ t, a ≤ t → t < a + d → ls[t]? = some v) → ls[a + d]? ≠ some v → runLen v (ls.drop a) = d
  | 0, a, _, hn => by
    rcases Nat.lt_or_ge a ls.length with h | h
    · rw [List.drop_eq_getElem_cons h, runLen, if_neg]
      intro e
      apply hn
      rw [Nat.add_zero, List.getElem?_eq_getElem h, e]
    · rw [List.drop_eq_nil_of_le h]; rfl
  | d + 1, a, hy, hn => by
    have h1 := hy a (Nat.le_refl _) (by omega)
    obtain ⟨h, h2⟩ := List.getElem?_eq_some_iff.1 h1
    rw [List.drop_eq_getElem_cons h, runLen, if_pos h2]
    rw [runLen_at v ls d (a + 1) (fun t h3 h4 => hy t (by omega) (by omega)) (by rw [show a + 1 + d = a + (d + 1) from by omega]; exact hn)]
/-- One run: from i to j. -/
theorem tk_run {ls : List Nat} {i j v : Nat} (hij : i < j) (hy : ∀ t, i ≤ t → t < j → ls[t]? = some v) (hn : ls[j]? ≠ some v) : tk (ls.drop i) = runT v (j - i) ++ tk (ls.drop j) := by
  obtain ⟨h, h2⟩ := List.getElem?_eq_some_iff.1 (hy i (Nat.le_refl _) hij)
  rw [List.drop_eq_getElem_cons h, h2, tk_cons, runLen_at v ls (j - i - 1) (i + 1) (fun t h3 h4 => hy t (by omega) (by omega)) (by rw [show i + 1 + (j - i - 1) = j from by omega]; exact hn)]
  rw [List.drop_drop, show j - i - 1 + 1 = j - i from by omega, show i + 1 + (j - i - 1) = j from by omega]
def dec : List (Nat × Nat) → List Nat → Option (List Nat)
  | [], out => some out
  | (s, x) :: r, out =>
    if s < 16 then (if x = 0 then dec r (out ++ [s]) else none)
    else if s = 16 then (if out = [] ∨ 3 < x then none else dec r (out ++ List.replicate (x + 3) (out.getD (out.length - 1) 0)))
    else if s = 17 then (if 7 < x then none else dec r (out ++ List.replicate (x + 3) 0))
    else if s = 18 then (if 127 < x then none else dec r (out ++ List.replicate (x + 11) 0))
    else none
theorem dec_rep (v : Nat) (hv : v < 16) (more : List (Nat × Nat)) : ∀ (r : Nat) (out : List Nat), dec (List.replicate r (v, 0) ++ more) out = dec more (out ++ List.replicate r v)
  | 0, out => by simp
  | r + 1, out => by
    rw [List.replicate_succ, List.cons_append, dec, if_pos hv, if_pos rfl, dec_rep v hv more r, List.replicate_succ, List.append_assoc]
    rfl
theorem rep_join {a b n v : Nat} (out : List Nat) (h : a + b = n) : (out ++ List.replicate a v) ++ List.replicate b v = out ++ List.replicate n v := by
  rw [List.append_assoc, List.replicate_append_replicate, h]
theorem dec_z (more : List (Nat × Nat)) : ∀ (r : Nat) (out : List Nat), dec (zTok r ++ more) out = dec more (out ++ List.replicate r 0) := by
  intro r
  induction r using Nat.strongRecOn with
  | ind r ih =>
    intro out
    by_cases h : 11 ≤ r
    · rw [zTok_big h, List.cons_append, dec, if_neg (by omega), if_neg (by omega), if_neg (by omega), if_pos rfl, if_neg (by omega), ih (r - min r 138) (by omega), rep_join (n := r) out (by omega)]
    · by_cases h3 : 3 ≤ r
      · rw [zTok_mid h h3, List.cons_append, dec, if_neg (by omega), if_neg (by omega), if_pos rfl, if_neg (by omega), List.nil_append, Nat.sub_add_cancel h3]
      · rw [zTok_small h3, dec_rep 0 (by omega)]
theorem getLast_rep (out : List Nat) (v r : Nat) (hl : out.getD (out.length - 1) 0 = v) (hne : out ≠ []) : (out ++ List.replicate r v).getD ((out ++ List.replicate r v).length - 1) 0 = v := by
  have hlen : 0 < out.length := List.length_pos_iff.2 hne
  cases r with
  | zero => simpa using hl
  | succ r =>
    simp only [List.getD, List.length_append, List.length_replicate]
    rw [List.getElem?_append_right (by omega), List.getElem?_replicate, if_pos (by omega)]
    rfl
theorem dec_v (v : Nat) (hv : v < 16) (more : List (Nat × Nat)) : ∀ (r : Nat) (out : List Nat), out ≠ [] → out.getD (out.length - 1) 0 = v → dec (vTok v r ++ more) out = dec more (out ++ List.replicate r v) := by
  intro r
  induction r using Nat.strongRecOn with
  | ind r ih =>
    intro out hne hl
    by_cases h : 3 ≤ r
    · rw [vTok_big h, List.cons_append, dec, if_neg (by omega), if_pos rfl, if_neg (by simp [hne]; omega), hl, ih (r - min r 6) (by omega) _ (by simp [hne]) (getLast_rep out v _ hl hne), rep_join (n := r) out (by omega)]
    · rw [vTok_small h, dec_rep v hv]
theorem dec_run (v r : Nat) (hv : v < 16) (hr : 1 ≤ r) (more : List (Nat × Nat)) (out : List Nat) : dec (runT v r ++ more) out = dec more (out ++ List.replicate r v) := by
  unfold runT
  split
  · rename_i h; subst h; exact dec_z more r out
  · rw [List.cons_append, dec, if_pos hv, if_pos rfl, dec_v v hv more _ _ (by simp) (by simp [List.getD]), List.append_assoc]
    congr 2
    rw [show r = r - 1 + 1 from by omega, List.replicate_succ]
    rfl
theorem dec_tk : ∀ (ls : List Nat) (more : List (Nat × Nat)) (out : List Nat), (∀ x ∈ ls, x < 16) → dec (tk ls ++ more) out = dec more (out ++ ls) := by
  intro ls
  induction hn : ls.length using Nat.strongRecOn generalizing ls with
  | ind n ih =>
    intro more out h
    match ls, hn, h with
    | [], _, _ => rw [tk_nil]; simp
    | v :: r, hn, h =>
      have hle := runLen_le v r
      rw [tk_cons, List.append_assoc, dec_run v _ (h v (by simp)) (by omega), ih (r.drop (runLen v r)).length (by simp at hn ⊢; omega) _ rfl more _ (fun x hx => h x (by simp; exact Or.inr (List.mem_of_mem_drop hx)))]
      congr 1
      rw [List.append_assoc]
      congr 1
      rw [List.replicate_succ, List.cons_append]
      congr 1
      rw [← runLen_take v r]
      exact List.take_append_drop _ _
theorem dec_tokens (ls : List Nat) (h : ∀ x ∈ ls, x < 16) : dec (tk ls) [] = some ls := by
  have := dec_tk ls [] [] h
  simpa [dec] using this
theorem zTok_len : ∀ r, (zTok r).length ≤ r := by
  intro r
  induction r using Nat.strongRecOn with
  | ind r ih =>
    by_cases h : 11 ≤ r
    · rw [zTok_big h]; have := ih (r - min r 138) (by omega); simp; omega
    · by_cases h3 : 3 ≤ r
      · rw [zTok_mid h h3]; simp; omega
      · rw [zTok_small h3]; simp
theorem vTok_len (v : Nat) : ∀ r, (vTok v r).length ≤ r := by
  intro r
  induction r using Nat.strongRecOn with
  | ind r ih =>
    by_cases h : 3 ≤ r
    · rw [vTok_big h]; have := ih (r - min r 6) (by omega); simp; omega
    · rw [vTok_small h]; simp
theorem runT_len (v r : Nat) (h : 1 ≤ r) : (runT v r).length ≤ r := by
  unfold runT
  split
  · exact zTok_len r
  · have := vTok_len v (r - 1); simp; omega
theorem tk_len : ∀ ls : List Nat, (tk ls).length ≤ ls.length := by
  intro ls
  induction hn : ls.length using Nat.strongRecOn generalizing ls with
  | ind n ih =>
    match ls, hn with
    | [], _ => rw [tk_nil]; simp
    | v :: r, hn =>
      have hle := runLen_le v r
      have h1 := runT_len v (runLen v r + 1) (by omega)
      have h2 := ih (r.drop (runLen v r)).length (by simp at hn ⊢; omega) _ rfl
      rw [tk_cons, List.length_append]
      simp at h2 hn ⊢
      omega
/-- A token that a decoder takes. -/
def tOk (p : Nat × Nat) : Prop := p.1 ≤ 18 ∧ p.2 ≤ 127
theorem zTok_ok : ∀ r, ∀ p ∈ zTok r, tOk p := by
  intro r
  induction r using Nat.strongRecOn with
  | ind r ih =>
    intro p hp
    by_cases h : 11 ≤ r
    · rw [zTok_big h] at hp
      rcases List.mem_cons.1 hp with rfl | hp
      · exact ⟨by simp, by simp; omega⟩
      · exact ih _ (by omega) p hp
    · by_cases h3 : 3 ≤ r
      · rw [zTok_mid h h3] at hp
        simp at hp; subst hp; exact ⟨by simp, by simp; omega⟩
      · rw [zTok_small h3] at hp
        have := List.eq_of_mem_replicate hp; subst this; exact ⟨by simp, by simp⟩
theorem vTok_ok (v : Nat) (hv : v < 16) : ∀ r, ∀ p ∈ vTok v r, tOk p := by
  intro r
  induction r using Nat.strongRecOn with
  | ind r ih =>
    intro p hp
    by_cases h : 3 ≤ r
    · rw [vTok_big h] at hp
      rcases List.mem_cons.1 hp with rfl | hp
      · exact ⟨by simp, by simp; omega⟩
      · exact ih _ (by omega) p hp
    · rw [vTok_small h] at hp
      have := List.eq_of_mem_replicate hp; subst this; exact ⟨by simp; omega, by simp⟩
theorem tk_ok : ∀ (ls : List Nat), (∀ x ∈ ls, x < 16) → ∀ p ∈ tk ls, tOk p := by
  intro ls
  induction hn : ls.length using Nat.strongRecOn generalizing ls with
  | ind n ih =>
    intro h p hp
    match ls, hn, h with
    | [], _, _ => rw [tk_nil] at hp; cases hp
    | v :: r, hn, h =>
      rw [tk_cons] at hp
      rcases List.mem_append.1 hp with hp | hp
      · unfold runT at hp
        split at hp
        · exact zTok_ok _ p hp
        · rcases List.mem_cons.1 hp with rfl | hp
          · exact ⟨by have := h v (by simp); simp; omega, by simp⟩
          · exact vTok_ok v (h v (by simp)) _ p hp
      · exact ih (r.drop (runLen v r)).length (by simp at hn ⊢; omega) _ rfl (fun x hx => h x (by simp; exact Or.inr (List.mem_of_mem_drop hx))) p hp
end Go.Proofs.YbulkccziDoor
