import Derived.Test.YbulkccziDoorAt
import Derived.Test.YbulkccziDoorHuf1
namespace Go.Proofs.YbulkccziDoor
open Go.RowKit
structure T10 (w : World) (o : List Nat) (v : Value) (wr : World) : Prop where
  own : wr.ownsRow w.heap.size 5 1 v o.length (bL o)
  bel : Below w.heap.size w wr
theorem T10.app {w : World} {o : List Nat} {v v' : Value} {wr w1 : World} {ob : Obj} {x : Nat} (h : T10 w o v wr) (ho : w1.ownsRow w.heap.size 5 1 v' (o.length + 1) (bL o ++ [.int .u8 (x : Nat)])) (hg : (wr.alloc ob).grownBy w1 v.ownBlock) : T10 w (o ++ [x]) v' w1 := by
  refine ⟨?_, (h.bel.alloc h.bel.size ob).grown hg (by have := h.bel.size; simp; omega) (fun k hk => (h.own.lt k hk).1)⟩
  simpa [bL] using ho
theorem T10.alloc {w : World} {o : List Nat} {v : Value} {wr : World} (h : T10 w o v wr) (ob : Obj) : T10 w o v (wr.alloc ob) := ⟨h.own.alloc ob, h.bel.alloc h.bel.size ob⟩
structure T10N (w : World) (N s x : Nat) (o : List Nat) (v : Value) (wr : World) : Prop where
  t : T10 w o v wr
  nb : wr.heap[N]? = some (.cells #[.int .u8 (s : Int), .int .u8 (x : Int)] 45 (0, 0))
theorem T10N.start {w : World} {s x : Nat} {o : List Nat} {v : Value} {wr : World} (h : T10 w o v wr) : T10N w wr.heap.size s x o v (wr.alloc (.cells #[.int .u8 (s : Int), .int .u8 (x : Int)] 45)) := ⟨h.alloc _, heap_alloc_new wr _⟩
theorem T10N.app {w : World} {N s x : Nat} {o : List Nat} {v v' : Value} {wr w1 : World} {ob : Obj} {z : Nat} (h : T10N w N s x o v wr) (ho : w1.ownsRow w.heap.size 5 1 v' (o.length + 1) (bL o ++ [.int .u8 (z : Nat)])) (hg : (wr.alloc ob).grownBy w1 v.ownBlock) : T10N w N s x (o ++ [z]) v' w1 := by
  have hlt : N < wr.heap.size := (Array.getElem?_eq_some_iff.1 h.nb).1
  refine ⟨h.t.app ho hg, ?_⟩
  rw [hg.block N (by simp; omega) ?_, Below.heap_alloc _ _ _ hlt]
  · exact h.nb
  · intro e
    rcases h.t.own.2 with ⟨hv, _⟩ | ⟨g, cap, cu, hv, _, hg2, _⟩
    · rw [hv] at e; simp [Value.ownBlock] at e
    · rw [hv] at e
      simp [Value.ownBlock] at e
      subst e
      rw [h.nb] at hg2
      simp at hg2
def DeTo (out : List Nat) (w : World) (e : Ending) (w' : World) : Prop := ∃ v, e = .returned (.tuple #[v, .bool true]) ∧ T10 w out v w'
theorem dec_len : ∀ (ts : List Tk) (o out : List Nat), dec ts o = some out → o.length ≤ out.length
  | [], o, out, h => by simp [dec] at h; subst h; exact Nat.le_refl _
  | (s, x) :: r, o, out, h => by
    rw [dec] at h
    split at h
    · split at h
      · have := dec_len r _ out h; simp at this; omega
      · cases h
    · split at h
      · split at h
        · cases h
        · have := dec_len r _ out h; simp at this; omega
      · split at h
        · split at h
          · cases h
          · have := dec_len r _ out h; simp at this; omega
        · split at h
          · split at h
            · cases h
            · have := dec_len r _ out h; simp at this; omega
          · cases h
theorem RdT.below {w wr : World} {a : Option Addr} {l : List Tk} (h : RdT w a l) (hb : Below w.heap.size w wr) : RdT wr a l := fun t ht => by
  obtain ⟨g, h1, h2, h3⟩ := h t ht
  exact ⟨g, h1, by rw [hb.cell (World.block_lt_of_cell? w _ h2)]; exact h2, by rw [hb.cell (World.block_lt_of_cell? w _ h3)]; exact h3⟩
/-- One token taken. -/
theorem dec_step {ts : List Tk} {k : Nat} {o out : List Nat} {s x : Nat} (hk : k < ts.length) (ht : ts.getD k (0, 0) = (s, x)) (h : dec (ts.drop k) o = some out) :
    (s < 16 ∧ x = 0 ∧ dec (ts.drop (k + 1)) (o ++ [s]) = some out) ∨ (s = 16 ∧ o ≠ [] ∧ x ≤ 3 ∧ dec (ts.drop (k + 1)) (o ++ List.replicate (x + 3) (o.getD (o.length - 1) 0)) = some out) ∨
    (s = 17 ∧ x ≤ 7 ∧ dec (ts.drop (k + 1)) (o ++ List.replicate (x + 3) 0) = some out) ∨ (s = 18 ∧ x ≤ 127 ∧ dec (ts.drop (k + 1)) (o ++ List.replicate (x + 11) 0) = some out) := by
  have e : ts[k] = (s, x) := by rw [← ht]; simp [List.getD, hk]
  rw [List.drop_eq_getElem_cons hk, e, dec] at h
  split at h
  · rename_i h1
    split at h
    · rename_i h2; exact Or.inl ⟨h1, h2, h⟩
    · cases h
  · split at h
    · rename_i h2
      split at h
      · cases h
      · rename_i h3; simp at h3; exact Or.inr (Or.inl ⟨h2, h3.1, by omega, h⟩)
    · split at h
      · rename_i h2
        split at h
        · cases h
        · exact Or.inr (Or.inr (Or.inl ⟨h2, by omega, h⟩))
      · split at h
        · rename_i h2
          split at h
          · cases h
          · exact Or.inr (Or.inr (Or.inr ⟨h2, by omega, h⟩))
        · cases h
set_option maxRecDepth 8000 in
set_option maxHeartbeats 16000000 in
theorem de_any (a : Option Addr) (c : Nat) (ts : List Tk) (out : List Nat) (w : World) (ha : RdT w a ts) (hl : ts.length ≤ 3000) (ho : out.length ≤ 3000) (hd : dec ts [] = some out) :
    Calls Ybad.prog 10 #[.slice a ts.length c] w fun e w' => DeTo out w e w' := by
  have HA : Hid (RdT w a ts) := ha
  have HD0 : Hid (dec ts [] = some out) := hd
  obtain ⟨n, hn⟩ : ∃ n, n = ts.length := ⟨_, rfl⟩
  rw [← hn] at hl ⊢
  have HN : Hid (n = ts.length) := hn
  have HO : Hid (out.length ≤ 3000) := ho
  obtain ⟨iv, hiv, hz0, hz1, hz2⟩ := info_parts infoU8
  have HI : Hid (_ ∧ _ ∧ _ ∧ _) := ⟨hiv, hz0, hz1, hz2⟩
  clear hn ha hd ho hiv hz0 hz1 hz2
  go_enter Ybad.func10, Ybad.ntmps10
  go_wp2_with fail
  go_loopg [4, 13] n (fun gk v4 v13 wr => ∃ (k : Nat) (o : List Nat), v13 = .int .i64 k ∧ k + gk = n ∧ Hid (dec (ts.drop k) o = some out) ∧ Hid (T10 w o v4 wr))
  case atStart => exact ⟨0, [], rfl, by omega, HD0.out, ⟨World.ownsRow_nil _ _ _ _, Below.refl _ _⟩⟩
  case round =>
    clear HD0
    obtain ⟨k, o, rfl, hk, HD, HT⟩ := hrel
    obtain ⟨va, vc, hv⟩ := own_slice2 HT.out.own
    subst hv
    rcases Nat.lt_or_ge k n with hlt | hge
    · obtain ⟨g, rfl, hc1, hc2⟩ := HA.out.below HT.out.bel k (by have := HN.out; omega)
      obtain ⟨s, x, hsx⟩ : ∃ s x, ts.getD k (0, 0) = (s, x) := ⟨_, _, rfl⟩
      rw [hsx] at hc1 hc2
      have hc1b : wr.cell? ⟨g, k * 2, none⟩ = some (.int .u8 (s : Int)) := by rw [Nat.mul_comm]; exact hc1
      have hc2b : wr.cell? ⟨g, k * 2 + 1, none⟩ = some (.int .u8 (x : Int)) := by rw [Nat.mul_comm]; exact hc2
      have HLO : Hid (o.length ≤ 3000) := by show _ ≤ _; have := dec_len _ _ _ HD.out; have := HO.out; omega
      rcases dec_step (by have := HN.out; omega) hsx HD.out with ⟨hs, hx, hd⟩ | ⟨hs, hne, hx, hd⟩ | ⟨hs, hx, hd⟩ | ⟨hs, hx, hd⟩
      · subst hx
        have HEX : Hid (dec (ts.drop (k + 1)) (o ++ [s]) = some out) := hd
        have hs1 : (s : Int) < 16 := by omega
        have HT1 : Hid (T10 w o (.slice va o.length vc) (wr.alloc (.cells #[.int .u8 (s : Int), .int .u8 ((0 : Nat) : Int)] 45))) := HT.out.alloc _
        clear hd hc1 hc2 hsx HT
        go_wp2_with (first | (at_builtin; refine wpList_append_own _ rfl _ _ 22 rfl w.heap.size 5 iv (.int .u8 0) 1 1 Ybad.underlying22 HI.out.1 HI.out.2.1 HI.out.2.2.1 HI.out.2.2.2 rfl (by decide) _ _ _ rfl (HT1.out.own.alloc _) ⟨_, 0, none⟩ 1 1 [.int .u8 ((s : Nat) : Int)] rfl rfl ?c1 ?c2 ?c3 ?c4 ?c5 ?_) | fail)
        case c1 =>
          intro j u hj
          match j, hj with
          | 0, hj => simp at hj; subst hj; simp [Addr.add]
        case c2 => intro u hu; simp at hu; subst hu; rfl
        case c3 => have := HLO.out; unfold maxLen; omega
        case c4 => have := HLO.out; omega
        case c5 => have := HT1.out.bel.size; simp at this ⊢; omega
        intro v' w8 ho hgr _
        have HT2 : Hid (T10 w (o ++ [s]) v' w8) := HT1.out.app ho hgr
        obtain ⟨va8, vc8, hv8⟩ := own_slice2 ho
        subst hv8
        clear ho hgr HT1
        go_wp2_with fail
        go_roundg (n - (k + 1))
        case measure => omega
        case rel => exact ⟨k + 1, _, by go_num, by omega, HEX.out, HT2.out⟩
      · subst hs
        obtain ⟨p, hp⟩ : ∃ p, p = o.getD (o.length - 1) 0 := ⟨_, rfl⟩
        have hpos : 0 < o.length := List.length_pos_iff.2 hne
        have hpc : ∃ g9, va = some ⟨g9, 0, none⟩ ∧ wr.cell? ⟨g9, o.length - 1, none⟩ = some (.int .u8 (p : Int)) := by
          obtain ⟨a9, c9, h9, h8, _⟩ := own_rd HT.out.own
          simp at h9
          obtain ⟨rfl, rfl⟩ := h9
          obtain ⟨g9, h7, h6⟩ := h8 (o.length - 1) (by omega)
          exact ⟨g9, h7, by rw [hp]; exact h6⟩
        obtain ⟨g9, rfl, hpc⟩ := hpc
        rw [← hp] at hd
        obtain ⟨L, hL⟩ : ∃ L, o.length = L + 1 := ⟨o.length - 1, by omega⟩
        have hL1 : o.length - 1 = L := by omega
        rw [hL1] at hpc
        have HLL : Hid (o.length = L + 1) := hL
        have hL2 : (o.length : Int) - 1 = (L : Int) := by omega
        have hx3 : (x : Int) ≤ 3 := by omega
        have hb1 : ((o.length : Int) == 0) = false := by simp; omega
        have hb2 : (o.length == 0) = false := by simp; omega
        have hb3 : decide ((3 : Int) < (x : Int)) = false := decide_eq_false (by omega)
        have hb4 : decide (3 < x) = false := decide_eq_false (by omega)
        have hLb : L ≤ 3000 := by have := HLO.out; omega
        have hLo : L < o.length := by omega
        have hlt9 : g9 < wr.heap.size := World.block_lt_of_cell? wr _ hpc
        have hne9 : g9 ≠ wr.heap.size := by omega
        have hne8 : ¬ wr.heap.size = g9 := by omega
        clear hp hc1 hc2 hsx hL hL1 hne
        have HEX : Hid (dec (ts.drop (k + 1)) (o ++ List.replicate (x + 3) p) = some out) := hd
        have HLE : Hid (o.length + (x + 3) ≤ 3000) := by show _ ≤ _; have h1 := dec_len _ _ _ hd; have h2 := HO.out; simp at h1; omega
        clear hd
        have HTN : Hid (T10N w wr.heap.size 16 x o _ (wr.alloc (.cells #[.int .u8 ((16 : Nat) : Int), .int .u8 (x : Int)] 45))) := T10N.start HT.out
        have HNN : Hid (∃ N, N = wr.heap.size) := ⟨_, rfl⟩
        obtain ⟨N, hN⟩ := HNN.out
        rw [← hN] at HTN
        have HNE : Hid (N = wr.heap.size) := hN
        clear HT hN HNN
        go_wp2_with fail
        rw [← HNE.out]
        go_loopg [4, 8] (x + 3) (fun g3 v4 v8 w3 => ∃ (k2 : Nat) (o2 : List Nat), v8 = .int .i64 k2 ∧ k2 + g3 = x + 3 ∧ Hid (o2.length = o.length + k2) ∧ Hid (o2 = o ++ List.replicate k2 p) ∧ Hid (T10N w N 16 x o2 v4 w3))
        case atStart => exact ⟨0, o, rfl, by omega, by show _ = _; simp, by show _ = _; simp, HTN.out⟩
        case round =>
          clear HTN
          obtain ⟨k2, o2, rfl, hk2, HL2, HO2, HT⟩ := hrel
          obtain ⟨va, vc, hv⟩ := own_slice2 HT.out.t.own
          subst hv
          have hn0 := cellAt HT.out.nb 0 (.int .u8 ((16 : Nat) : Int)) rfl
          have hn1 := cellAt HT.out.nb 1 (.int .u8 (x : Int)) rfl
          rcases Nat.lt_or_ge k2 (x + 3) with h3 | h3
          · have HLN : Hid (o2.length < 3000) := by show _ < _; have := HL2.out; have := HLE.out; omega
            have h3c : (k2 : Int) < (x : Int) + 3 := by omega
            go_wp2_with (first | (at_builtin; refine wpList_append_own _ rfl _ _ 22 rfl w.heap.size 5 iv (.int .u8 0) 1 1 Ybad.underlying22 HI.out.1 HI.out.2.1 HI.out.2.2.1 HI.out.2.2.2 rfl (by decide) _ _ _ rfl (HT.out.t.own.alloc _) ⟨_, 0, none⟩ 1 1 [.int .u8 ((p : Nat) : Int)] rfl rfl ?c1 ?c2 ?c3 ?c4 ?c5 ?_) | fail)
            case c1 =>
              intro j u hj
              match j, hj with
              | 0, hj => simp at hj; subst hj; simp [Addr.add]
            case c2 => intro u hu; simp at hu; subst hu; rfl
            case c3 => have := HLN.out; unfold maxLen; omega
            case c4 => have := HLN.out; omega
            case c5 => have := HT.out.t.bel.size; simp; omega
            intro v' w8 ho hgr _
            have HT2 : Hid (T10N w N 16 x (o2 ++ [p]) v' w8) := HT.out.app ho hgr
            obtain ⟨va8, vc8, hv8⟩ := own_slice2 ho
            subst hv8
            clear ho hgr HT
            go_wp2_with fail
            go_roundg (gk - 1)
            case measure => omega
            case rel => exact ⟨k2 + 1, _, by go_num, by omega, by show _ = _; have := HL2.out; simp; omega, by show _ = _; rw [HO2.out, List.replicate_succ', List.append_assoc], HT2.out⟩
          · have hk3 : k2 = x + 3 := by omega
            have HT3 : Hid (T10 w (o ++ List.replicate (x + 3) p) (.slice va o2.length vc) wr) := by rw [← hk3, ← HO2.out]; exact HT.out.t
            have h3c : decide ((k2 : Int) < (x : Int) + 3) = false := decide_eq_false (by omega)
            clear HL2 HO2 HT
            subst hk3
            go_wp2_with fail
            go_roundg (n - (k + 1))
            case measure => omega
            case rel => exact ⟨k + 1, _, by go_num, by omega, HEX.out, HT3.out⟩
      · subst hs
        have hx3 : (x : Int) ≤ 7 := by omega
        clear hc1 hc2 hsx
        have HEX : Hid (dec (ts.drop (k + 1)) (o ++ List.replicate (x + 3) 0) = some out) := hd
        have HLE : Hid (o.length + (x + 3) ≤ 3000) := by show _ ≤ _; have h1 := dec_len _ _ _ hd; have h2 := HO.out; simp at h1; omega
        clear hd
        have HTN : Hid (T10N w wr.heap.size 17 x o _ (wr.alloc (.cells #[.int .u8 ((17 : Nat) : Int), .int .u8 (x : Int)] 45))) := T10N.start HT.out
        have HNN : Hid (∃ N, N = wr.heap.size) := ⟨_, rfl⟩
        obtain ⟨N, hN⟩ := HNN.out
        rw [← hN] at HTN
        have HNE : Hid (N = wr.heap.size) := hN
        clear HT hN HNN
        go_wp2_with fail
        rw [← HNE.out]
        go_loopg [4, 9] (x + 3) (fun g3 v4 v8 w3 => ∃ (k2 : Nat) (o2 : List Nat), v8 = .int .i64 k2 ∧ k2 + g3 = x + 3 ∧ Hid (o2.length = o.length + k2) ∧ Hid (o2 = o ++ List.replicate k2 0) ∧ Hid (T10N w N 17 x o2 v4 w3))
        case atStart => exact ⟨0, o, rfl, by omega, by show _ = _; simp, by show _ = _; simp, HTN.out⟩
        case round =>
          clear HTN
          obtain ⟨k2, o2, rfl, hk2, HL2, HO2, HT⟩ := hrel
          obtain ⟨va, vc, hv⟩ := own_slice2 HT.out.t.own
          subst hv
          have hn0 := cellAt HT.out.nb 0 (.int .u8 ((17 : Nat) : Int)) rfl
          have hn1 := cellAt HT.out.nb 1 (.int .u8 (x : Int)) rfl
          rcases Nat.lt_or_ge k2 (x + 3) with h3 | h3
          · have HLN : Hid (o2.length < 3000) := by show _ < _; have := HL2.out; have := HLE.out; omega
            have h3c : (k2 : Int) < (x : Int) + 3 := by omega
            go_wp2_with (first | (at_builtin; refine wpList_append_own _ rfl _ _ 22 rfl w.heap.size 5 iv (.int .u8 0) 1 1 Ybad.underlying22 HI.out.1 HI.out.2.1 HI.out.2.2.1 HI.out.2.2.2 rfl (by decide) _ _ _ rfl (HT.out.t.own.alloc _) ⟨_, 0, none⟩ 1 1 [.int .u8 ((0 : Nat) : Int)] rfl rfl ?c1 ?c2 ?c3 ?c4 ?c5 ?_) | fail)
            case c1 =>
              intro j u hj
              match j, hj with
              | 0, hj => simp at hj; subst hj; simp [Addr.add]
            case c2 => intro u hu; simp at hu; subst hu; rfl
            case c3 => have := HLN.out; unfold maxLen; omega
            case c4 => have := HLN.out; omega
            case c5 => have := HT.out.t.bel.size; simp; omega
            intro v' w8 ho hgr _
            have HT2 : Hid (T10N w N 17 x (o2 ++ [0]) v' w8) := HT.out.app ho hgr
            obtain ⟨va8, vc8, hv8⟩ := own_slice2 ho
            subst hv8
            clear ho hgr HT
            go_wp2_with fail
            go_roundg (gk - 1)
            case measure => omega
            case rel => exact ⟨k2 + 1, _, by go_num, by omega, by show _ = _; have := HL2.out; simp; omega, by show _ = _; rw [HO2.out, List.replicate_succ', List.append_assoc], HT2.out⟩
          · have hk3 : k2 = x + 3 := by omega
            have HT3 : Hid (T10 w (o ++ List.replicate (x + 3) 0) (.slice va o2.length vc) wr) := by rw [← hk3, ← HO2.out]; exact HT.out.t
            have h3c : decide ((k2 : Int) < (x : Int) + 3) = false := decide_eq_false (by omega)
            clear HL2 HO2 HT
            subst hk3
            go_wp2_with fail
            go_roundg (n - (k + 1))
            case measure => omega
            case rel => exact ⟨k + 1, _, by go_num, by omega, HEX.out, HT3.out⟩
      · subst hs
        have hx3 : (x : Int) ≤ 127 := by omega
        clear hc1 hc2 hsx
        have HEX : Hid (dec (ts.drop (k + 1)) (o ++ List.replicate (x + 11) 0) = some out) := hd
        have HLE : Hid (o.length + (x + 11) ≤ 3000) := by show _ ≤ _; have h1 := dec_len _ _ _ hd; have h2 := HO.out; simp at h1; omega
        clear hd
        have HTN : Hid (T10N w wr.heap.size 18 x o _ (wr.alloc (.cells #[.int .u8 ((18 : Nat) : Int), .int .u8 (x : Int)] 45))) := T10N.start HT.out
        have HNN : Hid (∃ N, N = wr.heap.size) := ⟨_, rfl⟩
        obtain ⟨N, hN⟩ := HNN.out
        rw [← hN] at HTN
        have HNE : Hid (N = wr.heap.size) := hN
        clear HT hN HNN
        go_wp2_with fail
        rw [← HNE.out]
        go_loopg [4, 10] (x + 11) (fun g3 v4 v8 w3 => ∃ (k2 : Nat) (o2 : List Nat), v8 = .int .i64 k2 ∧ k2 + g3 = x + 11 ∧ Hid (o2.length = o.length + k2) ∧ Hid (o2 = o ++ List.replicate k2 0) ∧ Hid (T10N w N 18 x o2 v4 w3))
        case atStart => exact ⟨0, o, rfl, by omega, by show _ = _; simp, by show _ = _; simp, HTN.out⟩
        case round =>
          clear HTN
          obtain ⟨k2, o2, rfl, hk2, HL2, HO2, HT⟩ := hrel
          obtain ⟨va, vc, hv⟩ := own_slice2 HT.out.t.own
          subst hv
          have hn0 := cellAt HT.out.nb 0 (.int .u8 ((18 : Nat) : Int)) rfl
          have hn1 := cellAt HT.out.nb 1 (.int .u8 (x : Int)) rfl
          rcases Nat.lt_or_ge k2 (x + 11) with h3 | h3
          · have HLN : Hid (o2.length < 3000) := by show _ < _; have := HL2.out; have := HLE.out; omega
            have h3c : (k2 : Int) < (x : Int) + 11 := by omega
            go_wp2_with (first | (at_builtin; refine wpList_append_own _ rfl _ _ 22 rfl w.heap.size 5 iv (.int .u8 0) 1 1 Ybad.underlying22 HI.out.1 HI.out.2.1 HI.out.2.2.1 HI.out.2.2.2 rfl (by decide) _ _ _ rfl (HT.out.t.own.alloc _) ⟨_, 0, none⟩ 1 1 [.int .u8 ((0 : Nat) : Int)] rfl rfl ?c1 ?c2 ?c3 ?c4 ?c5 ?_) | fail)
            case c1 =>
              intro j u hj
              match j, hj with
              | 0, hj => simp at hj; subst hj; simp [Addr.add]
            case c2 => intro u hu; simp at hu; subst hu; rfl
            case c3 => have := HLN.out; unfold maxLen; omega
            case c4 => have := HLN.out; omega
            case c5 => have := HT.out.t.bel.size; simp; omega
            intro v' w8 ho hgr _
            have HT2 : Hid (T10N w N 18 x (o2 ++ [0]) v' w8) := HT.out.app ho hgr
            obtain ⟨va8, vc8, hv8⟩ := own_slice2 ho
            subst hv8
            clear ho hgr HT
            go_wp2_with fail
            go_roundg (gk - 1)
            case measure => omega
            case rel => exact ⟨k2 + 1, _, by go_num, by omega, by show _ = _; have := HL2.out; simp; omega, by show _ = _; rw [HO2.out, List.replicate_succ', List.append_assoc], HT2.out⟩
          · have hk3 : k2 = x + 11 := by omega
            have HT3 : Hid (T10 w (o ++ List.replicate (x + 11) 0) (.slice va o2.length vc) wr) := by rw [← hk3, ← HO2.out]; exact HT.out.t
            have h3c : decide ((k2 : Int) < (x : Int) + 11) = false := decide_eq_false (by omega)
            clear HL2 HO2 HT
            subst hk3
            go_wp2_with fail
            go_roundg (n - (k + 1))
            case measure => omega
            case rel => exact ⟨k + 1, _, by go_num, by omega, HEX.out, HT3.out⟩
    · have HEND : Hid (DeTo out w (.returned (.tuple #[.slice va o.length vc, .bool true])) wr) := by
        have h1 := HD.out
        rw [List.drop_eq_nil_of_le (by have := HN.out; omega)] at h1
        simp [dec] at h1
        subst h1
        exact ⟨_, rfl, HT.out⟩
      go_wp2_with fail
      exact bodyPost_ret (v := .tuple #[.slice va o.length vc, .bool true]) (by simp [results, Ybad.results10, go_sem]) rfl HEND.out
end Go.Proofs.YbulkccziDoor
