import Derived.Test.YbulkccziDoorBld1
namespace Go.Proofs.YbulkccziDoor
open Go.RowKit
def fA (fs : List Nat) : Array Value := (fs.map (fun z => Value.int .i32 (z : Nat))).toArray
theorem fA_at (fs : List Nat) (i : Nat) (h : i < fs.length) : (fA fs)[i]? = some (.int .i32 ((fs.getD i 0 : Nat) : Int)) := by simp [fA, List.getD, h]
theorem fA_set (fs : List Nat) (i z : Nat) : (fA fs).setIfInBounds i (.int .i32 (z : Nat)) = fA (fs.set i z) := by
  apply Array.ext'
  simp [fA, List.map_set]
def two (fs : List Nat) : List Nat := if 2 ≤ (syUp fs 19).length then fs else if (syUp fs 19).length = 1 then (if fs.getD 0 0 = 0 then fs.set 0 1 else fs.set 1 1) else (fs.set 0 1).set 1 1
set_option maxHeartbeats 4000000 in
theorem two_any (F : Nat) (T : TypeId) (fs : List Nat) (w : World) (hF : w.heap[F]? = some (.cells (fA fs) T (0, 0))) (hl : fs.length = 19) (hf : ∀ s, fs.getD s 0 ≤ 4096) :
    Calls Ybad.prog 11 #[.slice (some ⟨F, 0, none⟩) 19 19] w fun e w' => e = .returned (.tuple #[]) ∧ w'.heap[F]? = some (.cells (fA (two fs)) T (0, 0)) ∧ w.grownBy w' (some F) := by
  have HF : Hid (∀ s, fs.getD s 0 ≤ 4096) := hf
  have HC : Hid (∀ t, t < 19 → w.cell? ⟨F, t, none⟩ = some (.int .i32 ((fs.getD t 0 : Nat) : Int))) := fun t ht => cellAt hF t _ (fA_at fs t (by omega))
  have f0 := frozenAt hF 0
  have f1 := frozenAt hF 1
  have HW : Hid (w.heap[F]? = some (.cells (fA fs) T (0, 0))) := hF
  clear hF hf
  go_enter Ybad.func11, Ybad.ntmps11
  go_wp2_with fail
  go_loopg [2, 8] 19 (fun gk v2 v8 wr => ∃ (k u : Nat), v2 = .int .i64 u ∧ v8 = .int .i64 k ∧ k + gk = 19 ∧ Hid (u = (syUp fs k).length) ∧ w = wr)
  case atStart => exact ⟨0, 0, rfl, rfl, rfl, rfl, rfl⟩
  case round =>
    obtain ⟨k, u, rfl, rfl, hk, HU, hwr⟩ := hrel
    subst hwr
    have hu : u ≤ k := by rw [HU.out]; exact syUp_len fs k
    rcases Nat.lt_or_ge k 19 with hlt | hge
    · obtain ⟨f, hfe⟩ : ∃ f, f = fs.getD k 0 := ⟨_, rfl⟩
      have hc := HC.out k hlt
      rw [← hfe] at hc
      have HFE : Hid (f = fs.getD k 0) := hfe
      clear hfe
      rcases Nat.eq_zero_or_pos f with hf0 | hf0
      · subst hf0
        go_wp2_with fail
        go_roundg (gk - 1)
        case measure => omega
        case rel => exact ⟨k + 1, u, rfl, by go_num, by omega, by show u = _; rw [HU.out, syUp_no (by rw [← HFE.out]; omega)], rfl⟩
      · have hf1 : (0 : Int) < (f : Int) := by omega
        go_wp2_with fail
        go_roundg (gk - 1)
        case measure => omega
        case rel => exact ⟨k + 1, u + 1, by go_num, by go_num, by omega, by show u + 1 = _; rw [HU.out, syUp_yes (by rw [← HFE.out]; exact hf0)]; simp, rfl⟩
    · have hk9 : k = 19 := by omega
      subst hk9
      by_cases h2 : 2 ≤ u
      · have hd : decide ((u : Int) < 2) = false := decide_eq_false (by omega)
        have hd2 : decide (u < 2) = false := decide_eq_false (by omega)
        have e : two fs = fs := by unfold two; rw [if_pos (by rw [← HU.out]; exact h2)]
        have HE : Hid _ := e
        clear e
        go_wp2_with fail
        refine wp_loop_rounds 1 ?_
        rw [rounds_succ]
        go_wp2
        exact bodyPost_end (v := .tuple #[]) (by simp [results, Ybad.results11, go_sem]) rfl ⟨rfl, by rw [HE.out]; exact HW.out, World.grownBy.refl _ _⟩
      · obtain ⟨a, ha⟩ : ∃ a, a = fs.getD 0 0 := ⟨_, rfl⟩
        obtain ⟨b, hb⟩ : ∃ b, b = fs.getD 1 0 := ⟨_, rfl⟩
        have hc0 := HC.out 0 (by omega)
        have hc1 := HC.out 1 (by omega)
        rw [← ha] at hc0
        rw [← hb] at hc1
        have hu1 : u = 0 ∨ u = 1 := by omega
        rcases hu1 with rfl | rfl
        · have h00 : syUp fs 19 = [] := List.eq_nil_of_length_eq_zero HU.out.symm
          have ha0 : a = 0 := by
            rcases Nat.eq_zero_or_pos a with h | h
            · exact h
            · have : 0 ∈ syUp fs 19 := by simp [syUp]; rw [ha] at h; simpa [List.getD] using h
              rw [h00] at this; cases this
          have hb0 : b = 0 := by
            rcases Nat.eq_zero_or_pos b with h | h
            · exact h
            · have : 1 ∈ syUp fs 19 := by simp [syUp]; rw [hb] at h; simpa [List.getD] using h
              rw [h00] at this; cases this
          have e : two fs = (fs.set 0 1).set 1 1 := by unfold two; rw [h00]; rfl
          have HE2 : Hid _ := e
          clear e h00
          subst ha0
          subst hb0
          clear ha hb
          have HE : Hid (((w.setCell ⟨F, 0, none⟩ (.int .i32 1)).setCell ⟨F, 1, none⟩ (.int .i32 1)).heap[F]? = some (.cells (fA ((fs.set 0 1).set 1 1)) T (0, 0)) ∧ w.grownBy ((w.setCell ⟨F, 0, none⟩ (.int .i32 1)).setCell ⟨F, 1, none⟩ (.int .i32 1)) (some F)) := by
            refine ⟨?_, ⟨rfl, rfl, rfl, by simp [World.setCell], fun x hx hr => ?_⟩⟩
            · rw [heap_setCell_same' _ _ _ _ _ _ (heap_setCell_same' _ _ _ _ _ _ HW.out), ← fA_set, ← fA_set]; rfl
            · have : x ≠ F := fun e => hr (by rw [e])
              rw [Below.heap_setCell _ _ _ _ (by simpa using this), Below.heap_setCell _ _ _ _ (by simpa using this)]
          go_wp2_with fail
          refine wp_loop_rounds 3 ?_
          rw [rounds_succ]
          go_wp2_with fail
          rw [rounds_succ]
          go_wp2_with fail
          rw [rounds_succ]
          go_wp2_with fail
          exact bodyPost_end (v := .tuple #[]) (by simp [results, Ybad.results11, go_sem]) rfl ⟨rfl, by rw [HE2.out]; exact HE.out.1, HE.out.2⟩
        · by_cases ha0 : a = 0
          · subst ha0
            have e : two fs = fs.set 0 1 := by unfold two; rw [if_neg (by rw [← HU.out]; omega), if_pos HU.out.symm, if_pos ha.symm]
            have HE2 : Hid _ := e
            clear e ha hb
            have HE : Hid ((w.setCell ⟨F, 0, none⟩ (.int .i32 1)).heap[F]? = some (.cells (fA (fs.set 0 1)) T (0, 0)) ∧ w.grownBy (w.setCell ⟨F, 0, none⟩ (.int .i32 1)) (some F)) := by
              refine ⟨?_, ⟨rfl, rfl, rfl, by simp [World.setCell], fun x hx hr => ?_⟩⟩
              · rw [heap_setCell_same' _ _ _ _ _ _ HW.out, ← fA_set]; rfl
              · have : x ≠ F := fun e => hr (by rw [e])
                rw [Below.heap_setCell _ _ _ _ (by simpa using this)]
            go_wp2_with fail
            refine wp_loop_rounds 2 ?_
            rw [rounds_succ]
            go_wp2_with fail
            rw [rounds_succ]
            go_wp2_with fail
            exact bodyPost_end (v := .tuple #[]) (by simp [results, Ybad.results11, go_sem]) rfl ⟨rfl, by rw [HE2.out]; exact HE.out.1, HE.out.2⟩
          · have hb0 : b = 0 := by
              rcases Nat.eq_zero_or_pos b with h | h
              · exact h
              · exfalso
                have m0 : 0 ∈ syUp fs 19 := by (simp [syUp]; have h9 : 0 < a := (by omega); rw [ha] at h9; simpa [List.getD] using h9)
                have m1 : 1 ∈ syUp fs 19 := by simp [syUp]; rw [hb] at h; simpa [List.getD] using h
                have hl1 := HU.out.symm
                obtain ⟨y, hy⟩ := List.length_eq_one_iff.1 hl1
                rw [hy] at m0 m1
                simp at m0 m1
                omega
            have e : two fs = fs.set 1 1 := by unfold two; rw [if_neg (by rw [← HU.out]; omega), if_pos HU.out.symm, if_neg (by rw [← ha]; exact ha0)]
            have HE2 : Hid _ := e
            have ba1 : ((a : Int) == 0) = false := by simp; omega
            have ba2 : (a == 0) = false := by simp; omega
            subst hb0
            clear e ha hb
            have HE : Hid ((w.setCell ⟨F, 1, none⟩ (.int .i32 1)).heap[F]? = some (.cells (fA (fs.set 1 1)) T (0, 0)) ∧ w.grownBy (w.setCell ⟨F, 1, none⟩ (.int .i32 1)) (some F)) := by
              refine ⟨?_, ⟨rfl, rfl, rfl, by simp [World.setCell], fun x hx hr => ?_⟩⟩
              · rw [heap_setCell_same' _ _ _ _ _ _ HW.out, ← fA_set]; rfl
              · have : x ≠ F := fun e => hr (by rw [e])
                rw [Below.heap_setCell _ _ _ _ (by simpa using this)]
            go_wp2_with fail
            refine wp_loop_rounds 3 ?_
            rw [rounds_succ]
            go_wp2_with fail
            rw [rounds_succ]
            go_wp2_with fail
            rw [rounds_succ]
            go_wp2_with fail
            exact bodyPost_end (v := .tuple #[]) (by simp [results, Ybad.results11, go_sem]) rfl ⟨rfl, by rw [HE2.out]; exact HE.out.1, HE.out.2⟩
end Go.Proofs.YbulkccziDoor
