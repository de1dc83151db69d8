import Derived.Test.YbulkccziDoorIns
namespace Go.Proofs.YbulkccziDoor
open Go.RowKit
/-- The row is there; the count of swaps lies in a block of its own. -/
structure SwS (w : World) (g n off S s : Nat) : Prop where
  cells : ∀ t, t < n → ∃ x : Int, w.cell? ⟨g, off + t, none⟩ = some (.int .u32 x)
  sc : w.cell? ⟨S, 0, none⟩ = some (.int .i64 (s : Int))
  sf : w.frozen? ⟨S, 0, none⟩ = false
  ne : g ≠ S
theorem SwS.drewN {w : World} {g n off S s : Nat} (h : SwS w g n off S s) (q : Nat) : SwS (w.drewN q) g n off S s := ⟨h.cells, h.sc, h.sf, h.ne⟩
theorem SwS.inc {w : World} {g n off S s : Nat} (h : SwS w g n off S s) (q : Nat) : SwS ((w.setCell ⟨S, 0, none⟩ (.int .i64 ((s : Int) + 1))).drewN q) g n off S (s + 1) := by
  refine ⟨fun t ht => ?_, ?_, ?_, h.ne⟩
  · obtain ⟨x, hx⟩ := h.cells t ht
    refine ⟨x, ?_⟩
    show (w.setCell _ _).cell? _ = _
    rw [World.cell?_of_block (Below.heap_setCell _ _ _ _ (by simpa using h.ne)), hx]
  · show (w.setCell _ _).cell? _ = _
    exact World.cell?_setCell_same' w _ _ (by rw [h.sc]; rfl)
  · show (w.setCell _ _).frozen? _ = _
    simpa using h.sf
theorem grown_dr (w : World) (q : Nat) (row : Option Nat) : w.grownBy (w.drewN q) row := ⟨rfl, rfl, rfl, Nat.le_refl _, fun _ _ _ => rfl⟩
theorem grown_st (w : World) (S q : Nat) (v : Value) : w.grownBy ((w.setCell ⟨S, 0, none⟩ v).drewN q) (some S) :=
  ⟨rfl, rfl, rfl, by simp [World.setCell, World.drewN], fun k _ hk => Below.heap_setCell _ _ _ _ (by simpa using hk)⟩
theorem grown_tr {a b c : World} {row : Option Nat} (h : a.grownBy b row) (h' : b.grownBy c row) : a.grownBy c row :=
  ⟨h'.os.trans h.os, h'.tape.trans h.tape, h'.output.trans h.output, Nat.le_trans h.size h'.size, fun k hk hr => (h'.block k (Nat.lt_of_lt_of_le hk h.size) hr).trans (h.block k hk hr)⟩
def Ord2To (g n off S s a b : Nat) (w : World) (e : Ending) (w' : World) : Prop := ∃ x y s' : Nat, e = .returned (.tuple #[.int .i64 (x : Int), .int .i64 (y : Int)]) ∧ ((x = a ∧ y = b) ∨ (x = b ∧ y = a)) ∧ s' ≤ s + 1 ∧ SwS w' g n off S s' ∧ w.grownBy w' (some S)
set_option maxHeartbeats 4000000 in
theorem ord2_any (g n c off a b S s : Nat) (w : World) (h : SwS w g n off S s) (ha : a < n) (hb : b < n) (hs : s ≤ 1000) (_hm : n ≤ 1000) :
    Calls Ybad.prog 41 #[.slice (some ⟨g, off, none⟩) n c, .int .i64 (a : Int), .int .i64 (b : Int), .pointer (some ⟨S, 0, none⟩)] w fun e w' => Ord2To g n off S s a b w e w' := by
  obtain ⟨x, hx⟩ := h.cells a ha
  obtain ⟨y, hy⟩ := h.cells b hb
  have sc := h.sc
  have sf := h.sf
  have H : Hid (SwS w g n off S s) := h
  clear h
  go_enter Ybad.func41, Ybad.ntmps41
  go_wp2
  go_quiet (first | (go_at_call 30; exact Calls.quiet_of_same (less_any _ _ _)))
  go_wp2
  · exact bodyPost_ret (v := .tuple #[.int .i64 (b : Int), .int .i64 (a : Int)]) (by simp [results, Ybad.results41, go_sem]) rfl ⟨b, a, s + 1, rfl, Or.inr ⟨rfl, rfl⟩, by omega, H.out.inc _, grown_st _ _ _ _⟩
  · exact bodyPost_ret (v := .tuple #[.int .i64 (a : Int), .int .i64 (b : Int)]) (by simp [results, Ybad.results41, go_sem]) rfl ⟨a, b, s, rfl, Or.inl ⟨rfl, rfl⟩, by omega, H.out.drewN _, grown_dr _ _ _⟩
set_option maxHeartbeats 4000000 in
theorem med_any (g n c off a b d S s lo hi : Nat) (w : World) (h : SwS w g n off S s) (ha : lo ≤ a ∧ a < hi) (hb : lo ≤ b ∧ b < hi) (hd : lo ≤ d ∧ d < hi) (hh : hi ≤ n) (hs : s ≤ 900) (hm : n ≤ 1000) :
    Calls Ybad.prog 39 #[.slice (some ⟨g, off, none⟩) n c, .int .i64 (a : Int), .int .i64 (b : Int), .int .i64 (d : Int), .pointer (some ⟨S, 0, none⟩)] w fun e w' =>
      ∃ x s' : Nat, e = .returned (.int .i64 (x : Int)) ∧ (lo ≤ x ∧ x < hi) ∧ s' ≤ s + 3 ∧ SwS w' g n off S s' ∧ w.grownBy w' (some S) := by
  have H1 : Hid (Calls Ybad.prog 41 _ _ _) := ord2_any g n c off a b S s w h (by omega) (by omega) (by omega) hm
  clear h
  go_enter Ybad.func39, Ybad.ntmps39
  go_wp2_with fail
  refine H1.out.mono ?_
  rintro e w1 ⟨x1, y1, s1, rfl, hxy1, hs1, HS1, HG1⟩
  have H2 : Hid (Calls Ybad.prog 41 _ _ _) := ord2_any g n c off y1 d S s1 w1 HS1 (by omega) (by omega) (by omega) hm
  have K1 : Hid (w.grownBy w1 (some S)) := HG1
  have hx1 : lo ≤ x1 ∧ x1 < hi := by omega
  have hy1 : lo ≤ y1 ∧ y1 < hi := by omega
  clear HS1 HG1 H1 hxy1
  go_wp2_with fail
  refine H2.out.mono ?_
  rintro e w2 ⟨x2, y2, s2, rfl, hxy2, hs2, HS2, HG2⟩
  have H3 : Hid (Calls Ybad.prog 41 _ _ _) := ord2_any g n c off x1 x2 S s2 w2 HS2 (by omega) (by omega) (by omega) hm
  have K2 : Hid (w.grownBy w2 (some S)) := grown_tr K1.out HG2
  have hx2 : lo ≤ x2 ∧ x2 < hi := by omega
  clear HS2 HG2 H2 K1 hxy2
  go_wp2_with fail
  refine H3.out.mono ?_
  rintro e w3 ⟨x3, y3, s3, rfl, hxy3, hs3, HS3, HG3⟩
  have HS : Hid (SwS w3 g n off S s3) := HS3
  have K3 : Hid (w.grownBy w3 (some S)) := grown_tr K2.out HG3
  have hy3 : lo ≤ y3 ∧ y3 < hi := by omega
  clear HS3 HG3 H3 K2 hxy3
  go_wp2
  go_ret
  exact ⟨y3, s3, rfl, hy3, by omega, HS.out, K3.out⟩
def PivTo (a b : Nat) (w : World) (e : Ending) (w' : World) : Prop := ∃ (x : Nat) (hint : Int), e = .returned (.tuple #[.int .i64 (x : Int), .int .i64 hint]) ∧ (a ≤ x ∧ x < b) ∧ (hint = 0 ∨ hint = 1) ∧ w.grownBy w' none
set_option maxHeartbeats 4000000 in
theorem piv_any (g n c off a b : Nat) (w : World) (hc : ∀ t, t < n → ∃ x : Int, w.cell? ⟨g, off + t, none⟩ = some (.int .u32 x)) (hab : a + 8 ≤ b) (hlt : b < a + 50) (hb : b ≤ n) (hm : n ≤ 1000) (hg : g < w.heap.size) :
    Calls Ybad.prog 27 #[.slice (some ⟨g, off, none⟩) n c, .int .i64 (a : Int), .int .i64 (b : Int)] w fun e w' => PivTo a b w e w' := by
  obtain ⟨l, hbl⟩ : ∃ l, b = a + l := ⟨b - a, by omega⟩
  have hh : (b : Int) - (a : Int) = (l : Int) := by omega
  have hl8 : (8 : Int) ≤ (l : Int) := by omega
  have hl50 : (l : Int) < 50 := by omega
  have HB : Hid (b = a + l) := hbl
  have H0 : SwS (w.alloc (.cells #[.int .i64 0] 3)) g n off w.heap.size 0 := by
    refine ⟨fun t ht => ?_, by unfold World.cell?; rw [heap_alloc_new]; rfl, by unfold World.frozen?; rw [heap_alloc_new]; rfl, by omega⟩
    obtain ⟨x, hx⟩ := hc t ht
    exact ⟨x, by rw [World.cell?_of_block (heap_alloc_old _ _ (by exact hg)), hx]⟩
  have H1 : Hid (Calls Ybad.prog 39 #[.slice (some ⟨g, off, none⟩) n c, .int .i64 ((a : Int) + (l : Int) / 4), .int .i64 ((a : Int) + (l : Int) / 4 * 2), .int .i64 ((a : Int) + (l : Int) / 4 * 3), .pointer (some ⟨w.heap.size, 0, none⟩)] (w.alloc (.cells #[.int .i64 0] 3)) fun e w' =>
      ∃ x s' : Nat, e = .returned (.int .i64 (x : Int)) ∧ (a ≤ x ∧ x < b) ∧ s' ≤ 0 + 3 ∧ SwS w' g n off w.heap.size s' ∧ (w.alloc (.cells #[.int .i64 0] 3)).grownBy w' (some w.heap.size)) := by
    have := med_any g n c off (a + l / 4) (a + l / 4 * 2) (a + l / 4 * 3) w.heap.size 0 a b _ H0 (by omega) (by omega) (by omega) hb (by omega) hm
    have e1 : ((a + l / 4 : Nat) : Int) = (a : Int) + (l : Int) / 4 := by omega
    have e2 : ((a + l / 4 * 2 : Nat) : Int) = (a : Int) + (l : Int) / 4 * 2 := by omega
    have e3 : ((a + l / 4 * 3 : Nat) : Int) = (a : Int) + (l : Int) / 4 * 3 := by omega
    rw [e1, e2, e3] at this
    exact this
  clear hbl H0 hc
  go_enter Ybad.func27, Ybad.ntmps27
  go_wp2_with fail
  refine H1.out.mono ?_
  rintro e w1 ⟨x, s1, rfl, hx, hs1, HS, HG⟩
  have HK : Hid (w.grownBy w1 none) := ⟨HG.os, HG.tape, HG.output, Nat.le_trans (by simp) HG.size, fun k hk _ => by rw [HG.block k (by simp; omega) (by simp; omega), heap_alloc_old _ _ hk]⟩
  have sc := HS.sc
  clear HS HG H1
  have h12 : ¬ (s1 : Int) = 12 := by omega
  have h12b : ((s1 : Int) == 12) = false := by simp; omega
  rcases Nat.eq_zero_or_pos s1 with rfl | hp
  · go_wp2
    exact bodyPost_ret (v := .tuple #[.int .i64 (x : Int), .int .i64 1]) (by simp [results, Ybad.results27, go_sem]) rfl ⟨x, 1, rfl, hx, by omega, HK.out⟩
  · have h0b : ((s1 : Int) == 0) = false := by simp; omega
    have h0c : (s1 == 0) = false := by simp; omega
    have h0d : ¬ s1 = 0 := by omega
    go_wp2
    exact bodyPost_ret (v := .tuple #[.int .i64 (x : Int), .int .i64 0]) (by simp [results, Ybad.results27, go_sem]) rfl ⟨x, 0, rfl, hx, by omega, HK.out⟩
end Go.Proofs.YbulkccziDoor
