import Derived.Test.YbulkcdakDoorDec
import Derived.Test.YbulkcdakDoorTok
import Derived.LoopN
import Derived.OwnWalk
import Derived.WalkSmall
import Derived.Deep.RegionHeld3
import Derived.Deep.QuietTactic
import Derived.BigQuiet
import Derived.Laws.StructEq
import Derived.Laws.Cover2
import Derived.Laws.OwnMore
import Derived.Lib.SmallJoins
namespace Go.Proofs.YbulkcdakDoor
open Go.RowKit
theorem infoU8 : (Ybad.prog.info? 5).map (fun i => (i.zero, i.size, i.bytes)) = some (some (.int .u8 0), 1, 1) := by kernel_rfl
theorem infoU64 : (Ybad.prog.info? 25).map (fun i => (i.zero, i.size, i.bytes)) = some (some (.int .u64 0), 1, 8) := by kernel_rfl
theorem infoBool : (Ybad.prog.info? 4).map (fun i => (i.zero, i.size, i.bytes)) = some (some (.bool false), 1, 1) := by kernel_rfl
def zeros (n : Nat) : Array Value := madeCells #[.int .u8 0] n
theorem make_any (n : Nat) (h : n ≤ 1024) (w : World) : (Instr.makeSlice 30 (.int .i64 (n : Int)) (.int .i64 (n : Int))).run Ybad.prog w = .ok (.slice (some ⟨w.heap.size, 0, none⟩) n n) (w.alloc (.cells (zeros n) 5)) := by
  obtain ⟨i0, hi, hz0, hz1, hz2⟩ := info_parts infoU8
  have := run_make (P := Ybad.prog) w 30 5 i0 (.int .u8 0) Ybad.underlying30 hi hz0 .i64 .i64 n n (by omega) (by omega) (by rw [hz2]; omega) (by omega)
  rw [this, hz1]
  simp [zeros, Value.cells]
def arr (zs : List Int) (n k : Nat) : Array Value := ((List.range n).map fun j => if j < k then .int .u8 ((chT (zs.getD j 0)).toNat : Nat) else .int .u8 0).toArray
theorem arr_size (zs : List Int) (n k : Nat) : (arr zs n k).size = n := by simp [arr]
theorem arr_zero (zs : List Int) (n : Nat) : zeros n = arr zs n 0 := by
  apply Array.ext'
  rw [zeros, toList_madeCells_one]
  simp [arr, List.map_const']
theorem arr_at (zs : List Int) (n k j : Nat) (hj : j < n) : (arr zs n k)[j]? = some (if j < k then .int .u8 ((chT (zs.getD j 0)).toNat : Nat) else .int .u8 0) := by
  simp [arr, hj]
theorem arr_succ (zs : List Int) (n k : Nat) : arr zs n (k + 1) = (arr zs n k).setIfInBounds k (.int .u8 ((chT (zs.getD k 0)).toNat : Nat)) := by
  apply Array.ext_getElem?
  intro i
  rw [Array.getElem?_setIfInBounds]
  by_cases hi : i < n
  · rw [arr_at _ _ _ _ hi, arr_at _ _ _ _ hi, arr_size]
    by_cases hik : k = i
    · subst hik; simp [hi]
    · have : (i < k + 1) = (i < k) := by simp; omega
      simp [hik, this]
  · have h1 : (arr zs n (k + 1))[i]? = none := by apply Array.getElem?_eq_none; rw [arr_size]; omega
    have h2 : (arr zs n k)[i]? = none := by apply Array.getElem?_eq_none; rw [arr_size]; omega
    rw [h1, h2, arr_size]
    by_cases hik : k = i
    · subst hik; simp [hi]
    · simp [hik]
def bytesA (ls : List UInt8) : Array Value := (ls.map fun c => Value.int .u8 (c.toNat : Nat)).toArray
theorem arr_full (zs : List Int) (n : Nat) : arr zs n n = bytesA (lineL zs n) := by
  unfold arr bytesA lineL
  rw [List.map_map]
  congr 1
  apply List.map_congr_left
  intro j hj
  have : j < n := by simpa using hj
  simp [this]
theorem ret_bool {a b : Bool} (h : a = b) : Ending.returned (.bool a) = .returned (.bool b) := by rw [h]
set_option maxHeartbeats 400000 in
theorem space_any (c : UInt8) (w : World) : Calls Ybad.prog 11 #[.int .u8 (c.toNat : Int)] w fun e w' => e = .returned (.bool (Lib.isSp c)) ∧ w' = w := by
  have hc := c.toNat_lt
  have HE : Hid (Lib.isSp c = _) := isSp_int c
  by_cases h1 : (c.toNat : Int) = 32
  · go_enter Ybad.func11, Ybad.ntmps11
    go_wp2
    go_ret
    exact ⟨ret_bool (by rw [HE.out, h1]; simp), rfl⟩
  · by_cases h2 : (9 : Int) ≤ (c.toNat : Int)
    · by_cases h3 : (c.toNat : Int) ≤ 13
      · go_enter Ybad.func11, Ybad.ntmps11
        go_wp2
        go_ret
        exact ⟨ret_bool (by rw [HE.out]; simp [h1, h2, h3]), rfl⟩
      · go_enter Ybad.func11, Ybad.ntmps11
        go_wp2
        go_ret
        exact ⟨ret_bool (by rw [HE.out, Bool.eq_iff_iff]; simp; omega), rfl⟩
    · go_enter Ybad.func11, Ybad.ntmps11
      go_wp2
      go_ret
      exact ⟨ret_bool (by rw [HE.out, Bool.eq_iff_iff]; simp; omega), rfl⟩

theorem tab_idx (z : Int) (h : (z % 26).toNat < (⟨#[48, 49, 50, 51, 52, 53, 54, 55, 56, 57, 48, 49, 50, 51, 52, 53, 32, 9, 10, 11, 12, 13, 43, 45, 95, 120]⟩ : ByteArray).size) :
    (⟨#[48, 49, 50, 51, 52, 53, 54, 55, 56, 57, 48, 49, 50, 51, 52, 53, 32, 9, 10, 11, 12, 13, 43, 45, 95, 120]⟩ : ByteArray)[(z % 26).toNat]'h = chT z := by
  unfold chT Array.getD
  have h' : (z % 26).toNat < tabA.data.size := h
  rw [dif_pos h']
  rfl
def row25 (done : List (List UInt8)) : List Value := done.map fun f => Value.int .u64 (mvF 0 f : Nat)
def row4 (done : List (List UInt8)) : List Value := done.map fun f => Value.bool (gd f)
/-- What the reading's rounds keep. -/
structure MS (w : World) (ls : List UInt8) (done done' : List (List UInt8)) (vv gv : Value) (wr : World) : Prop where
  ln : wr.heap[w.heap.size]? = some (.cells (bytesA ls) 5 (0, 0))
  vo : wr.ownsRow (w.heap.size + 1) 25 1 vv done.length (row25 done)
  go : wr.ownsRow (w.heap.size + 1) 4 1 gv done'.length (row4 done')
  bel : Below w.heap.size w wr
theorem MS.start (w : World) (ls : List UInt8) : MS w ls [] [] (.slice none 0 0) (.slice none 0 0) (w.alloc (.cells (bytesA ls) 5)) :=
  ⟨heap_alloc_new _ _, World.ownsRow_nil _ _ _ _, World.ownsRow_nil _ _ _ _, (Below.refl _ _).alloc (Nat.le_refl _) _⟩
theorem MS.lt {w wr : World} {ls : List UInt8} {done done' : List (List UInt8)} {vv gv : Value} (h : MS w ls done done' vv gv wr) : w.heap.size < wr.heap.size := (Array.getElem?_eq_some_iff.1 h.ln).1
theorem MS.cell {w wr : World} {ls : List UInt8} {done done' : List (List UInt8)} {vv gv : Value} (h : MS w ls done done' vv gv wr) {k : Nat} {c : UInt8} (hk : ls[k]? = some c) : wr.cell? ⟨w.heap.size, k, none⟩ = some (.int .u8 (c.toNat : Nat)) := by
  simp [World.cell?, h.ln, bytesA, hk]
theorem own_ne {w : World} {base : Nat} {e e' : TypeId} {v v' : Value} {n n' : Nat} {xs xs' : List Value} (h : w.ownsRow base e 1 v n xs) (h' : w.ownsRow base e' 1 v' n' xs') (hne : e ≠ e') : v.ownBlock = none ∨ v.ownBlock ≠ v'.ownBlock := by
  rcases h.2 with ⟨rfl, _⟩ | ⟨g, cap, cu, rfl, hb, hg, _⟩
  · exact Or.inl rfl
  · rcases h'.2 with ⟨rfl, _⟩ | ⟨g', cap', cu', rfl, hb', hg', _⟩
    · exact Or.inr (by simp [Value.ownBlock])
    · refine Or.inr fun he => ?_
      simp [Value.ownBlock] at he
      subst he
      rw [hg] at hg'
      simp at hg'
      exact hne hg'.2
theorem own_form {w : World} {base : Nat} {e : TypeId} {v : Value} {n : Nat} {xs : List Value} (h : w.ownsRow base e 1 v n xs) : ∃ a c, v = .slice a n c := by
  rcases h.2 with ⟨rfl, rfl⟩ | ⟨g, cap, cu, rfl, _⟩
  · exact ⟨none, 0, rfl⟩
  · exact ⟨_, _, rfl⟩
theorem MS.app1 {w wr w1 : World} {ls : List UInt8} {done : List (List UInt8)} {vv gv v' : Value} {o : Obj} {f : List UInt8} (h : MS w ls done done vv gv wr)
    (ho : w1.ownsRow (w.heap.size + 1) 25 1 v' (done.length + 1) (row25 done ++ [Value.int .u64 (mvF 0 f : Nat)])) (hg : (wr.alloc o).grownBy w1 vv.ownBlock) : MS w ls (done ++ [f]) done v' gv w1 := by
  have hl := h.lt
  have hvl := h.vo.lt
  refine ⟨?_, ?_, ?_, ?_⟩
  · rw [hg.block _ (by simp; omega) ?_, heap_alloc_old _ _ hl, h.ln]
    intro he
    have := (hvl _ he.symm).1
    omega
  · simpa [row25] using ho
  · exact (h.go.alloc o).kept hg (own_ne (h.go.alloc o) (h.vo.alloc o) (by decide))
  · exact (h.bel.alloc (Nat.le_of_lt hl) o).grown hg (by simp; omega) (fun k hk => by have := (hvl k hk).1; omega)
theorem MS.app2 {w wr w1 : World} {ls : List UInt8} {done done' : List (List UInt8)} {vv gv v' : Value} {o : Obj} {f : List UInt8} (h : MS w ls done done' vv gv wr)
    (ho : w1.ownsRow (w.heap.size + 1) 4 1 v' (done'.length + 1) (row4 done' ++ [Value.bool (gd f)])) (hg : (wr.alloc o).grownBy w1 gv.ownBlock) : MS w ls done (done' ++ [f]) vv v' w1 := by
  have hl := h.lt
  have hvl := h.go.lt
  refine ⟨?_, ?_, ?_, ?_⟩
  · rw [hg.block _ (by simp; omega) ?_, heap_alloc_old _ _ hl, h.ln]
    intro he
    have := (hvl _ he.symm).1
    omega
  · exact (h.vo.alloc o).kept hg (own_ne (h.vo.alloc o) (h.go.alloc o) (by decide))
  · simpa [row4] using ho
  · exact (h.bel.alloc (Nat.le_of_lt hl) o).grown hg (by simp; omega) (fun k hk => by have := (hvl k hk).1; omega)
theorem cur_no (ls : List UInt8) (i k : Nat) (c : UInt8) (hik : i ≤ k) (hk : ls[k]? = some c) (hs : Lib.isSp c = false) (h : ∀ x ∈ cur ls i k, Lib.isSp x = false) : ∀ x ∈ cur ls i (k + 1), Lib.isSp x = false := by
  rw [cur_succ ls i k c hik hk]
  intro x hx
  rcases List.mem_append.1 hx with h' | h'
  · exact h x h'
  · simp at h'; subst h'; exact hs
theorem step_bad (ls : List UInt8) (i k : Nat) (c : UInt8) (hik : i ≤ k) (hk : ls[k]? = some c) (hd : dig c = false) : mvF 0 (cur ls i (k + 1)) = mvF 0 (cur ls i k) ∧ (cur ls i (k + 1)).all dig = false := by
  rw [cur_succ ls i k c hik hk, mvF_snoc, all_snoc, hd]
  simp [mstep, hd]
theorem step_dig (ls : List UInt8) (i k : Nat) (c : UInt8) (hik : i ≤ k) (hk : ls[k]? = some c) (hd : dig c = true) (hv : mvF 0 (cur ls i k) ≤ 4294967295) : mvF 0 (cur ls i (k + 1)) = mvF 0 (cur ls i k) * 10 + (c.toNat - 48) ∧ (cur ls i (k + 1)).all dig = (cur ls i k).all dig := by
  rw [cur_succ ls i k c hik hk, mvF_snoc, all_snoc, hd]
  simp [mstep, hd, hv]
theorem step_big (ls : List UInt8) (i k : Nat) (c : UInt8) (hik : i ≤ k) (hk : ls[k]? = some c) (hd : dig c = true) (hv : ¬ mvF 0 (cur ls i k) ≤ 4294967295) : mvF 0 (cur ls i (k + 1)) = mvF 0 (cur ls i k) ∧ (cur ls i (k + 1)).all dig = (cur ls i k).all dig := by
  rw [cur_succ ls i k c hik hk, mvF_snoc, all_snoc, hd]
  simp [mstep, hv]

theorem eq26 (w : World) : (Op.equalIn 10000 26 (.agg #[.int .u64 0, .int .u64 0, .int .u64 0]) (.agg #[.int .u64 0, .int .u64 0, .int .u64 0])).run Ybad.prog w = .ok true w := by
  have u3 := Ybad.underlying25
  have a3 := Ybad.isAgg25
  have z3 := Ybad.sizeOf25
  rw [show (10000 : Nat) = 9999 + 1 from rfl, Op.equalIn]
  simp only [Sem.run_bind, run_underlying Ybad.underlying26, Result.andThen_ok]
  simp only [Std.Legacy.Range.forIn_eq_forIn_range', Std.Legacy.Range.size, Nat.sub_zero, Nat.add_sub_cancel, Nat.div_one, List.range'_succ, List.range'_zero, List.forIn_cons, List.forIn_nil]
  go_simp
theorem gd_good (f : List UInt8) (h : f ≠ []) : good f = gd f := good_iff f h
/-- What the third field's call hands back, by the first bad field. -/
theorem ext_A (s : ByteArray) (w : World) (hs : s.size ≤ 100000) (hascii : ∀ (j : Nat) b, s.data.toList[j]? = some b → b.toNat < 128) (hg : Glob w) (f0 f1 f2 : List UInt8) (hfs : Lib.fields s.data.toList = [f0, f1, f2])
    (hne : ∀ f ∈ [f0, f1, f2], f ≠ []) (hl : ∀ f ∈ [f0, f1, f2], f.length ≤ 100000) (i0 i1 i2 : Nat) (ok : Bool)
    (h : (gd f0 = true ∧ gd f1 = true ∧ gd f2 = true ∧ i0 = mvF 0 f0 ∧ i1 = mvF 0 f1 ∧ i2 = mvF 0 f2 ∧ ok = true) ∨ (gd f0 = false ∧ i0 = uOf f0 ∧ i1 = 0 ∧ i2 = 0 ∧ ok = false)
      ∨ (gd f0 = true ∧ gd f1 = false ∧ i0 = mvF 0 f0 ∧ i1 = uOf f1 ∧ i2 = 0 ∧ ok = false) ∨ (gd f0 = true ∧ gd f1 = true ∧ gd f2 = false ∧ i0 = mvF 0 f0 ∧ i1 = mvF 0 f1 ∧ i2 = uOf f2 ∧ ok = false)) :
    Calls Ybad.prog 10 #[.string s] w fun e w' => e = .returned (.tuple #[.agg #[.int .u64 (i0 : Nat), .int .u64 (i1 : Nat), .int .u64 (i2 : Nat)], .bool ok]) ∧ Below w.heap.size w w' := by
  have hr := ext_3 s w hs hascii hg f0 f1 f2 hfs (hl _ (by simp)) (hl _ (by simp)) (hl _ (by simp))
  have n0 := hne f0 (by simp)
  have n1 := hne f1 (by simp)
  have n2 := hne f2 (by simp)
  have g0 := gd_good f0 n0
  have g1 := gd_good f1 n1
  have g2 := gd_good f2 n2
  have u0 := uOf_good f0 n0
  have u1 := uOf_good f1 n1
  have u2 := uOf_good f2 n2
  rw [g0] at u0
  rw [g1] at u1
  rw [g2] at u2
  have e1 : idsR f0 f1 f2 = #[.int .u64 (i0 : Nat), .int .u64 (i1 : Nat), .int .u64 (i2 : Nat)] ∧ okB f0 f1 f2 = ok := by
    rcases h with ⟨a, b, c, rfl, rfl, rfl, rfl⟩ | ⟨a, rfl, rfl, rfl, rfl⟩ | ⟨a, b, rfl, rfl, rfl, rfl⟩ | ⟨a, b, c, rfl, rfl, rfl, rfl⟩
    · simp [idsR, goods, okB, g0, g1, g2, a, b, c, idsA, idAt, u0 a, u1 b, u2 c]
    · simp [idsR, goods, okB, g0, a, idsA, idAt]
    · simp [idsR, goods, okB, g0, g1, a, b, idsA, idAt, u0 a]
    · simp [idsR, goods, okB, g0, g1, g2, a, b, c, idsA, idAt, u0 a, u1 b]
  rw [e1.1, e1.2] at hr
  exact hr
theorem cells3 {w wr w2 : World} {ls : List UInt8} {f0 f1 f2 : List UInt8} {vv gv : Value} (h : MS w ls [f0, f1, f2] [f0, f1, f2] vv gv wr) (hb : Below wr.heap.size wr w2) :
    ∃ g1 c1 g2 c2, vv = .slice (some ⟨g1, 0, none⟩) 3 c1 ∧ gv = .slice (some ⟨g2, 0, none⟩) 3 c2 ∧ g1 < w2.heap.size ∧ g2 < w2.heap.size ∧
      (w2.cell? ⟨g1, 0, none⟩ = some (.int .u64 (mvF 0 f0 : Nat)) ∧ w2.cell? ⟨g1, 1, none⟩ = some (.int .u64 (mvF 0 f1 : Nat)) ∧ w2.cell? ⟨g1, 2, none⟩ = some (.int .u64 (mvF 0 f2 : Nat))) ∧
      (w2.cell? ⟨g2, 0, none⟩ = some (.bool (gd f0)) ∧ w2.cell? ⟨g2, 1, none⟩ = some (.bool (gd f1)) ∧ w2.cell? ⟨g2, 2, none⟩ = some (.bool (gd f2))) := by
  obtain ⟨g1, c1, rfl⟩ := Joins.ownsRow_form h.vo (by simp)
  obtain ⟨g2, c2, rfl⟩ := Joins.ownsRow_form h.go (by simp)
  have l1 := (h.vo.lt g1 rfl).2
  have l2 := (h.go.lt g2 rfl).2
  have hs := hb.size
  have k1 := fun j (hj : j < 3 * 1) => h.vo.cellAt j hj
  have k2 := fun j (hj : j < 3 * 1) => h.go.cellAt j hj
  refine ⟨g1, c1, g2, c2, rfl, rfl, by omega, by omega, ⟨?_, ?_, ?_⟩, ⟨?_, ?_, ?_⟩⟩
  · rw [hb.cell (by exact l1), k1 0 (by omega)]; rfl
  · rw [hb.cell (by exact l1), k1 1 (by omega)]; rfl
  · rw [hb.cell (by exact l1), k1 2 (by omega)]; rfl
  · rw [hb.cell (by exact l2), k2 0 (by omega)]; rfl
  · rw [hb.cell (by exact l2), k2 1 (by omega)]; rfl
  · rw [hb.cell (by exact l2), k2 2 (by omega)]; rfl

set_option maxRecDepth 8000 in
set_option maxHeartbeats 4000000 in
theorem model_walk (a0 : Option Addr) (n cap : Nat) (zs : List Int) (w : World) (hn : n ≤ 1024) (hg : Glob w)
   (hc : ∀ j, j < n → ∃ b off, a0 = some ⟨b, off, none⟩ ∧ b < w.heap.size ∧ w.cell? ⟨b, off + j, none⟩ = some (.int .u8 (zs.getD j 0)))
   (hz : ∀ j : Nat, 0 ≤ zs[j]?.getD 0 ∧ zs[j]?.getD 0 ≤ 255) :
    Calls Ybad.prog 4 #[.slice a0 n cap] w fun e w' => e = .returned (.bool true) ∧ Below w.heap.size w w' := by
  have HG : Hid (Glob w) := hg
  clear hg
  have hmk := make_any n hn
  have hcv := conv_any (w.alloc (.cells (bytesA (lineL zs n)) 5)) w.heap.size 0 n n (lineL zs n) (lineL_len zs n) (fun j hj => by simp [bytesA, hj])
  have HL : Hid (∀ x ∈ lineL zs n, x.toNat < 128) := lineL_lt zs n
  go_enter Ybad.func4, Ybad.ntmps4
  go_wp2
  go_loopw [25] (fun i wr => ∃ k : Nat, k ≤ n ∧ i = .int .i64 k ∧ wr = w.alloc (.cells (arr zs n k) 5)) (fun i _ => n - (intOf i).toNat)
  case atStart => exact ⟨0, Nat.zero_le _, rfl, by rw [arr_zero]⟩
  case round =>
    obtain ⟨k, hk, rfl, rfl⟩ := hrel
    by_cases hlt : k < n
    · obtain ⟨b, off, rfl, hb, hcx⟩ := hc k hlt
      clear hc hcv
      have hsz := arr_size zs n k
      have hzk := hz k
      go_wp2
      go_roundw
      case rel =>
        refine ⟨k + 1, by omega, by go_num, ?_⟩
        rw [arr_succ, tab_idx]
        simp
      case measure => simp [intOf]; omega
    · obtain rfl : n = k := by omega
      clear hc hmk hz
      rw [arr_full]
      have hln := lineL_len zs n
      generalize lineL zs n = ls at *
      go_wp2
      clear hcv
      go_loopw [7, 8, 9] (fun v g i wr => ∃ (k : Nat) (done : List (List UInt8)), k ≤ n ∧ i = .int .i64 k ∧ Hid (Tok ls done k) ∧ Hid (MS w ls done done v g wr)) (fun _ _ i _ => n - (intOf i).toNat)
      case atStart => exact ⟨0, [], Nat.zero_le _, rfl, Tok.start ls, MS.start w ls⟩
      case round =>
        obtain ⟨k, done, hk1, rfl, HT, HM⟩ := hrel
        by_cases hlt1 : k < n
        · obtain ⟨c, hkc⟩ : ∃ c, ls[k]? = some c := ⟨_, List.getElem?_eq_getElem (by omega)⟩
          have hcell := HM.out.cell hkc
          have HK : Hid (ls[k]? = some c) := hkc
          clear hkc
          go_wp2_with fail
          refine (space_any c _).mono ?_
          rintro e w1 ⟨rfl, rfl⟩
          cases hs : Lib.isSp c with
          | true =>
            go_wp2
            go_roundw
            case rel => exact ⟨k + 1, done, by omega, by go_num, HT.out.space HK.out hs, HM.out⟩
            case measure => simp [intOf]; omega
          | false =>
            have HS0 : Hid (Lib.isSp c = false) := hs
            clear hs hcell
            go_wp2
            go_loopw [9, 10, 11] (fun i v g wr => ∃ j : Nat, k ≤ j ∧ j ≤ n ∧ i = .int .i64 j ∧ v = .int .u64 (mvF 0 (cur ls k j) : Nat) ∧ g = .bool ((cur ls k j).all dig) ∧ Hid (∀ x ∈ cur ls k j, Lib.isSp x = false) ∧ wr = w1) (fun i _ _ _ => n - (intOf i).toNat)
            case atStart => exact ⟨k, Nat.le_refl _, hk1, rfl, by rw [cur_self]; rfl, by rw [cur_self]; rfl, fun x hx => by (rw [cur_self] at hx; cases hx), rfl⟩
            case round =>
              obtain ⟨j, hkj, hjn, rfl, rfl, rfl, HN, rfl⟩ := hrel
              have hvl := mvF_lt (cur ls k j)
              by_cases hgo : j < n ∧ ∃ c', ls[j]? = some c' ∧ Lib.isSp c' = false
              · obtain ⟨hjl, c', hc', hs'⟩ := hgo
                have hcell := HM.out.cell hc'
                have HN' : Hid (∀ x ∈ cur ls k (j + 1), Lib.isSp x = false) := cur_no ls k j c' hkj hc' hs' HN.out
                have hc8 := c'.toNat_lt
                cases hd : dig c' with
                | false =>
                  have HB : Hid (_ ∧ _) := step_bad ls k j c' hkj hc' hd
                  unfold dig at hd
                  go_wp2_with fail
                  refine (space_any c' _).mono ?_
                  rintro e w2 ⟨rfl, rfl⟩
                  rw [hs']
                  by_cases h48 : (c'.toNat : Int) < 48
                  · go_wp2
                    go_roundw
                    case rel => exact ⟨j + 1, by omega, by omega, by go_num, by rw [HB.out.1], by rw [HB.out.2], HN'.out, by first | rfl | trivial⟩
                    case measure => simp [intOf]; omega
                  · have h57 : (57 : Int) < (c'.toNat : Int) := by simp at hd; omega
                    go_wp2
                    go_roundw
                    case rel => exact ⟨j + 1, by omega, by omega, by go_num, by rw [HB.out.1], by rw [HB.out.2], HN'.out, by first | rfl | trivial⟩
                    case measure => simp [intOf]; omega
                | true =>
                  have h48 : (48 : Int) ≤ (c'.toNat : Int) := by unfold dig at hd; simp at hd; omega
                  have h57 : (c'.toNat : Int) ≤ 57 := by unfold dig at hd; simp at hd; omega
                  by_cases hv : mvF 0 (cur ls k j) ≤ 4294967295
                  · have HB : Hid (_ ∧ _) := step_dig ls k j c' hkj hc' hd hv
                    have hv' : (mvF 0 (cur ls k j) : Int) ≤ 4294967295 := by omega
                    clear hd
                    go_wp2_with fail
                    refine (space_any c' _).mono ?_
                    rintro e w2 ⟨rfl, rfl⟩
                    rw [hs']
                    go_wp2
                    go_roundw
                    case rel => exact ⟨j + 1, by omega, by omega, by go_num, by rw [HB.out.1]; go_num, by rw [HB.out.2], HN'.out, by first | rfl | trivial⟩
                    case measure => simp [intOf]; omega
                  · have HB : Hid (_ ∧ _) := step_big ls k j c' hkj hc' hd hv
                    have hv' : (4294967295 : Int) < (mvF 0 (cur ls k j) : Int) := by omega
                    clear hd
                    go_wp2_with fail
                    refine (space_any c' _).mono ?_
                    rintro e w2 ⟨rfl, rfl⟩
                    rw [hs']
                    go_wp2
                    go_roundw
                    case rel => exact ⟨j + 1, by omega, by omega, by go_num, by rw [HB.out.1], by rw [HB.out.2], HN'.out, by first | rfl | trivial⟩
                    case measure => simp [intOf]; omega
              · have hstop : j = n ∨ ∃ c', ls[j]? = some c' ∧ Lib.isSp c' = true := by
                  by_cases hjn' : j < n
                  · right
                    refine ⟨ls[j], List.getElem?_eq_getElem (by omega), ?_⟩
                    cases hsj : Lib.isSp ls[j] with
                    | true => rfl
                    | false => exact absurd ⟨hjn', ls[j], List.getElem?_eq_getElem (by omega), hsj⟩ hgo
                  · left; omega
                have hkj' : k < j := by
                  rcases Nat.lt_or_ge k j with h | h
                  · exact h
                  · obtain rfl : k = j := by omega
                    exact absurd ⟨hlt1, c, HK.out, HS0.out⟩ hgo
                have HT1 : Hid (Tok ls (done ++ [cur ls k j]) j) := HT.out.field hkj' (by omega) HN.out (by rcases hstop with h | h; (left; omega); (right; exact h))
                have hdl := HT.out.len
                clear hgo HN HK HS0 HT
                generalize cur ls k j = f at *
                obtain ⟨iv, hiv, hzv0, hzv1, hzv2⟩ := info_parts infoU64
                obtain ⟨ib, hib, hzb0, hzb1, hzb2⟩ := info_parts infoBool
                have HI : Hid (_ ∧ _ ∧ _ ∧ _) := ⟨hiv, hzv0, hzv1, hzv2⟩
                have HJ : Hid (_ ∧ _ ∧ _ ∧ _) := ⟨hib, hzb0, hzb1, hzb2⟩
                clear hiv hzv0 hzv1 hzv2 hib hzb0 hzb1 hzb2
                have HGD : Hid (gd f = if mvF 0 f ≤ 4294967295 then f.all dig else false) := by
                  show _ = _
                  unfold gd
                  split <;> simp_all
                rcases (by omega : (mvF 0 f : Int) ≤ 4294967295 ∨ (4294967295 : Int) < (mvF 0 f : Int)) with hv | hv
                all_goals rcases hstop with hjn' | ⟨c', hc', hs'⟩
                · go_wp2_with (first | (at_builtin; refine wpList_append_own _ rfl _ _ 31 rfl (w.heap.size + 1) 25 iv (.int .u64 0) 1 8 Ybad.underlying31 HI.out.1 HI.out.2.1 HI.out.2.2.1 HI.out.2.2.2 rfl (by decide) _ _ _ rfl (HM.out.vo.alloc _) ⟨_, 0, none⟩ 1 1 [.int .u64 (mvF 0 f : Nat)] rfl rfl ?c1 ?c2 ?c3 ?c4 ?c5 ?_) | go_in)
                  case c1 =>
                    intro j u hj
                    match j, hj with
                    | 0, hj => simp at hj; subst hj; simp [Addr.add]
                  case c2 => intro u hu; simp at hu; subst hu; rfl
                  case c3 => unfold maxLen; omega
                  case c4 => omega
                  case c5 => have := HM.out.lt; simp; omega
                  intro v' w3 ho hgr _
                  have HM1 : Hid (MS w ls (done ++ [f]) done v' _ w3) := HM.out.app1 ho hgr
                  have hl2 := HM1.out.lt
                  clear HM ho hgr
                  go_wp2_with (first | (at_builtin; refine wpList_append_own _ rfl _ _ 32 rfl (w.heap.size + 1) 4 ib (.bool false) 1 1 Ybad.underlying32 HJ.out.1 HJ.out.2.1 HJ.out.2.2.1 HJ.out.2.2.2 rfl (by decide) _ _ _ rfl (HM1.out.go.alloc _) ⟨_, 0, none⟩ 1 1 [.bool (f.all dig)] rfl rfl ?c1 ?c2 ?c3 ?c4 ?c5 ?_) | go_in)
                  case c1 =>
                    intro j u hj
                    match j, hj with
                    | 0, hj => simp at hj; subst hj; simp [Addr.add]
                  case c2 => intro u hu; simp at hu; subst hu; rfl
                  case c3 => unfold maxLen; omega
                  case c4 => omega
                  case c5 => have := HM1.out.lt; simp; omega
                  intro v2 w4 ho hgr _
                  have HM2 : Hid (MS w ls (done ++ [f]) (done ++ [f]) v' v2 w4) := HM1.out.app2 (by rw [HGD.out]; rw [if_pos (by omega)]; exact ho) hgr
                  clear HM1 ho hgr
                  go_wp2
                  go_roundw
                  case rel => exact ⟨j, done ++ [f], by omega, by go_num, HT1.out, HM2.out⟩
                  case measure => simp [intOf]; omega
                · have hcell := HM.out.cell hc'
                  have hjl : j < n := by have := (List.getElem?_eq_some_iff.1 hc').1; omega
                  go_wp2_with fail
                  refine (space_any c' _).mono ?_
                  rintro e w2 ⟨rfl, rfl⟩
                  rw [hs']
                  clear hcell
                  go_wp2_with (first | (at_builtin; refine wpList_append_own _ rfl _ _ 31 rfl (w.heap.size + 1) 25 iv (.int .u64 0) 1 8 Ybad.underlying31 HI.out.1 HI.out.2.1 HI.out.2.2.1 HI.out.2.2.2 rfl (by decide) _ _ _ rfl (HM.out.vo.alloc _) ⟨_, 0, none⟩ 1 1 [.int .u64 (mvF 0 f : Nat)] rfl rfl ?c1 ?c2 ?c3 ?c4 ?c5 ?_) | go_in)
                  case c1 =>
                    intro j u hj
                    match j, hj with
                    | 0, hj => simp at hj; subst hj; simp [Addr.add]
                  case c2 => intro u hu; simp at hu; subst hu; rfl
                  case c3 => unfold maxLen; omega
                  case c4 => omega
                  case c5 => have := HM.out.lt; simp; omega
                  intro v' w3 ho hgr _
                  have HM1 : Hid (MS w ls (done ++ [f]) done v' _ w3) := HM.out.app1 ho hgr
                  have hl2 := HM1.out.lt
                  clear HM ho hgr
                  go_wp2_with (first | (at_builtin; refine wpList_append_own _ rfl _ _ 32 rfl (w.heap.size + 1) 4 ib (.bool false) 1 1 Ybad.underlying32 HJ.out.1 HJ.out.2.1 HJ.out.2.2.1 HJ.out.2.2.2 rfl (by decide) _ _ _ rfl (HM1.out.go.alloc _) ⟨_, 0, none⟩ 1 1 [.bool (f.all dig)] rfl rfl ?c1 ?c2 ?c3 ?c4 ?c5 ?_) | go_in)
                  case c1 =>
                    intro j u hj
                    match j, hj with
                    | 0, hj => simp at hj; subst hj; simp [Addr.add]
                  case c2 => intro u hu; simp at hu; subst hu; rfl
                  case c3 => unfold maxLen; omega
                  case c4 => omega
                  case c5 => have := HM1.out.lt; simp; omega
                  intro v2 w4 ho hgr _
                  have HM2 : Hid (MS w ls (done ++ [f]) (done ++ [f]) v' v2 w4) := HM1.out.app2 (by rw [HGD.out]; rw [if_pos (by omega)]; exact ho) hgr
                  clear HM1 ho hgr
                  go_wp2
                  go_roundw
                  case rel => exact ⟨j, done ++ [f], by omega, by go_num, HT1.out, HM2.out⟩
                  case measure => simp [intOf]; omega
                · go_wp2_with (first | (at_builtin; refine wpList_append_own _ rfl _ _ 31 rfl (w.heap.size + 1) 25 iv (.int .u64 0) 1 8 Ybad.underlying31 HI.out.1 HI.out.2.1 HI.out.2.2.1 HI.out.2.2.2 rfl (by decide) _ _ _ rfl (HM.out.vo.alloc _) ⟨_, 0, none⟩ 1 1 [.int .u64 (mvF 0 f : Nat)] rfl rfl ?c1 ?c2 ?c3 ?c4 ?c5 ?_) | go_in)
                  case c1 =>
                    intro j u hj
                    match j, hj with
                    | 0, hj => simp at hj; subst hj; simp [Addr.add]
                  case c2 => intro u hu; simp at hu; subst hu; rfl
                  case c3 => unfold maxLen; omega
                  case c4 => omega
                  case c5 => have := HM.out.lt; simp; omega
                  intro v' w3 ho hgr _
                  have HM1 : Hid (MS w ls (done ++ [f]) done v' _ w3) := HM.out.app1 ho hgr
                  have hl2 := HM1.out.lt
                  clear HM ho hgr
                  go_wp2_with (first | (at_builtin; refine wpList_append_own _ rfl _ _ 32 rfl (w.heap.size + 1) 4 ib (.bool false) 1 1 Ybad.underlying32 HJ.out.1 HJ.out.2.1 HJ.out.2.2.1 HJ.out.2.2.2 rfl (by decide) _ _ _ rfl (HM1.out.go.alloc _) ⟨_, 0, none⟩ 1 1 [.bool (false)] rfl rfl ?c1 ?c2 ?c3 ?c4 ?c5 ?_) | go_in)
                  case c1 =>
                    intro j u hj
                    match j, hj with
                    | 0, hj => simp at hj; subst hj; simp [Addr.add]
                  case c2 => intro u hu; simp at hu; subst hu; rfl
                  case c3 => unfold maxLen; omega
                  case c4 => omega
                  case c5 => have := HM1.out.lt; simp; omega
                  intro v2 w4 ho hgr _
                  have HM2 : Hid (MS w ls (done ++ [f]) (done ++ [f]) v' v2 w4) := HM1.out.app2 (by rw [HGD.out]; rw [if_neg (by omega)]; exact ho) hgr
                  clear HM1 ho hgr
                  go_wp2
                  go_roundw
                  case rel => exact ⟨j, done ++ [f], by omega, by go_num, HT1.out, HM2.out⟩
                  case measure => simp [intOf]; omega
                · have hcell := HM.out.cell hc'
                  have hjl : j < n := by have := (List.getElem?_eq_some_iff.1 hc').1; omega
                  go_wp2_with fail
                  refine (space_any c' _).mono ?_
                  rintro e w2 ⟨rfl, rfl⟩
                  rw [hs']
                  clear hcell
                  go_wp2_with (first | (at_builtin; refine wpList_append_own _ rfl _ _ 31 rfl (w.heap.size + 1) 25 iv (.int .u64 0) 1 8 Ybad.underlying31 HI.out.1 HI.out.2.1 HI.out.2.2.1 HI.out.2.2.2 rfl (by decide) _ _ _ rfl (HM.out.vo.alloc _) ⟨_, 0, none⟩ 1 1 [.int .u64 (mvF 0 f : Nat)] rfl rfl ?c1 ?c2 ?c3 ?c4 ?c5 ?_) | go_in)
                  case c1 =>
                    intro j u hj
                    match j, hj with
                    | 0, hj => simp at hj; subst hj; simp [Addr.add]
                  case c2 => intro u hu; simp at hu; subst hu; rfl
                  case c3 => unfold maxLen; omega
                  case c4 => omega
                  case c5 => have := HM.out.lt; simp; omega
                  intro v' w3 ho hgr _
                  have HM1 : Hid (MS w ls (done ++ [f]) done v' _ w3) := HM.out.app1 ho hgr
                  have hl2 := HM1.out.lt
                  clear HM ho hgr
                  go_wp2_with (first | (at_builtin; refine wpList_append_own _ rfl _ _ 32 rfl (w.heap.size + 1) 4 ib (.bool false) 1 1 Ybad.underlying32 HJ.out.1 HJ.out.2.1 HJ.out.2.2.1 HJ.out.2.2.2 rfl (by decide) _ _ _ rfl (HM1.out.go.alloc _) ⟨_, 0, none⟩ 1 1 [.bool (false)] rfl rfl ?c1 ?c2 ?c3 ?c4 ?c5 ?_) | go_in)
                  case c1 =>
                    intro j u hj
                    match j, hj with
                    | 0, hj => simp at hj; subst hj; simp [Addr.add]
                  case c2 => intro u hu; simp at hu; subst hu; rfl
                  case c3 => unfold maxLen; omega
                  case c4 => omega
                  case c5 => have := HM1.out.lt; simp; omega
                  intro v2 w4 ho hgr _
                  have HM2 : Hid (MS w ls (done ++ [f]) (done ++ [f]) v' v2 w4) := HM1.out.app2 (by rw [HGD.out]; rw [if_neg (by omega)]; exact ho) hgr
                  clear HM1 ho hgr
                  go_wp2
                  go_roundw
                  case rel => exact ⟨j, done ++ [f], by omega, by go_num, HT1.out, HM2.out⟩
                  case measure => simp [intOf]; omega
        · obtain rfl : n = k := by omega
          have hf : Lib.fields ls = done := by
            have h := HT.out
            rw [← hln] at h
            exact h.stop
          have HA : Hid (∀ (j : Nat) b, (⟨ls.toArray⟩ : ByteArray).data.toList[j]? = some b → b.toNat < 128) := fun j b hb => HL.out b (List.mem_of_getElem? hb)
          have hsz : (⟨ls.toArray⟩ : ByteArray).size ≤ 100000 := by simp [ByteArray.size]; omega
          by_cases h3 : done.length = 3
          · obtain ⟨f0, f1, f2, rfl⟩ : ∃ f0 f1 f2, done = [f0, f1, f2] := by
              match done, h3 with
              | [a, b, c], _ => exact ⟨a, b, c, rfl⟩
            have HNE : Hid (∀ f ∈ [f0, f1, f2], f ≠ []) := HT.out.ne
            have HSH : Hid (∀ f ∈ [f0, f1, f2], f.length ≤ 100000) := fun f hf => by have := HT.out.short f hf; omega
            clear h3
            rcases (by cases gd f0 <;> cases gd f1 <;> cases gd f2 <;> simp : (gd f0 = true ∧ gd f1 = true ∧ gd f2 = true) ∨ (gd f0 = true ∧ gd f1 = true ∧ gd f2 = false) ∨ (gd f0 = true ∧ gd f1 = false) ∨ gd f0 = false) with ⟨h0, h1, h2⟩ | ⟨h0, h1, h2⟩ | ⟨h0, h1⟩ | h0
            · have HC : Hid (Calls Ybad.prog 10 #[.string ⟨ls.toArray⟩] wr fun e w' => e = .returned (.tuple #[.agg #[.int .u64 (mvF 0 f0 : Nat), .int .u64 (mvF 0 f1 : Nat), .int .u64 (mvF 0 f2 : Nat)], .bool true]) ∧ Below wr.heap.size wr w') :=
                ext_A ⟨ls.toArray⟩ wr hsz HA.out (HG.out.below HM.out.bel) f0 f1 f2 hf HNE.out HSH.out _ _ _ _ (Or.inl ⟨h0, h1, h2, rfl, rfl, rfl, rfl⟩)
              clear hsz HA hf HL
              obtain ⟨ga, ca, gb, cb, rfl, rfl, -⟩ := cells3 HM.out (Below.refl _ _)
              go_wp2_with fail
              refine HC.out.mono ?_
              rintro e w2 ⟨rfl, hb2⟩
              have HM2 : Hid (Below w.heap.size w w2) := HM.out.bel.trans (hb2.mono (Nat.le_of_lt HM.out.lt))
              have hl2 : w.heap.size ≤ w2.heap.size := HM2.out.size
              obtain ⟨g1, c1, g2, c2, e1, e2, hg1, hg2, ⟨v0, v1, v2⟩, ⟨b0, b1, b2⟩⟩ := cells3 HM.out hb2
              cases e1
              cases e2
              rw [h0] at b0
              rw [h1] at b1
              rw [h2] at b2
              clear HM HC hb2 HT HG
              go_wp2
              refine wp_loop_rounds 4 ?_
              rw [rounds_succ]
              go_wp2
              rw [rounds_succ]
              go_wp2
              rw [rounds_succ]
              go_wp2
              rw [rounds_succ]
              go_wp2
              go_quiet (fail)
              go_wp2
              go_ret
              exact ⟨rfl, below_drewN (HM2.out.alloc hl2 _) _⟩
            · have HC : Hid (Calls Ybad.prog 10 #[.string ⟨ls.toArray⟩] wr fun e w' => e = .returned (.tuple #[.agg #[.int .u64 (mvF 0 f0 : Nat), .int .u64 (mvF 0 f1 : Nat), .int .u64 (uOf f2 : Nat)], .bool false]) ∧ Below wr.heap.size wr w') :=
                ext_A ⟨ls.toArray⟩ wr hsz HA.out (HG.out.below HM.out.bel) f0 f1 f2 hf HNE.out HSH.out _ _ _ _ (Or.inr (Or.inr (Or.inr ⟨h0, h1, h2, rfl, rfl, rfl, rfl⟩)))
              clear hsz HA hf HL
              obtain ⟨ga, ca, gb, cb, rfl, rfl, -⟩ := cells3 HM.out (Below.refl _ _)
              go_wp2_with fail
              refine HC.out.mono ?_
              rintro e w2 ⟨rfl, hb2⟩
              have HM2 : Hid (Below w.heap.size w w2) := HM.out.bel.trans (hb2.mono (Nat.le_of_lt HM.out.lt))
              have hl2 : w.heap.size ≤ w2.heap.size := HM2.out.size
              obtain ⟨g1, c1, g2, c2, e1, e2, hg1, hg2, ⟨v0, v1, v2⟩, ⟨b0, b1, b2⟩⟩ := cells3 HM.out hb2
              cases e1
              cases e2
              rw [h0] at b0
              rw [h1] at b1
              rw [h2] at b2
              clear HM HC hb2 HT HG
              go_wp2
              refine wp_loop_rounds 4 ?_
              rw [rounds_succ]
              go_wp2
              rw [rounds_succ]
              go_wp2
              rw [rounds_succ]
              go_wp2
              refine wp_loop_rounds 4 ?_
              rw [rounds_succ]
              go_wp2
              go_quiet (fail)
              go_wp2
              rw [rounds_succ]
              go_wp2
              go_quiet (fail)
              go_wp2
              rw [rounds_succ]
              go_wp2
              go_quiet (fail)
              go_wp2
              rw [rounds_succ]
              go_wp2
              go_ret
              exact ⟨rfl, below_drewN (HM2.out.alloc hl2 _) _⟩
            · have HC : Hid (Calls Ybad.prog 10 #[.string ⟨ls.toArray⟩] wr fun e w' => e = .returned (.tuple #[.agg #[.int .u64 (mvF 0 f0 : Nat), .int .u64 (uOf f1 : Nat), .int .u64 (0 : Nat)], .bool false]) ∧ Below wr.heap.size wr w') :=
                ext_A ⟨ls.toArray⟩ wr hsz HA.out (HG.out.below HM.out.bel) f0 f1 f2 hf HNE.out HSH.out _ _ _ _ (Or.inr (Or.inr (Or.inl ⟨h0, h1, rfl, rfl, rfl, rfl⟩)))
              clear hsz HA hf HL
              obtain ⟨ga, ca, gb, cb, rfl, rfl, -⟩ := cells3 HM.out (Below.refl _ _)
              go_wp2_with fail
              refine HC.out.mono ?_
              rintro e w2 ⟨rfl, hb2⟩
              have HM2 : Hid (Below w.heap.size w w2) := HM.out.bel.trans (hb2.mono (Nat.le_of_lt HM.out.lt))
              have hl2 : w.heap.size ≤ w2.heap.size := HM2.out.size
              obtain ⟨g1, c1, g2, c2, e1, e2, hg1, hg2, ⟨v0, v1, v2⟩, ⟨b0, b1, b2⟩⟩ := cells3 HM.out hb2
              cases e1
              cases e2
              rw [h0] at b0
              rw [h1] at b1
              clear HM HC hb2 HT HG
              go_wp2
              refine wp_loop_rounds 4 ?_
              rw [rounds_succ]
              go_wp2
              rw [rounds_succ]
              go_wp2
              refine wp_loop_rounds 4 ?_
              rw [rounds_succ]
              go_wp2
              go_quiet (fail)
              go_wp2
              rw [rounds_succ]
              go_wp2
              go_quiet (fail)
              go_wp2
              rw [rounds_succ]
              go_wp2
              go_quiet (fail)
              go_wp2
              rw [rounds_succ]
              go_wp2
              go_ret
              exact ⟨rfl, below_drewN (HM2.out.alloc hl2 _) _⟩
            · have HC : Hid (Calls Ybad.prog 10 #[.string ⟨ls.toArray⟩] wr fun e w' => e = .returned (.tuple #[.agg #[.int .u64 (uOf f0 : Nat), .int .u64 (0 : Nat), .int .u64 (0 : Nat)], .bool false]) ∧ Below wr.heap.size wr w') :=
                ext_A ⟨ls.toArray⟩ wr hsz HA.out (HG.out.below HM.out.bel) f0 f1 f2 hf HNE.out HSH.out _ _ _ _ (Or.inr (Or.inl ⟨h0, rfl, rfl, rfl, rfl⟩))
              clear hsz HA hf HL
              obtain ⟨ga, ca, gb, cb, rfl, rfl, -⟩ := cells3 HM.out (Below.refl _ _)
              go_wp2_with fail
              refine HC.out.mono ?_
              rintro e w2 ⟨rfl, hb2⟩
              have HM2 : Hid (Below w.heap.size w w2) := HM.out.bel.trans (hb2.mono (Nat.le_of_lt HM.out.lt))
              have hl2 : w.heap.size ≤ w2.heap.size := HM2.out.size
              obtain ⟨g1, c1, g2, c2, e1, e2, hg1, hg2, ⟨v0, v1, v2⟩, ⟨b0, b1, b2⟩⟩ := cells3 HM.out hb2
              cases e1
              cases e2
              rw [h0] at b0
              clear HM HC hb2 HT HG
              go_wp2
              refine wp_loop_rounds 4 ?_
              rw [rounds_succ]
              go_wp2
              refine wp_loop_rounds 4 ?_
              rw [rounds_succ]
              go_wp2
              go_quiet (fail)
              go_wp2
              rw [rounds_succ]
              go_wp2
              go_quiet (fail)
              go_wp2
              rw [rounds_succ]
              go_wp2
              go_quiet (fail)
              go_wp2
              rw [rounds_succ]
              go_wp2
              go_ret
              exact ⟨rfl, below_drewN (HM2.out.alloc hl2 _) _⟩
          · have HC : Hid (Calls Ybad.prog 10 #[.string ⟨ls.toArray⟩] wr fun e w' => e = .returned (.tuple #[.agg #[.int .u64 0, .int .u64 0, .int .u64 0], .bool false]) ∧ Below wr.heap.size wr w') :=
              ext_not3 ⟨ls.toArray⟩ wr hsz HA.out (HG.out.below HM.out.bel) done hf h3
            obtain ⟨a, cc, hvv⟩ := own_form HM.out.vo
            have hdl := HT.out.len
            have hne : (((done.length : Nat) : Int) != 3) = true := by simp; omega
            have hq := eq26
            subst hvv
            clear hsz HA hf HL
            go_wp2_with fail
            refine HC.out.mono ?_
            rintro e w2 ⟨rfl, hb2⟩
            have HM2 : Hid (Below w.heap.size w w2) := HM.out.bel.trans (hb2.mono (Nat.le_of_lt HM.out.lt))
            have hl2 : w.heap.size ≤ w2.heap.size := HM2.out.size
            clear HM HC hb2 HT
            go_wp2
            go_ret
            exact ⟨rfl, HM2.out.alloc hl2 _⟩
end Go.Proofs.YbulkcdakDoor
