import Derived.Test.YbulkcdcaDoorEnc
import Derived.Laws.AppendOwnNone
import Derived.Deep.QuietTactic
import Derived.BigQuiet
import Derived.WalkSmall
import Derived.Laws.StructEq
import Derived.LaidEql
namespace Go.Proofs.YbulkcdcaDoor
open Go.RowKit
def incAt (IS : List Nat) (i : Nat) : Nat := if IS.length = 0 then 0 else IS.getD (i % IS.length) 0
def memOf (NS : List (List UInt8)) (IS : List Nat) (i : Nat) : List UInt8 × Nat := (cutL (NS.getD i []), incAt IS i)
def pK (NS : List (List UInt8)) (IS : List Nat) (k : Nat) : List (List UInt8 × Nat) := (List.range k).map (memOf NS IS)
def sK (AS : List (List UInt8)) (k : Nat) : List (List UInt8) := (List.range k).map fun i => cutL (AS.getD i [])
theorem pK_len (NS : List (List UInt8)) (IS : List Nat) (k : Nat) : (pK NS IS k).length = k := by simp [pK]
theorem sK_len (AS : List (List UInt8)) (k : Nat) : (sK AS k).length = k := by simp [sK]
theorem pK_succ (NS : List (List UInt8)) (IS : List Nat) (k : Nat) : memsL (pK NS IS (k + 1)) = memsL (pK NS IS k) ++ putL (cutL (NS.getD k [])) ++ Lib.uvarint (incAt IS k) := by
  simp [pK, memsL, List.range_succ, memOf, memL]
theorem sK_succ (AS : List (List UInt8)) (k : Nat) : strsL (sK AS (k + 1)) = strsL (sK AS k) ++ putL (cutL (AS.getD k [])) := by
  simp [sK, strsL, List.range_succ]
theorem incAt_lt (IS : List Nat) (h : ∀ j : Nat, IS.getD j 0 < 18446744073709551616) (i : Nat) : incAt IS i < 18446744073709551616 := by
  unfold incAt
  split
  · omega
  · exact h _
theorem mems_le (NS : List (List UInt8)) (IS : List Nat) (h : ∀ j : Nat, IS.getD j 0 < 18446744073709551616) : ∀ k, (memsL (pK NS IS k)).length ≤ 275 * k
  | 0 => by simp [pK, memsL]
  | k + 1 => by
    have h1 := mems_le NS IS h k
    have h2 := putL_le (cutL (NS.getD k [])) (cutL_le _)
    have h3 := Lib.uvarint_length64 (incAt_lt IS h k)
    rw [pK_succ]
    simp only [List.length_append]
    omega
theorem strs_le (AS : List (List UInt8)) : ∀ k, (strsL (sK AS k)).length ≤ 265 * k
  | 0 => by simp [sK, strsL]
  | k + 1 => by
    have h1 := strs_le AS k
    have h2 := putL_le (cutL (AS.getD k [])) (cutL_le _)
    rw [sK_succ]
    simp only [List.length_append]
    omega
/-- What the arguments' memory holds. -/
def StrsAt (w : World) (a : Option Addr) (n : Nat) (NS : List (List UInt8)) : Prop := ∀ j, j < n → ∃ b off, a = some ⟨b, off, none⟩ ∧ b < w.heap.size ∧ w.cell? ⟨b, off + j, none⟩ = some (.string ⟨(NS.getD j []).toArray⟩)
def NumsAt (w : World) (a : Option Addr) (n : Nat) (IS : List Nat) : Prop := ∀ j, j < n → ∃ b off, a = some ⟨b, off, none⟩ ∧ b < w.heap.size ∧ w.cell? ⟨b, off + j, none⟩ = some (.int .u64 ((IS.getD j 0 : Nat) : Int))
def BytesAt (w : World) (a : Option Addr) (n : Nat) (TL : List UInt8) : Prop := ∀ j, j < n → ∃ b off, a = some ⟨b, off, none⟩ ∧ b < w.heap.size ∧ w.cell? ⟨b, off + j, none⟩ = some (.int .u8 ((TL.getD j 0).toNat : Int))
def St1 (w : World) (n : Nat) (NS : List (List UInt8)) (IS : List Nat) (k : Nat) (v : Value) (wr : World) : Prop := Body w.heap.size wr v (Lib.uvarint n ++ memsL (pK NS IS k)) ∧ Below w.heap.size w wr
def St2 (w : World) (n q : Nat) (NS : List (List UInt8)) (IS : List Nat) (AS : List (List UInt8)) (k : Nat) (v : Value) (wr : World) : Prop := Body w.heap.size wr v (Lib.uvarint n ++ memsL (pK NS IS n) ++ Lib.uvarint q ++ strsL (sK AS k)) ∧ Below w.heap.size w wr
theorem body_eq {B : Nat} {w : World} {v : Value} {a b : List UInt8} (h : Body B w v a) (e : a = b) : Body B w v b := by subst e; exact h
theorem body_form {B : Nat} {w : World} {v : Value} {bs : List UInt8} (h : Body B w v bs) (hp : 0 < bs.length) : ∃ g cap, v = .slice (some ⟨g, 0, none⟩) bs.length cap ∧ DS (w.alloc (.cells #[v, .nilIface] 33)) w.heap.size g 0 cap bs .nilIface := by
  rcases h.1.2 with ⟨_, h0⟩ | ⟨g, cap, cu, hv, hb, hg, hnc, hcm, hcs, htk⟩
  · omega
  · have hl := (Array.getElem?_eq_some_iff.1 hg).1
    refine ⟨g, cap, hv, ?_, ⟨cu, by rw [heap_alloc_old _ _ hl]; exact hg, ?_⟩, by omega, hnc, hcm⟩
    · rw [heap_alloc_new, hv]
    · intro j hj
      rw [Nat.mul_one] at htk
      have h1 : (cu.toList.take bs.length)[j]? = cu.toList[j]? := by rw [List.getElem?_take]; simp [hj]
      rw [htk] at h1
      rw [Nat.zero_add, ← Array.getElem?_toList, ← h1]
      simp [Lib.byteCells, hj]
theorem eq_nil (w : World) : (binOp .eql 24 (.slice none 0 0) (.slice none 0 0)).run Ybad.prog w = .ok (.bool true) w := by
  have h : ∀ d : Nat, (Op.equalIn (d + 1) 24 (.slice none 0 0) (.slice none 0 0)).run Ybad.prog w = .ok true w := fun d => by simp [Op.equalIn, run_underlying Ybad.underlying24]
  simp only [binOp]
  simp [Op.equal, Op.maxDepth, h 9999]
theorem info58 : (Ybad.prog.info? 58).map (fun i => i.comparable) = some true := by kernel_rfl
theorem info78 : (Ybad.prog.info? 78).isSome = true := by kernel_rfl
theorem eq_err (a : Addr) (w : World) : (binOp .eql 31 (.iface 58 (.pointer (some a))) (.iface 58 (.pointer (some a)))).run Ybad.prog w = .ok (.bool true) w := by
  obtain ⟨j, hj⟩ := Option.isSome_iff_exists.1 info78
  have h := info58
  cases hi : Ybad.prog.info? 58 with
  | none => rw [hi] at h; cases h
  | some i =>
    rw [hi] at h
    simp at h
    exact run_eql_iface_ptr_same w a Ybad.underlying31 Ybad.underlying58 hi h hj
theorem build33 (a : Option Addr) (l c : Nat) (w : World) : (Instr.build 33 #[(0, .slice a l c)]).run Ybad.prog w = .ok (.agg #[.slice a l c, .nilIface]) w := run_build w 33 _ _ (by kernel_rfl)
/-- What is so behind view. -/
structure Fin3 (w : World) (D g n q : Nat) (ps : List (List UInt8 × Nat)) (ss : List (List UInt8)) (TL : List UInt8) (ev v1 v2 : Value) (wv : World) : Prop where
  bel : Below w.heap.size w wv
  m : wv.ownsRow w.heap.size 38 2 v1 n (rowM ps)
  s : wv.ownsRow w.heap.size 9 1 v2 q (rowS ss)
  same : n = q → ∃ o c, DS wv D g o c TL .nilIface
  other : n ≠ q → wv.cell? ⟨D, 0, none⟩ = some (.slice none 0 0) ∧ wv.cell? ⟨D, 1, none⟩ = some ev
theorem fin_of {w w5 wv : World} {g : Nat} {ps : List (List UInt8 × Nat)} {ss : List (List UInt8)} {TL : List UInt8} {ev v1 v2 : Value} {ob : Obj} {n q : Nat} (hb : Below w.heap.size w w5) (hv : ViewEnd w5.heap.size g ps ss TL ev (w5.alloc ob) v1 v2 wv) (hn : ps.length = n) (hq : ss.length = q) : Fin3 w w5.heap.size g n q ps ss TL ev v1 v2 wv := by
  subst hn hq
  have hs := hb.size
  refine ⟨(hb.alloc hs ob).grown hv.gr (by simp; omega) (fun k hk => by cases hk; exact hs), Joins.ownsRow_le hv.m (by simp; omega), Joins.ownsRow_le hv.s (by simp; omega), hv.same, hv.other⟩
theorem pK_ok (NS : List (List UInt8)) (IS : List Nat) (h : ∀ j : Nat, IS.getD j 0 < 18446744073709551616) (k : Nat) : ∀ p ∈ pK NS IS k, p.1.length ≤ 255 ∧ p.2 < 18446744073709551616 := by
  intro p hp
  simp only [pK, List.mem_map] at hp
  obtain ⟨i, _, rfl⟩ := hp
  exact ⟨cutL_le _, incAt_lt IS h i⟩
theorem sK_ok (AS : List (List UInt8)) (k : Nat) : ∀ s ∈ sK AS k, s.length ≤ 255 := by
  intro p hp
  simp only [sK, List.mem_map] at hp
  obtain ⟨i, _, rfl⟩ := hp
  exact cutL_le _
theorem own_shape {w : World} {base : Nat} {e : TypeId} {size : Nat} {v : Value} {n : Nat} {xs : List Value} (h : w.ownsRow base e size v n xs) : ∃ a c, v = .slice a n c := by
  rcases h.2 with ⟨rfl, rfl⟩ | ⟨g, cap, cu, rfl, _⟩
  · exact ⟨none, 0, rfl⟩
  · exact ⟨_, _, rfl⟩
theorem row_name {w : World} {base n k g c : Nat} {NS : List (List UInt8)} {IS : List Nat} (h : w.ownsRow base 38 2 (.slice (some ⟨g, 0, none⟩) n c) n (rowM (pK NS IS n))) (hk : k < n) :
    w.cell? ⟨g, k * 2, none⟩ = some (.string ⟨(cutL (NS.getD k [])).toArray⟩) ∧ w.cell? ⟨g, k * 2 + 1, none⟩ = some (.int .u64 ((incAt IS k : Nat) : Int)) := by
  have e : ∀ n, k < n → (rowM (pK NS IS n))[k * 2]? = some (.string ⟨(cutL (NS.getD k [])).toArray⟩) ∧ (rowM (pK NS IS n))[k * 2 + 1]? = some (.int .u64 ((incAt IS k : Nat) : Int)) := by
    intro n
    induction n with
    | zero => intro h; omega
    | succ n ih =>
      intro hkn
      have hl : ∀ n, (rowM (pK NS IS n)).length = n * 2 := by
        intro n
        induction n with
        | zero => simp [pK, rowM]
        | succ n ih2 =>
          have : rowM (pK NS IS (n + 1)) = rowM (pK NS IS n) ++ cellM (memOf NS IS n) := by simp [pK, rowM, List.range_succ]
          rw [this, List.length_append, ih2]
          simp [cellM]
          omega
      have he : rowM (pK NS IS (n + 1)) = rowM (pK NS IS n) ++ cellM (memOf NS IS n) := by simp [pK, rowM, List.range_succ]
      rw [he]
      by_cases hlt : k < n
      · rw [List.getElem?_append_left (by rw [hl]; omega), List.getElem?_append_left (by rw [hl]; omega)]
        exact ih hlt
      · obtain rfl : k = n := by omega
        rw [List.getElem?_append_right (by rw [hl]; omega), List.getElem?_append_right (by rw [hl]; omega), hl]
        simp [cellM, memOf]
  rw [h.cellAt (k * 2) (by omega), h.cellAt (k * 2 + 1) (by omega)]
  exact e n hk
theorem flat_one {α β : Type} (f : α → β) : ∀ l : List α, (l.map fun x => [f x]).flatten = l.map f
  | [] => rfl
  | a :: l => by simp [flat_one f l]
theorem row_str {w : World} {base n k g c : Nat} {AS : List (List UInt8)} (h : w.ownsRow base 9 1 (.slice (some ⟨g, 0, none⟩) n c) n (rowS (sK AS n))) (hk : k < n) :
    w.cell? ⟨g, k, none⟩ = some (.string ⟨(cutL (AS.getD k [])).toArray⟩) := by
  rw [h.cellAt k (by omega)]
  have : rowS (sK AS n) = (List.range n).map fun i => Value.string ⟨(cutL (AS.getD i [])).toArray⟩ := by
    unfold rowS sK
    rw [List.map_map]
    exact flat_one _ _
  rw [this]
  simp [hk]
theorem DS.drewN {w : World} {D g o c : Nat} {l : List UInt8} {ev : Value} (h : DS w D g o c l ev) (n : Nat) : DS (w.drewN n) D g o c l ev := ⟨h.d, h.b, h.ne, h.lc, h.cm⟩
theorem news_at {w : World} {ad : Addr} {t : Nat} {TL : List UInt8} (h : BytesAt w (some ad) t TL) (hl : TL.length = t) : ∀ j u, (Lib.byteCells TL)[j]? = some u → w.cell? (ad.add j) = some u := by
  intro j u hu
  have hj : j < TL.length := by
    have := (List.getElem?_eq_some_iff.1 hu).1
    simpa [Lib.byteCells] using this
  obtain ⟨b, off, e, -, hc⟩ := h j (by omega)
  cases e
  rw [Addr.add_lit, hc, ← hu]
  simp [Lib.byteCells, hj]
theorem news_one (TL : List UInt8) : ∀ u ∈ Lib.byteCells TL, u.oneCell' = true := by
  intro u hu
  simp only [Lib.byteCells, List.mem_map] at hu
  obtain ⟨b, _, rfl⟩ := hu
  rfl
theorem body_app {w w4 w5 : World} {v v5 : Value} {bs TL : List UInt8} {t : Nat} (h : Body w.heap.size w4 v bs) (hb : Below w.heap.size w w4) (hl : TL.length = t) (ho : w5.ownsRow w.heap.size 5 1 v5 (bs.length + t) (Lib.byteCells bs ++ Lib.byteCells TL)) (hg : w4.grownBy w5 v.ownBlock) :
    Body w.heap.size w5 v5 (bs ++ TL) ∧ Below w.heap.size w w5 := by
  have hlt := h.1.lt
  refine ⟨⟨?_, Nat.le_trans h.2 hg.size⟩, hb.grown hg h.2 (fun k hk => (hlt k hk).1)⟩
  rw [byteCells_app, List.length_append, hl]
  exact ho
theorem ds_at {w wr : World} {nq D g o c : Nat} {l : List UInt8} {ev : Value} (hw : wr = w.drewN nq) (h : DS w D g o c l ev) : Hid (DS wr D g o c l ev) := by rw [hw]; exact h.drewN nq
theorem cell_at {w wr : World} {nq : Nat} {a : Addr} {v : Value} (hw : wr = w.drewN nq) (h : w.cell? a = some v) : wr.cell? a = some v := by rw [hw]; exact h
theorem BytesAt.below {w w' : World} {a : Option Addr} {n : Nat} {TL : List UInt8} (h : BytesAt w a n TL) (hb : Below w.heap.size w w') : BytesAt w' a n TL := by
  intro j hj
  obtain ⟨b, off, ha, hl, hc⟩ := h j hj
  exact ⟨b, off, ha, Nat.lt_of_lt_of_le hl hb.size, (hb.cell (by exact hl)).trans hc⟩
theorem conv_tail (w : World) (a : Option Addr) (n c : Nat) (TL : List UInt8) (hl : TL.length = n) (h : BytesAt w a n TL) :
    (convert 24 9 (.slice a n c)).run Ybad.prog w = .ok (.string ⟨TL.toArray⟩) w := by
  rcases Nat.eq_zero_or_pos n with h0 | hp
  · subst h0
    obtain rfl : TL = [] := List.eq_nil_of_length_eq_zero hl
    rw [run_convert_bytes_string w 24 9 5 _ 0 c Ybad.underlying24 Ybad.underlying5 Ybad.underlying9]
    cases a <;> simp [Conv.bytesToString, loadCells]
    all_goals rfl
  · obtain ⟨b, off, e, -, -⟩ := h 0 hp
    subst e
    refine conv_any w b off n c TL hl (fun j hj => ?_)
    obtain ⟨b', off', e', -, hc⟩ := h j (by omega)
    cases e'
    rw [hc]
    simp [List.getD, hj]
theorem eq_tail {w : World} {D g o c : Nat} {TL : List UInt8} {ev : Value} (h : DS w D g o c TL ev) (a : Option Addr) (n k : Nat) (hl : TL.length = n) (hT : BytesAt w a n TL) :
    Calls Ybad.prog 9 #[.slice (some ⟨g, o, none⟩) n c, .slice a n k] w fun e w' => e = .returned (.bool true) ∧ w' = w := by
  have e1 := conv_any w g o n c TL hl h.bytes
  have e2 := conv_tail w a n k TL hl hT
  clear h hT hl
  go_enter Ybad.func9, Ybad.ntmps9
  go_wp2
  go_ret
  exact ⟨rfl, rfl⟩
/-- The view's call, at the body's end. -/
theorem view_body {w w5 : World} {v5 : Value} {n q : Nat} {NS : List (List UInt8)} {IS : List Nat} {AS : List (List UInt8)} {TL : List UInt8} {ty : TypeId} {pv : Value}
    (hn : n ≤ 1024) (hq : q ≤ 1024) (hIl : ∀ j : Nat, IS.getD j 0 < 18446744073709551616) (he : w.cell? ⟨0, 0, none⟩ = some (.iface ty pv)) (h0 : 0 < w.heap.size)
    (hB : Body w.heap.size w5 v5 (Lib.uvarint n ++ memsL (pK NS IS n) ++ Lib.uvarint q ++ strsL (sK AS q) ++ TL)) (hb : Below w.heap.size w w5) :
    ∃ g L cap, v5 = .slice (some ⟨g, 0, none⟩) L cap ∧ Calls Ybad.prog 8 #[.pointer (some ⟨w5.heap.size, 0, none⟩)] (w5.alloc (.cells #[v5, .nilIface] 33)) fun e w' => ∃ v1 v2, e = .returned (.tuple #[v1, v2]) ∧ Fin3 w w5.heap.size g n q (pK NS IS n) (sK AS q) TL (.iface ty pv) v1 v2 w' := by
  have hp := Lib.uvarint_pos n
  obtain ⟨g, cap, hv, hD⟩ := body_form hB (by simp only [List.length_append]; omega)
  refine ⟨g, _, cap, hv, ?_⟩
  have hs := hb.size
  refine (view_any w5.heap.size g 0 cap (pK NS IS n) (sK AS q) TL _ (by rw [pK_len]; exact hn) (by rw [sK_len]; exact hq) (pK_ok NS IS hIl n) (sK_ok AS q) (ds_eq hD ?_) ty pv ?_ (by omega)).mono ?_
  · rw [pK_len, sK_len]
    simp only [List.append_assoc]
  · rw [((hb.alloc hs _).cell (by exact h0)), he]
  · rintro e w' ⟨v1, v2, rfl, hV⟩
    exact ⟨v1, v2, rfl, fin_of hb hV (pK_len ..) (sK_len ..)⟩
set_option maxRecDepth 8000 in
set_option maxHeartbeats 8000000 in
theorem law_walk (an ai aa at' : Option Addr) (n cn m ci q ca t ct : Nat) (NS : List (List UInt8)) (IS : List Nat) (AS : List (List UInt8)) (TL : List UInt8) (w : World) (ty : TypeId) (pv : Value)
    (hn : n ≤ 1024) (hm : m ≤ 1024) (hq : q ≤ 1024) (ht : t ≤ 1024) (hIm : IS.length = m) (hTl : TL.length = t)
    (hN : StrsAt w an n NS) (hI : NumsAt w ai m IS) (hA : StrsAt w aa q AS) (hT : BytesAt w at' t TL)
    (hNl : ∀ j : Nat, (NS.getD j []).length ≤ 9223372036854775807) (hAl : ∀ j : Nat, (AS.getD j []).length ≤ 9223372036854775807) (hIl : ∀ j : Nat, IS.getD j 0 < 18446744073709551616)
    (hTn : at' = none → t = 0 ∧ ct = 0) (he : w.cell? ⟨0, 0, none⟩ = some (.iface ty pv)) (h0 : 0 < w.heap.size) (hq1 : ∀ w, (binOp .eql 31 (.iface ty pv) (.iface ty pv)).run Ybad.prog w = .ok (.bool true) w) :
    Calls Ybad.prog 3 #[.slice an n cn, .slice ai m ci, .slice aa q ca, .slice at' t ct] w fun e w' => e = .returned (.bool true) ∧ Below w.heap.size w w' := by
  have HN : Hid (StrsAt w an n NS) := hN
  have HI : Hid (NumsAt w ai m IS) := hI
  have HA : Hid (StrsAt w aa q AS) := hA
  have HT : Hid (BytesAt w at' t TL) := hT
  have HNl : Hid (∀ j : Nat, (NS.getD j []).length ≤ 9223372036854775807) := hNl
  have HAl : Hid (∀ j : Nat, (AS.getD j []).length ≤ 9223372036854775807) := hAl
  have HIl : Hid (∀ j : Nat, IS.getD j 0 < 18446744073709551616) := hIl
  have HE : Hid (w.cell? ⟨0, 0, none⟩ = some (.iface ty pv)) := he
  have H1 : Hid (∀ w, (binOp .eql 31 (.iface ty pv) (.iface ty pv)).run Ybad.prog w = .ok (.bool true) w) := hq1
  have HTn : Hid (at' = none → t = 0 ∧ ct = 0) := hTn
  clear hTn
  have H0 : Hid (IS.length = m ∧ TL.length = t) := ⟨hIm, hTl⟩
  have hu1 := Lib.uvarint_length64 (x := n) (by omega)
  have hu2 := Lib.uvarint_length64 (x := q) (by omega)
  clear hN hI hA hT hNl hAl hIl he hq1 hIm hTl
  have HC0 : Hid (Calls Ybad.prog 5 #[.slice none 0 0, .int .u64 n] w fun e w' => BodyTo w.heap.size w ([] ++ Lib.uvarint n) e w') := aU_any w.heap.size n [] _ w (by omega) ⟨World.ownsRow_nil _ _ _ _, Nat.le_refl _⟩ (by simp)
  have b1 : decide ((1024 : Int) < (n : Int)) = false := decide_eq_false (by omega)
  have b2 : decide ((1024 : Int) < (q : Int)) = false := decide_eq_false (by omega)
  have b3 : decide ((1024 : Int) < (t : Int)) = false := decide_eq_false (by omega)
  have b4 : decide ((1024 : Int) < (m : Int)) = false := decide_eq_false (by omega)
  go_enter Ybad.func3, Ybad.ntmps3
  go_wp2_with fail
  refine HC0.out.mono ?_
  rintro e w1 ⟨v1, rfl, HB, HG⟩
  have HS : Hid (St1 w n NS IS 0 v1 w1) := ⟨body_eq HB (by simp [pK, memsL]), HG⟩
  clear HB HG HC0
  go_wp2
  clear b1 b2 b3 b4
  go_loopw [9, 10] (fun v i wr => ∃ k : Nat, k ≤ n ∧ i = .int .i64 k ∧ Hid (St1 w n NS IS k v wr)) (fun _ i _ => n - (intOf i).toNat)
  case atStart => exact ⟨0, Nat.zero_le _, rfl, HS.out⟩
  case round =>
    obtain ⟨k, hk, rfl, HS1⟩ := hrel
    have hml := mems_le NS IS HIl.out k
    by_cases hlt : k < n
    · obtain ⟨b, off, rfl, hb, hcx0⟩ := HN.out k hlt
      have hcx : wr.cell? ⟨b, off + k, none⟩ = some (.string ⟨(NS.getD k []).toArray⟩) := (HS1.out.2.cell (by exact hb)).trans hcx0
      clear hcx0
      have HC : Hid (Calls Ybad.prog 7 #[.string ⟨(NS.getD k []).toArray⟩] wr fun e w' => e = .returned (.string ⟨(cutL (NS.getD k [])).toArray⟩) ∧ w' = wr) := cut_any _ wr (HNl.out k)
      have HP : Hid (Calls Ybad.prog 6 #[u9, .string ⟨(cutL (NS.getD k [])).toArray⟩] wr fun e w' => BodyTo w.heap.size wr (Lib.uvarint n ++ memsL (pK NS IS k) ++ putL (cutL (NS.getD k []))) e w') :=
        put_any w.heap.size _ _ u9 wr (cutL_le _) HS1.out.1 (by rw [List.length_append]; omega)
      have hpl := putL_le (cutL (NS.getD k [])) (cutL_le _)
      generalize hNk : NS.getD k [] = nk at *
      go_wp2_with fail
      refine HC.out.mono ?_
      rintro e w2 ⟨rfl, hw2⟩
      rw [hw2]
      clear hw2 w2
      go_wp2_with fail
      refine HP.out.mono ?_
      rintro e w3 ⟨v3, rfl, HB, HG⟩
      have HB3 : Hid (Body w.heap.size w3 v3 (Lib.uvarint n ++ memsL (pK NS IS k) ++ putL (cutL nk))) := HB
      have HG3 : Hid (Below w.heap.size w w3) := HS1.out.2.trans HG
      have HC5 : Hid (Calls Ybad.prog 5 #[v3, .int .u64 (incAt IS k : Nat)] w3 fun e w' => BodyTo w.heap.size w3 (Lib.uvarint n ++ memsL (pK NS IS k) ++ putL (cutL nk) ++ Lib.uvarint (incAt IS k)) e w') :=
        aU_any w.heap.size _ _ v3 w3 (incAt_lt IS HIl.out k) HB (by simp only [List.length_append]; omega)
      have HQ : Hid (∀ v4 w4, Body w.heap.size w4 v4 (Lib.uvarint n ++ memsL (pK NS IS k) ++ putL (cutL nk) ++ Lib.uvarint (incAt IS k)) → Below w.heap.size w3 w4 → St1 w n NS IS (k + 1) v4 w4) := fun v4 w4 hb4 hg4 =>
        ⟨body_eq hb4 (by rw [pK_succ, hNk]; simp only [List.append_assoc]), HG3.out.trans hg4⟩
      clear HB HG HC HP hcx hpl hml HS1 HB3
      by_cases hm0 : m = 0
      · have hi : incAt IS k = 0 := by unfold incAt; rw [if_pos (by have := H0.out.1; omega)]
        rw [hi] at HC5 HQ
        have hm1 : decide ((0 : Int) < (m : Int)) = false := decide_eq_false (by omega)
        have hm2 : decide (0 < m) = false := decide_eq_false (by omega)
        have hm3 : ¬ 0 < m := by omega
        have HM0 : Hid (m = 0) := hm0
        clear hi hm0
        go_wp2_with fail
        refine HC5.out.mono ?_
        rintro e w4 ⟨v4, rfl, hb4, hg4⟩
        have HS2 : Hid (St1 w n NS IS (k + 1) v4 w4) := HQ.out v4 w4 hb4 hg4
        clear hb4 hg4 HQ HC5
        go_wp2
        go_roundw
        case rel => exact ⟨k + 1, by omega, by go_num, HS2.out⟩
        case measure => simp [intOf]; omega
      · have hmp : (0 : Int) < (m : Int) := by omega
        have hkm : k % m < m := Nat.mod_lt _ (by omega)
        obtain ⟨b', off', hai, hb', hcy0⟩ := HI.out (k % m) hkm
        have hi : incAt IS k = IS.getD (k % m) 0 := by unfold incAt; rw [if_neg (by have := H0.out.1; omega), H0.out.1]
        have hcy : w3.cell? ⟨b', off' + k % m, none⟩ = some (.int .u64 ((incAt IS k : Nat) : Int)) := by rw [hi]; exact (HG3.out.cell (by exact hb')).trans hcy0
        subst hai
        have e1 : (k : Int) % (m : Int) = ((k % m : Nat) : Int) := by simp
        have e2 : (k : Int).tmod (m : Int) = ((k % m : Nat) : Int) := by rw [Int.tmod_eq_emod_of_nonneg (by omega)]; exact e1
        have hkm' : ((k % m : Nat) : Int) < (m : Int) := by omega
        clear hcy0 hi
        generalize k % m = km at *
        generalize incAt IS k = ik at *
        go_wp2_with fail
        refine HC5.out.mono ?_
        rintro e w4 ⟨v4, rfl, hb4, hg4⟩
        have HS2 : Hid (St1 w n NS IS (k + 1) v4 w4) := HQ.out v4 w4 hb4 hg4
        clear hb4 hg4 HQ HC5 e1 e2 hkm'
        go_wp2
        go_roundw
        case rel => exact ⟨k + 1, by omega, by go_num, HS2.out⟩
        case measure => simp [intOf]; omega
    · obtain rfl : n = k := by omega
      have HC5 : Hid (Calls Ybad.prog 5 #[u9, .int .u64 (q : Nat)] wr fun e w' => BodyTo w.heap.size wr (Lib.uvarint n ++ memsL (pK NS IS n) ++ Lib.uvarint q) e w') :=
        aU_any w.heap.size _ _ u9 wr (by omega) HS1.out.1 (by simp only [List.length_append]; omega)
      go_wp2_with fail
      refine HC5.out.mono ?_
      rintro e w2 ⟨v2, rfl, hb2, hg2⟩
      have HS2 : Hid (St2 w n q NS IS AS 0 v2 w2) := ⟨body_eq hb2 (by simp [sK, strsL]), HS1.out.2.trans hg2⟩
      clear hb2 hg2 HC5 HS1 HS
      go_wp2
      go_loopw [9, 12] (fun v i wr => ∃ k : Nat, k ≤ q ∧ i = .int .i64 k ∧ Hid (St2 w n q NS IS AS k v wr)) (fun _ i _ => q - (intOf i).toNat)
      case atStart => exact ⟨0, Nat.zero_le _, rfl, HS2.out⟩
      case round =>
        obtain ⟨k, hk, rfl, HS3⟩ := hrel
        have hsl := strs_le AS k
        by_cases hlt : k < q
        · obtain ⟨b, off, rfl, hb, hcx0⟩ := HA.out k hlt
          have hcx : wr.cell? ⟨b, off + k, none⟩ = some (.string ⟨(AS.getD k []).toArray⟩) := (HS3.out.2.cell (by exact hb)).trans hcx0
          clear hcx0
          have HC : Hid (Calls Ybad.prog 7 #[.string ⟨(AS.getD k []).toArray⟩] wr fun e w' => e = .returned (.string ⟨(cutL (AS.getD k [])).toArray⟩) ∧ w' = wr) := cut_any _ wr (HAl.out k)
          have HP : Hid (Calls Ybad.prog 6 #[u9, .string ⟨(cutL (AS.getD k [])).toArray⟩] wr fun e w' => BodyTo w.heap.size wr (Lib.uvarint n ++ memsL (pK NS IS n) ++ Lib.uvarint q ++ strsL (sK AS k) ++ putL (cutL (AS.getD k []))) e w') :=
            put_any w.heap.size _ _ u9 wr (cutL_le _) HS3.out.1 (by simp only [List.length_append]; omega)
          generalize hNk : AS.getD k [] = nk at *
          go_wp2_with fail
          refine HC.out.mono ?_
          rintro e w2 ⟨rfl, hw2⟩
          rw [hw2]
          clear hw2 w2
          go_wp2_with fail
          refine HP.out.mono ?_
          rintro e w3 ⟨v3, rfl, HB, HG⟩
          have HS4 : Hid (St2 w n q NS IS AS (k + 1) v3 w3) := ⟨body_eq HB (by rw [sK_succ, hNk]; simp only [List.append_assoc]), HS3.out.2.trans HG⟩
          clear HB HG HC HP
          go_wp2
          go_roundw
          case rel => exact ⟨k + 1, by omega, by go_num, HS4.out⟩
          case measure => simp [intOf]; omega
        · obtain rfl : q = k := by omega
          clear hsl
          cases hat : at' with
          | none =>
            obtain ⟨ht0, hct0⟩ := HTn.out hat
            subst hat ht0 hct0
            have HB5 : Hid (Body w.heap.size wr u9 (Lib.uvarint n ++ memsL (pK NS IS n) ++ Lib.uvarint q ++ strsL (sK AS q) ++ TL)) := body_eq HS3.out.1 (by rw [List.eq_nil_of_length_eq_zero H0.out.2, List.append_nil])
            have HG5 : Hid (Below w.heap.size w wr) := HS3.out.2
            obtain ⟨iv, hiv, hz0, hz1, hz2⟩ := info_parts infoB
            have HII : Hid (_ ∧ _ ∧ _ ∧ _) := ⟨hiv, hz0, hz1, hz2⟩
            clear hiv hz0 hz1 hz2 HS3 HS2
            have HW : Hid (_) := view_body hn hq HIl.out HE.out h0 HB5.out HG5.out
            obtain ⟨g, L, cap, hv5, HV0⟩ := HW.out
            have HV : Hid (Calls Ybad.prog 8 _ _ _) := HV0
            clear HV0 HW
            subst hv5
            have hbd := build33 (some ⟨g, 0, none⟩) L cap
            go_wp2_with (first | (at_builtin; refine wpList_append_own_none rfl _ _ 24 rfl w.heap.size 5 iv 1 Ybad.underlying24 HII.out.1 _ _ _ rfl HB5.out.1 rfl ?_) | fail)
            refine HV.out.mono ?_
            rintro e wv ⟨v1, v2, rfl, HF0⟩
            have HF : Hid (Fin3 w _ g n q (pK NS IS n) (sK AS q) TL (.iface ty pv) v1 v2 wv) := HF0
            obtain ⟨a1, k1, hs1⟩ := own_shape HF0.m
            obtain ⟨a2, k2, hs2⟩ := own_shape HF0.s
            subst hs1 hs2
            clear HF0 HV
            go_wp2
            go_loopw [16] (fun i wr => ∃ k : Nat, k ≤ n ∧ i = .int .i64 k ∧ ∃ nq, wr = wv.drewN nq) (fun i _ => n - (intOf i).toNat)
            case atStart => exact ⟨0, Nat.zero_le _, rfl, 0, rfl⟩
            case round =>
              obtain ⟨k, hk, rfl, nq, hwr⟩ := hrel
              have HW : Hid (wr = wv.drewN nq) := hwr
              by_cases hlt : k < n
              · obtain ⟨b, off, rfl, hb, hcx0⟩ := HN.out k hlt
                have hcx : wr.cell? ⟨b, off + k, none⟩ = some (.string ⟨(NS.getD k []).toArray⟩) := by rw [hwr]; exact (HF.out.bel.cell (by exact hb)).trans hcx0
                obtain ⟨g1, cc1, hg1⟩ := Joins.ownsRow_form HF.out.m (by omega)
                cases hg1
                have hrow := row_name HF.out.m hlt
                have hr0 : wr.cell? ⟨g1, k * 2, none⟩ = some (.string ⟨(cutL (NS.getD k [])).toArray⟩) := by rw [hwr]; exact hrow.1
                have hr1 : wr.cell? ⟨g1, k * 2 + 1, none⟩ = some (.int .u64 ((incAt IS k : Nat) : Int)) := by rw [hwr]; exact hrow.2
                have hnl := HNl.out k
                clear hcx0 hrow
                generalize NS.getD k [] = nk at *
                by_cases hm0 : m = 0
                · have hi : incAt IS k = 0 := by unfold incAt; rw [if_pos (by have := H0.out.1; omega)]
                  rw [hi] at hr1
                  have hm1 : decide ((0 : Int) < (m : Int)) = false := decide_eq_false (by omega)
                  have hm2 : decide (0 < m) = false := decide_eq_false (by omega)
                  have hm3 : ¬ 0 < m := by omega
                  have HM0 : Hid (m = 0) := hm0
                  clear hi hm0 hwr
                  go_wp2
                  go_quiet (first | (go_at_call 7; exact Calls.quiet_of_same (cut_any nk _ hnl)))
                  go_wp2
                  go_roundw
                  case rel => exact ⟨k + 1, by omega, by go_num, _, by rw [HW.out, World.drewN_drewN]⟩
                  case measure => simp [intOf]; omega
                · have hmp : (0 : Int) < (m : Int) := by omega
                  have hkm : k % m < m := Nat.mod_lt _ (by omega)
                  obtain ⟨b', off', hai, hb', hcy0⟩ := HI.out (k % m) hkm
                  have hi : incAt IS k = IS.getD (k % m) 0 := by unfold incAt; rw [if_neg (by have := H0.out.1; omega), H0.out.1]
                  have hcy : wr.cell? ⟨b', off' + k % m, none⟩ = some (.int .u64 ((incAt IS k : Nat) : Int)) := by rw [hi, hwr]; exact (HF.out.bel.cell (by exact hb')).trans hcy0
                  subst hai
                  have e1 : (k : Int) % (m : Int) = ((k % m : Nat) : Int) := by simp
                  have e2 : (k : Int).tmod (m : Int) = ((k % m : Nat) : Int) := by rw [Int.tmod_eq_emod_of_nonneg (by omega)]; exact e1
                  have hkm' : ((k % m : Nat) : Int) < (m : Int) := by omega
                  clear hcy0 hi hwr
                  generalize k % m = km at *
                  generalize incAt IS k = ik at *
                  go_wp2
                  go_quiet (first | (go_at_call 7; exact Calls.quiet_of_same (cut_any nk _ hnl)))
                  clear e1 e2 hkm'
                  go_wp2
                  go_roundw
                  case rel => exact ⟨k + 1, by omega, by go_num, _, by rw [HW.out, World.drewN_drewN]⟩
                  case measure => simp [intOf]; omega
              · obtain rfl : n = k := by omega
                clear hwr
                go_wp2
                go_loopw [18] (fun i wr => ∃ k : Nat, k ≤ q ∧ i = .int .i64 k ∧ ∃ nq, wr = wv.drewN nq) (fun i _ => q - (intOf i).toNat)
                case atStart => exact ⟨0, Nat.zero_le _, rfl, nq, HW.out⟩
                case round =>
                  obtain ⟨k, hk, rfl, nq, hwr⟩ := hrel
                  have HW2 : Hid (wr = wv.drewN nq) := hwr
                  by_cases hlt : k < q
                  · obtain ⟨b, off, rfl, hb, hcx0⟩ := HA.out k hlt
                    have hcx : wr.cell? ⟨b, off + k, none⟩ = some (.string ⟨(AS.getD k []).toArray⟩) := by rw [hwr]; exact (HF.out.bel.cell (by exact hb)).trans hcx0
                    obtain ⟨g1, cc1, hg1⟩ := Joins.ownsRow_form HF.out.s (by omega)
                    cases hg1
                    have hr0 : wr.cell? ⟨g1, k, none⟩ = some (.string ⟨(cutL (AS.getD k [])).toArray⟩) := by rw [hwr]; exact row_str HF.out.s hlt
                    have hnl := HAl.out k
                    clear hcx0 hwr
                    generalize AS.getD k [] = nk at *
                    go_wp2
                    go_quiet (first | (go_at_call 7; exact Calls.quiet_of_same (cut_any nk _ hnl)))
                    go_wp2
                    go_roundw
                    case rel => exact ⟨k + 1, by omega, by go_num, _, by rw [HW2.out, World.drewN_drewN]⟩
                    case measure => simp [intOf]; omega
                  · obtain rfl : q = k := by omega
                    have HB6 : Hid (Below w.heap.size w wr) := by rw [hwr]; exact below_drewN HF.out.bel nq
                    by_cases hnq : n = q
                    · obtain ⟨o', c', hD⟩ := HF.out.same hnq
                      have HD6 := ds_at hwr hD
                      have hc0 := HD6.out.c0
                      have hc1 := HD6.out.c1
                      rw [H0.out.2] at hc0
                      have HEQ : Hid (Calls Ybad.prog 9 #[.slice (some ⟨g, o', none⟩) 0 c', .slice none 0 0] wr fun e w' => e = .returned (.bool true) ∧ w' = wr) := eq_tail HD6.out _ _ _ H0.out.2 (HT.out.below HB6.out)
                      have hqb : (((q : Nat) : Int) == ((n : Nat) : Int)) = true := by simp [hnq]
                      have HNQ : Hid (n = q) := hnq
                      clear hD hwr hnq
                      go_wp2_with fail
                      refine HEQ.out.mono ?_
                      rintro e w7 ⟨rfl, hw7⟩
                      rw [hw7]
                      go_wp2
                      go_ret
                      exact ⟨rfl, HB6.out⟩
                    · obtain ⟨hc0', hc1'⟩ := HF.out.other hnq
                      have hc0 := cell_at hwr hc0'
                      have hc1 := cell_at hwr hc1'
                      have he0 : wr.cell? ⟨0, 0, none⟩ = some (.iface ty pv) := (HB6.out.cell (by exact h0)).trans HE.out
                      have hee := H1.out
                      have hnn := eq_nil
                      have hqb : (((q : Nat) : Int) == ((n : Nat) : Int)) = false := by simp; omega
                      have HNQ : Hid (n ≠ q) := hnq
                      clear hc0' hc1' hwr hnq
                      go_wp2
                      go_quiet (fail)
                      go_wp2
                      go_ret
                      exact ⟨rfl, below_drewN HB6.out _⟩
          | some ad =>
            subst hat
            have hsl := strs_le AS q
            obtain ⟨pre, hpre, HB4⟩ : ∃ pre, Hid (pre = Lib.uvarint n ++ memsL (pK NS IS n) ++ Lib.uvarint q ++ strsL (sK AS q)) ∧ Hid (Body w.heap.size wr u9 pre) := ⟨_, rfl, HS3.out.1⟩
            have HG4 : Hid (Below w.heap.size w wr) := HS3.out.2
            have hpl : pre.length ≤ 600000 := by rw [hpre.out]; simp only [List.length_append]; omega
            obtain ⟨iv, hiv, hz0, hz1, hz2⟩ := info_parts infoB
            have HII : Hid (_ ∧ _ ∧ _ ∧ _) := ⟨hiv, hz0, hz1, hz2⟩
            clear hiv hz0 hz1 hz2 HS3 HS2 hsl
            have HNW : Hid (∀ j u, (Lib.byteCells TL)[j]? = some u → wr.cell? (ad.add j) = some u) := news_at (HT.out.below HG4.out) H0.out.2
            go_wp2_with (first | (at_builtin; refine wpList_append_own _ rfl _ _ 24 rfl w.heap.size 5 iv (.int .u8 0) 1 1 Ybad.underlying24 HII.out.1 HII.out.2.1 HII.out.2.2.1 HII.out.2.2.2 rfl (by decide) _ _ _ rfl HB4.out.1 ad t ct (Lib.byteCells TL) rfl ?c0 HNW.out (news_one TL) ?c3 ?c4 ?c5 ?_) | fail)
            case c0 => have := H0.out.2; simp [Lib.byteCells]; omega
            case c3 => unfold maxLen; omega
            case c4 => omega
            case c5 => exact HB4.out.2
            intro v5 w5 ho hgr _
            have HB5 : Hid (Body w.heap.size w5 v5 (pre ++ TL) ∧ Below w.heap.size w w5) := body_app HB4.out HG4.out H0.out.2 ho hgr
            clear ho hgr HB4 HNW hpl
            have HW : Hid (_) := view_body (NS := NS) (IS := IS) (AS := AS) hn hq HIl.out HE.out h0 (body_eq HB5.out.1 (by rw [hpre.out])) HB5.out.2
            obtain ⟨g, L, cap, hv5, HV0⟩ := HW.out
            have HV : Hid (Calls Ybad.prog 8 _ _ _) := HV0
            clear HV0 HW
            subst hv5
            have hbd := build33 (some ⟨g, 0, none⟩) L cap
            go_wp2_with fail
            refine HV.out.mono ?_
            rintro e wv ⟨v1, v2, rfl, HF0⟩
            have HF : Hid (Fin3 w _ g n q (pK NS IS n) (sK AS q) TL (.iface ty pv) v1 v2 wv) := HF0
            obtain ⟨a1, k1, hs1⟩ := own_shape HF0.m
            obtain ⟨a2, k2, hs2⟩ := own_shape HF0.s
            subst hs1 hs2
            clear HF0 HV
            go_wp2
            go_loopw [16] (fun i wr => ∃ k : Nat, k ≤ n ∧ i = .int .i64 k ∧ ∃ nq, wr = wv.drewN nq) (fun i _ => n - (intOf i).toNat)
            case atStart => exact ⟨0, Nat.zero_le _, rfl, 0, rfl⟩
            case round =>
              obtain ⟨k, hk, rfl, nq, hwr⟩ := hrel
              have HW : Hid (wr = wv.drewN nq) := hwr
              by_cases hlt : k < n
              · obtain ⟨b, off, rfl, hb, hcx0⟩ := HN.out k hlt
                have hcx : wr.cell? ⟨b, off + k, none⟩ = some (.string ⟨(NS.getD k []).toArray⟩) := by rw [hwr]; exact (HF.out.bel.cell (by exact hb)).trans hcx0
                obtain ⟨g1, cc1, hg1⟩ := Joins.ownsRow_form HF.out.m (by omega)
                cases hg1
                have hrow := row_name HF.out.m hlt
                have hr0 : wr.cell? ⟨g1, k * 2, none⟩ = some (.string ⟨(cutL (NS.getD k [])).toArray⟩) := by rw [hwr]; exact hrow.1
                have hr1 : wr.cell? ⟨g1, k * 2 + 1, none⟩ = some (.int .u64 ((incAt IS k : Nat) : Int)) := by rw [hwr]; exact hrow.2
                have hnl := HNl.out k
                clear hcx0 hrow
                generalize NS.getD k [] = nk at *
                by_cases hm0 : m = 0
                · have hi : incAt IS k = 0 := by unfold incAt; rw [if_pos (by have := H0.out.1; omega)]
                  rw [hi] at hr1
                  have hm1 : decide ((0 : Int) < (m : Int)) = false := decide_eq_false (by omega)
                  have hm2 : decide (0 < m) = false := decide_eq_false (by omega)
                  have hm3 : ¬ 0 < m := by omega
                  have HM0 : Hid (m = 0) := hm0
                  clear hi hm0 hwr
                  go_wp2
                  go_quiet (first | (go_at_call 7; exact Calls.quiet_of_same (cut_any nk _ hnl)))
                  go_wp2
                  go_roundw
                  case rel => exact ⟨k + 1, by omega, by go_num, _, by rw [HW.out, World.drewN_drewN]⟩
                  case measure => simp [intOf]; omega
                · have hmp : (0 : Int) < (m : Int) := by omega
                  have hkm : k % m < m := Nat.mod_lt _ (by omega)
                  obtain ⟨b', off', hai, hb', hcy0⟩ := HI.out (k % m) hkm
                  have hi : incAt IS k = IS.getD (k % m) 0 := by unfold incAt; rw [if_neg (by have := H0.out.1; omega), H0.out.1]
                  have hcy : wr.cell? ⟨b', off' + k % m, none⟩ = some (.int .u64 ((incAt IS k : Nat) : Int)) := by rw [hi, hwr]; exact (HF.out.bel.cell (by exact hb')).trans hcy0
                  subst hai
                  have e1 : (k : Int) % (m : Int) = ((k % m : Nat) : Int) := by simp
                  have e2 : (k : Int).tmod (m : Int) = ((k % m : Nat) : Int) := by rw [Int.tmod_eq_emod_of_nonneg (by omega)]; exact e1
                  have hkm' : ((k % m : Nat) : Int) < (m : Int) := by omega
                  clear hcy0 hi hwr
                  generalize k % m = km at *
                  generalize incAt IS k = ik at *
                  go_wp2
                  go_quiet (first | (go_at_call 7; exact Calls.quiet_of_same (cut_any nk _ hnl)))
                  clear e1 e2 hkm'
                  go_wp2
                  go_roundw
                  case rel => exact ⟨k + 1, by omega, by go_num, _, by rw [HW.out, World.drewN_drewN]⟩
                  case measure => simp [intOf]; omega
              · obtain rfl : n = k := by omega
                clear hwr
                go_wp2
                go_loopw [18] (fun i wr => ∃ k : Nat, k ≤ q ∧ i = .int .i64 k ∧ ∃ nq, wr = wv.drewN nq) (fun i _ => q - (intOf i).toNat)
                case atStart => exact ⟨0, Nat.zero_le _, rfl, nq, HW.out⟩
                case round =>
                  obtain ⟨k, hk, rfl, nq, hwr⟩ := hrel
                  have HW2 : Hid (wr = wv.drewN nq) := hwr
                  by_cases hlt : k < q
                  · obtain ⟨b, off, rfl, hb, hcx0⟩ := HA.out k hlt
                    have hcx : wr.cell? ⟨b, off + k, none⟩ = some (.string ⟨(AS.getD k []).toArray⟩) := by rw [hwr]; exact (HF.out.bel.cell (by exact hb)).trans hcx0
                    obtain ⟨g1, cc1, hg1⟩ := Joins.ownsRow_form HF.out.s (by omega)
                    cases hg1
                    have hr0 : wr.cell? ⟨g1, k, none⟩ = some (.string ⟨(cutL (AS.getD k [])).toArray⟩) := by rw [hwr]; exact row_str HF.out.s hlt
                    have hnl := HAl.out k
                    clear hcx0 hwr
                    generalize AS.getD k [] = nk at *
                    go_wp2
                    go_quiet (first | (go_at_call 7; exact Calls.quiet_of_same (cut_any nk _ hnl)))
                    go_wp2
                    go_roundw
                    case rel => exact ⟨k + 1, by omega, by go_num, _, by rw [HW2.out, World.drewN_drewN]⟩
                    case measure => simp [intOf]; omega
                  · obtain rfl : q = k := by omega
                    have HB6 : Hid (Below w.heap.size w wr) := by rw [hwr]; exact below_drewN HF.out.bel nq
                    by_cases hnq : n = q
                    · obtain ⟨o', c', hD⟩ := HF.out.same hnq
                      have HD6 := ds_at hwr hD
                      have hc0 := HD6.out.c0
                      have hc1 := HD6.out.c1
                      rw [H0.out.2] at hc0
                      have HEQ : Hid (Calls Ybad.prog 9 #[.slice (some ⟨g, o', none⟩) t c', .slice (some ad) t ct] wr fun e w' => e = .returned (.bool true) ∧ w' = wr) := eq_tail HD6.out _ _ _ H0.out.2 (HT.out.below HB6.out)
                      have hqb : (((q : Nat) : Int) == ((n : Nat) : Int)) = true := by simp [hnq]
                      have HNQ : Hid (n = q) := hnq
                      clear hD hwr hnq
                      go_wp2_with fail
                      refine HEQ.out.mono ?_
                      rintro e w7 ⟨rfl, hw7⟩
                      rw [hw7]
                      go_wp2
                      go_ret
                      exact ⟨rfl, HB6.out⟩
                    · obtain ⟨hc0', hc1'⟩ := HF.out.other hnq
                      have hc0 := cell_at hwr hc0'
                      have hc1 := cell_at hwr hc1'
                      have he0 : wr.cell? ⟨0, 0, none⟩ = some (.iface ty pv) := (HB6.out.cell (by exact h0)).trans HE.out
                      have hee := H1.out
                      have hnn := eq_nil
                      have hqb : (((q : Nat) : Int) == ((n : Nat) : Int)) = false := by simp; omega
                      have HNQ : Hid (n ≠ q) := hnq
                      clear hc0' hc1' hwr hnq
                      go_wp2
                      go_quiet (fail)
                      go_wp2
                      go_ret
                      exact ⟨rfl, below_drewN HB6.out _⟩
end Go.Proofs.YbulkcdcaDoor
