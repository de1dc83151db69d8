import Derived.Test.YbulkcdakDoorRows
import Derived.Test.YbulkcdakDoorShelf
import Derived.Test.YbulkcdakDoorPlain
import Derived.WalkKit
import Derived.WalkSpells
import Derived.WalkLawsBesides
namespace Go.Proofs.YbulkcdakDoor
open Go.RowKit

/-- What the library's variables hold. -/
def Glob (w : World) : Prop := Lib.TabIs Ybad.prog w "strings.asciiSpace" .u8 Lib.asciiSpaceTab ∧ (∃ t p, w.cell? ⟨2, 0, none⟩ = some (.iface t p)) ∧ (∃ t p, w.cell? ⟨3, 0, none⟩ = some (.iface t p))
theorem var_below {w w' : World} (h : Below w.heap.size w w') {n : String} {cs : Array Value} (hv : w.var? Ybad.prog n = some cs) : w'.var? Ybad.prog n = some cs := by
  unfold World.var? at hv ⊢
  cases hg : Ybad.prog.globalNamed n with
  | none => simp [hg] at hv
  | some g =>
    simp only [hg, Option.bind_some] at hv ⊢
    have hlt : g < w.heap.size := by
      rcases Nat.lt_or_ge g w.heap.size with h' | h'
      · exact h'
      · simp [Array.getElem?_eq_none h'] at hv
    rw [h.block g hlt]
    exact hv
theorem Glob.below {w w' : World} (hg : Glob w) (h : Below w.heap.size w w') : Glob w' := by
  obtain ⟨h1, ⟨t2, p2, h2⟩, ⟨t3, p3, h3⟩⟩ := hg
  refine ⟨var_below h h1, ⟨t2, p2, ?_⟩, ⟨t3, p3, ?_⟩⟩
  · rw [h.cell (World.block_lt_of_cell? w _ h2)]; exact h2
  · rw [h.cell (World.block_lt_of_cell? w _ h3)]; exact h3
theorem bytesWorld_below (w : World) (e : TypeId) (s : ByteArray) : Below w.heap.size w (Lib.bytesWorld w e s) := by
  have hz := Lib.bytesWorld_size w e s
  refine ⟨?_, ?_, ?_, by omega, fun k hk => Lib.bytesWorld_at_old w e s k hk⟩
  all_goals (unfold Lib.bytesWorld World.freeze; split <;> rfl)

theorem parse_any (f : List UInt8) (w : World) (hlim : f.length ≤ 100000) (hg : Glob w) :
    Calls Ybad.prog 13 #[.string ⟨f.toArray⟩, .int .i64 10, .int .i64 32] w fun e w' =>
      ∃ ev, e = .returned (.tuple #[.int .u64 (uOf f), ev]) ∧ (good f = true → ev = .nilIface) ∧ (good f = false → ∃ t p, ev = .iface t p) ∧ Below w.heap.size w w' := by
  obtain ⟨-, ⟨t2, p2, h2⟩, ⟨t3, p3, h3⟩⟩ := hg
  have hs : (⟨f.toArray⟩ : ByteArray).size ≤ 100000 := by simpa [ByteArray.size] using hlim
  cases h : Lib.parseUintB 32 f with
  | ok u =>
    refine (Any.strconv_ParseUint_10_at32_ok Ybad.laysPu14 ⟨f.toArray⟩ (by omega) u h w).mono ?_
    rintro e w' ⟨rfl, hw⟩
    refine ⟨.nilIface, by simp [uOf, h], fun _ => rfl, fun hn => by simp [good, h] at hn, ?_⟩
    rcases hw with rfl | rfl
    · exact Below.refl _ _
    · exact bytesWorld_below _ _ _
  | range =>
    refine (Any.strconv_ParseUint_10_at32_range Ybad.laysPu14 ⟨f.toArray⟩ (by omega) h _ w h3 (Or.inr ⟨_, _, rfl⟩)).mono ?_
    rintro e w' ⟨N, rfl, _, _, hb⟩
    exact ⟨.iface (Ybad.laysPu14_ren.t 39) (.pointer (some ⟨N, 0, none⟩)), by simp [uOf, h], fun hn => by simp [good, h] at hn, fun _ => ⟨_, _, rfl⟩, hb⟩
  | _ =>
    refine (Any.strconv_ParseUint_10_at32_syntax Ybad.laysPu14 ⟨f.toArray⟩ (by omega) h _ w h2 (Or.inr ⟨_, _, rfl⟩)).mono ?_
    rintro e w' ⟨N, rfl, _, _, hb⟩
    exact ⟨.iface (Ybad.laysPu14_ren.t 39) (.pointer (some ⟨N, 0, none⟩)), by simp [uOf, h], fun hn => by simp [good, h] at hn, fun _ => ⟨_, _, rfl⟩, hb⟩

def strs (fs : List (List UInt8)) : Array Value := (fs.map fun l => Value.string ⟨l.toArray⟩).toArray
theorem fields_any (s : ByteArray) (w : World) (hs : s.size ≤ 100000) (hascii : ∀ (j : Nat) b, s.data.toList[j]? = some b → b.toNat < 128) (hg : Glob w) (fs : List (List UInt8)) (hfs : Lib.fields s.data.toList = fs) :
    Calls Ybad.prog 12 #[.string s] w fun e w' => e = .returned (.slice (some ⟨w.heap.size, 0, none⟩) fs.length fs.length) ∧ w' = w.alloc (.cells (strs fs) 9) := by
  subst hfs
  exact Ybad.strings_Fields s w (by omega) hascii hg.1
theorem glob_alloc {w : World} (hg : Glob w) (o : Obj) : Glob (w.alloc o) := hg.below ((Below.refl _ w).alloc (Nat.le_refl _) o)

set_option maxHeartbeats 1000000 in
/-- extentIDs at a line that has not three fields. -/
theorem ext_not3 (s : ByteArray) (w : World) (hs : s.size ≤ 100000) (hascii : ∀ (j : Nat) b, s.data.toList[j]? = some b → b.toNat < 128) (hg : Glob w) (fs : List (List UInt8)) (hfs : Lib.fields s.data.toList = fs) (h3 : fs.length ≠ 3) :
    Calls Ybad.prog 10 #[.string s] w fun e w' => e = .returned (.tuple #[.agg #[.int .u64 0, .int .u64 0, .int .u64 0], .bool false]) ∧ Below w.heap.size w w' := by
  have hne : (((fs.length : Nat) : Int) != 3) = true := by simp; omega
  have HC : Hid (Calls Ybad.prog 12 #[.string s] (w.alloc (.cells #[.int .u64 0, .int .u64 0, .int .u64 0] 26)) fun e w' => e = .returned (.slice (some ⟨w.heap.size + 1, 0, none⟩) fs.length fs.length) ∧ w' = (w.alloc (.cells #[.int .u64 0, .int .u64 0, .int .u64 0] 26)).alloc (.cells (strs fs) 9)) := by
    have := fields_any s (w.alloc (.cells #[.int .u64 0, .int .u64 0, .int .u64 0] 26)) hs hascii (glob_alloc hg _) fs hfs
    have hz : (w.alloc (.cells #[.int .u64 0, .int .u64 0, .int .u64 0] 26)).heap.size = w.heap.size + 1 := by simp
    rw [hz] at this
    exact this
  clear hg hfs hascii
  go_enter Ybad.func10, Ybad.ntmps10
  go_wp2_with fail
  refine HC.out.mono ?_
  rintro e w1 ⟨rfl, rfl⟩
  go_wp2
  exact bodyPost_ret (v := .tuple #[.agg #[.int .u64 0, .int .u64 0, .int .u64 0], .bool false]) (by simp [results, Ybad.results10, go_sem]) rfl ⟨rfl, ((Below.refl _ _).alloc (Nat.le_refl _) _).alloc (by simp) _⟩

def idAt (k j : Nat) (f : List UInt8) : Nat := if j < k then uOf f else 0
def idsA (f0 f1 f2 : List UInt8) (k : Nat) : Array Value := #[.int .u64 (idAt k 0 f0), .int .u64 (idAt k 1 f1), .int .u64 (idAt k 2 f2)]
/-- The state at the head of round k. -/
structure St (w : World) (f0 f1 f2 : List UInt8) (k : Nat) (wr : World) : Prop where
  ids : wr.heap[w.heap.size]? = some (.cells (idsA f0 f1 f2 k) 26 (0, 0))
  fs : wr.heap[w.heap.size + 1]? = some (.cells (strs [f0, f1, f2]) 9 (0, 0))
  bel : Below w.heap.size w wr
theorem St.start (w : World) (f0 f1 f2 : List UInt8) : St w f0 f1 f2 0 ((w.alloc (.cells #[.int .u64 0, .int .u64 0, .int .u64 0] 26)).alloc (.cells (strs [f0, f1, f2]) 9)) := by
  have hz : (w.alloc (.cells #[.int .u64 0, .int .u64 0, .int .u64 0] 26)).heap.size = w.heap.size + 1 := by simp
  refine ⟨?_, ?_, ((Below.refl _ _).alloc (Nat.le_refl _) _).alloc (by simp) _⟩
  · rw [heap_alloc_old _ _ (by rw [hz]; omega), heap_alloc_new]; rfl
  · rw [← hz, heap_alloc_new]
theorem St.lt {w wr : World} {f0 f1 f2 : List UInt8} {k : Nat} (h : St w f0 f1 f2 k wr) : w.heap.size + 1 < wr.heap.size := (Array.getElem?_eq_some_iff.1 h.fs).1
theorem St.later {w wr w1 : World} {f0 f1 f2 : List UInt8} {k : Nat} (h : St w f0 f1 f2 k wr) (hb : Below wr.heap.size wr w1) : St w f0 f1 f2 k w1 := by
  have hl := h.lt
  exact ⟨by rw [hb.block _ (by omega)]; exact h.ids, by rw [hb.block _ hl]; exact h.fs, h.bel.trans (hb.mono (by omega))⟩
theorem St.cellI {w wr : World} {f0 f1 f2 : List UInt8} {k : Nat} (h : St w f0 f1 f2 k wr) (j : Nat) : wr.cell? ⟨w.heap.size, j, none⟩ = (idsA f0 f1 f2 k)[j]? := by
  simp [World.cell?, h.ids]
theorem St.frozenI {w wr : World} {f0 f1 f2 : List UInt8} {k : Nat} (h : St w f0 f1 f2 k wr) (j : Nat) : wr.frozen? ⟨w.heap.size, j, none⟩ = false := by
  simp [World.frozen?, h.ids]
theorem St.cellF {w wr : World} {f0 f1 f2 : List UInt8} {k : Nat} (h : St w f0 f1 f2 k wr) (j : Nat) : wr.cell? ⟨w.heap.size + 1, j, none⟩ = (strs [f0, f1, f2])[j]? := by
  simp [World.cell?, h.fs]
theorem St.put {w wr : World} {f0 f1 f2 : List UInt8} {k : Nat} (h : St w f0 f1 f2 k wr) (v : Value) (hv : (idsA f0 f1 f2 k).setIfInBounds k v = idsA f0 f1 f2 (k + 1)) : St w f0 f1 f2 (k + 1) (wr.setCell ⟨w.heap.size, k, none⟩ v) := by
  have hl := h.lt
  refine ⟨?_, ?_, h.bel.setCell (p := ⟨w.heap.size, k, none⟩) (Nat.le_refl _) _⟩
  · simp [World.setCell, Array.getElem?_modify, h.ids, hv]
  · rw [Below.heap_setCell _ _ _ _ (by simp)]; exact h.fs
theorem ids_put0 (f0 f1 f2 : List UInt8) : (idsA f0 f1 f2 0).setIfInBounds 0 (.int .u64 (uOf f0)) = idsA f0 f1 f2 1 := by simp [idsA, idAt]
theorem ids_put1 (f0 f1 f2 : List UInt8) : (idsA f0 f1 f2 1).setIfInBounds 1 (.int .u64 (uOf f1)) = idsA f0 f1 f2 2 := by simp [idsA, idAt]
theorem ids_put2 (f0 f1 f2 : List UInt8) : (idsA f0 f1 f2 2).setIfInBounds 2 (.int .u64 (uOf f2)) = idsA f0 f1 f2 3 := by simp [idsA, idAt]

/-- How many fields are good ahead of the first bad one. -/
def goods (f0 f1 f2 : List UInt8) : Nat := if good f0 = true then (if good f1 = true then (if good f2 = true then 3 else 2) else 1) else 0
def okB (f0 f1 f2 : List UInt8) : Bool := good f0 && good f1 && good f2
def idsR (f0 f1 f2 : List UInt8) : Array Value := idsA f0 f1 f2 (goods f0 f1 f2 + 1)

theorem goods_0 {f0 f1 f2 : List UInt8} (_ : 0 ≤ goods f0 f1 f2) (h : good f0 = true) : 1 ≤ goods f0 f1 f2 := by
  unfold goods; rw [if_pos h]; split <;> (try split) <;> omega
theorem goods_1 {f0 f1 f2 : List UInt8} (hk : 1 ≤ goods f0 f1 f2) (h : good f1 = true) : 2 ≤ goods f0 f1 f2 := by
  unfold goods at hk ⊢
  split at hk
  · rename_i h0; rw [if_pos h0, if_pos h]; split <;> omega
  · omega
theorem goods_2 {f0 f1 f2 : List UInt8} (hk : 2 ≤ goods f0 f1 f2) (h : good f2 = true) : 3 ≤ goods f0 f1 f2 := by
  unfold goods at hk ⊢
  split at hk
  · rename_i h0
    split at hk
    · rename_i h1; rw [if_pos h0, if_pos h1, if_pos h]; omega
    · omega
  · omega
theorem bad_0 {f0 f1 f2 : List UInt8} (_ : 0 ≤ goods f0 f1 f2) (h : good f0 = false) : idsR f0 f1 f2 = idsA f0 f1 f2 1 ∧ okB f0 f1 f2 = false := by
  simp [idsR, goods, okB, h]
theorem bad_1 {f0 f1 f2 : List UInt8} (hk : 1 ≤ goods f0 f1 f2) (h : good f1 = false) : idsR f0 f1 f2 = idsA f0 f1 f2 2 ∧ okB f0 f1 f2 = false := by
  have h0 : good f0 = true := by
    cases hh : good f0 with
    | true => rfl
    | false => simp [goods, hh] at hk
  simp [idsR, goods, okB, h, h0]
theorem bad_2 {f0 f1 f2 : List UInt8} (hk : 2 ≤ goods f0 f1 f2) (h : good f2 = false) : idsR f0 f1 f2 = idsA f0 f1 f2 3 ∧ okB f0 f1 f2 = false := by
  have h0 : good f0 = true := by
    cases hh : good f0 with
    | true => rfl
    | false => simp [goods, hh] at hk
  have h1 : good f1 = true := by
    cases hh : good f1 with
    | true => rfl
    | false => simp [goods, hh, h0] at hk
  simp [idsR, goods, okB, h, h0, h1]
theorem all_3 {f0 f1 f2 : List UInt8} (hk : 3 ≤ goods f0 f1 f2) : idsR f0 f1 f2 = idsA f0 f1 f2 3 ∧ okB f0 f1 f2 = true := by
  have h0 : good f0 = true := by
    cases hh : good f0 with
    | true => rfl
    | false => simp [goods, hh] at hk
  have h1 : good f1 = true := by
    cases hh : good f1 with
    | true => rfl
    | false => simp [goods, hh, h0] at hk
  have h2 : good f2 = true := by
    cases hh : good f2 with
    | true => rfl
    | false => simp [goods, hh, h0, h1] at hk
  simp [idsR, goods, okB, h0, h1, h2, idsA, idAt]

set_option maxHeartbeats 2000000 in
theorem ext_3 (s : ByteArray) (w : World) (hs : s.size ≤ 100000) (hascii : ∀ (j : Nat) b, s.data.toList[j]? = some b → b.toNat < 128) (hg : Glob w) (f0 f1 f2 : List UInt8) (hfs : Lib.fields s.data.toList = [f0, f1, f2])
    (hl0 : f0.length ≤ 100000) (hl1 : f1.length ≤ 100000) (hl2 : f2.length ≤ 100000) :
    Calls Ybad.prog 10 #[.string s] w fun e w' => e = .returned (.tuple #[.agg (idsR f0 f1 f2), .bool (okB f0 f1 f2)]) ∧ Below w.heap.size w w' := by
  have HC : Hid (Calls Ybad.prog 12 #[.string s] (w.alloc (.cells #[.int .u64 0, .int .u64 0, .int .u64 0] 26)) fun e w' => e = .returned (.slice (some ⟨w.heap.size + 1, 0, none⟩) 3 3) ∧ w' = (w.alloc (.cells #[.int .u64 0, .int .u64 0, .int .u64 0] 26)).alloc (.cells (strs [f0, f1, f2]) 9)) := by
    have := fields_any s (w.alloc (.cells #[.int .u64 0, .int .u64 0, .int .u64 0] 26)) hs hascii (glob_alloc hg _) [f0, f1, f2] hfs
    have hz : (w.alloc (.cells #[.int .u64 0, .int .u64 0, .int .u64 0] 26)).heap.size = w.heap.size + 1 := by simp
    rw [hz] at this
    exact this
  have HG : Hid (Glob w) := hg
  clear hg hfs hascii
  go_enter Ybad.func10, Ybad.ntmps10
  go_wp2_with fail
  refine HC.out.mono ?_
  rintro e w1 ⟨rfl, rfl⟩
  go_wp2
  go_loopw [16] (fun i wr => ∃ k : Nat, k ≤ 3 ∧ i = .int .i64 k ∧ Hid (k ≤ goods f0 f1 f2) ∧ Hid (St w f0 f1 f2 k wr)) (fun i _ => 3 - (intOf i).toNat)
  case atStart => exact ⟨0, by omega, rfl, Nat.zero_le _, St.start w f0 f1 f2⟩
  case round =>
    obtain ⟨k, hk, rfl, hgd, HS⟩ := hrel
    clear HC
    rcases (by omega : k = 0 ∨ k = 1 ∨ k = 2 ∨ k = 3) with rfl | rfl | rfl | rfl
    · have c0 := HS.out.cellF 0
      have HP : Hid (Calls Ybad.prog 13 #[.string ⟨f0.toArray⟩, .int .i64 10, .int .i64 32] wr fun e w' =>
        ∃ ev, e = .returned (.tuple #[.int .u64 (uOf f0), ev]) ∧ (good f0 = true → ev = .nilIface) ∧ (good f0 = false → ∃ t p, ev = .iface t p) ∧ Below wr.heap.size wr w') := parse_any f0 wr hl0 (HG.out.below HS.out.bel)
      simp only [strs, List.map_cons, List.map_nil, List.getElem?_toArray, List.getElem?_cons_zero] at c0
      go_wp2_with fail
      refine HP.out.mono ?_
      rintro e w1 ⟨ev, rfl, hok, hbad, hb⟩
      have HS1 : Hid (St w f0 f1 f2 0 w1) := HS.out.later hb
      have HS2 : Hid (St w f0 f1 f2 1 (w1.setCell ⟨w.heap.size, 0, none⟩ (.int .u64 (uOf f0)))) := HS1.out.put _ (ids_put0 f0 f1 f2)
      have d0 : w1.cell? ⟨w.heap.size, 0, none⟩ = some (.int .u64 (idAt 0 0 f0)) := HS1.out.cellI 0
      have g0 := HS1.out.frozenI 0
      have d1 : w1.cell? ⟨w.heap.size, 1, none⟩ = some (.int .u64 (idAt 0 1 f1)) := HS1.out.cellI 1
      have g1 := HS1.out.frozenI 1
      have d2 : w1.cell? ⟨w.heap.size, 2, none⟩ = some (.int .u64 (idAt 0 2 f2)) := HS1.out.cellI 2
      have g2 := HS1.out.frozenI 2
      clear c0 HP hb HS
      cases hgf : good f0 with
      | true =>
        have HN : Hid (1 ≤ goods f0 f1 f2) := goods_0 hgd.out hgf
        rw [hok hgf]
        clear hok hbad hgf HS1
        go_wp2
        go_roundw
        case rel => exact ⟨1, by omega, by go_num, HN.out, HS2.out⟩
        case measure => simp [intOf]
      | false =>
        obtain ⟨t, pp, hev⟩ := hbad hgf
        rw [hev]
        have HR : Hid (idsR f0 f1 f2 = idsA f0 f1 f2 1 ∧ okB f0 f1 f2 = false) := bad_0 hgd.out hgf
        clear hok hbad hgf hev HS1
        go_wp2
        refine bodyPost_ret (v := .tuple #[.agg #[.int .u64 (uOf f0), .int .u64 (idAt 0 1 f1), .int .u64 (idAt 0 2 f2)], .bool false]) (by simp [results, Ybad.results10, go_sem, d0, d1, d2]) rfl ⟨?_, ?_⟩
        · rw [HR.out.1, HR.out.2]
          simp [idsA, idAt]
        · exact ((HS2.out.bel.setCell (p := ⟨w.heap.size, 0, none⟩) (Nat.le_refl _) _).setCell (p := ⟨w.heap.size, 1, none⟩) (Nat.le_refl _) _).setCell (p := ⟨w.heap.size, 2, none⟩) (Nat.le_refl _) _
    · have c0 := HS.out.cellF 1
      have HP : Hid (Calls Ybad.prog 13 #[.string ⟨f1.toArray⟩, .int .i64 10, .int .i64 32] wr fun e w' =>
        ∃ ev, e = .returned (.tuple #[.int .u64 (uOf f1), ev]) ∧ (good f1 = true → ev = .nilIface) ∧ (good f1 = false → ∃ t p, ev = .iface t p) ∧ Below wr.heap.size wr w') := parse_any f1 wr hl1 (HG.out.below HS.out.bel)
      simp only [strs, List.map_cons, List.map_nil, List.getElem?_toArray, List.getElem?_cons_succ, List.getElem?_cons_zero] at c0
      go_wp2_with fail
      refine HP.out.mono ?_
      rintro e w1 ⟨ev, rfl, hok, hbad, hb⟩
      have HS1 : Hid (St w f0 f1 f2 1 w1) := HS.out.later hb
      have HS2 : Hid (St w f0 f1 f2 2 (w1.setCell ⟨w.heap.size, 1, none⟩ (.int .u64 (uOf f1)))) := HS1.out.put _ (ids_put1 f0 f1 f2)
      have d0 : w1.cell? ⟨w.heap.size, 0, none⟩ = some (.int .u64 (idAt 1 0 f0)) := HS1.out.cellI 0
      have g0 := HS1.out.frozenI 0
      have d1 : w1.cell? ⟨w.heap.size, 1, none⟩ = some (.int .u64 (idAt 1 1 f1)) := HS1.out.cellI 1
      have g1 := HS1.out.frozenI 1
      have d2 : w1.cell? ⟨w.heap.size, 2, none⟩ = some (.int .u64 (idAt 1 2 f2)) := HS1.out.cellI 2
      have g2 := HS1.out.frozenI 2
      clear c0 HP hb HS
      cases hgf : good f1 with
      | true =>
        have HN : Hid (2 ≤ goods f0 f1 f2) := goods_1 hgd.out hgf
        rw [hok hgf]
        clear hok hbad hgf HS1
        go_wp2
        go_roundw
        case rel => exact ⟨2, by omega, by go_num, HN.out, HS2.out⟩
        case measure => simp [intOf]
      | false =>
        obtain ⟨t, pp, hev⟩ := hbad hgf
        rw [hev]
        have HR : Hid (idsR f0 f1 f2 = idsA f0 f1 f2 2 ∧ okB f0 f1 f2 = false) := bad_1 hgd.out hgf
        clear hok hbad hgf hev HS1
        go_wp2
        refine bodyPost_ret (v := .tuple #[.agg #[.int .u64 (idAt 1 0 f0), .int .u64 (uOf f1), .int .u64 (idAt 1 2 f2)], .bool false]) (by simp [results, Ybad.results10, go_sem, d0, d1, d2]) rfl ⟨?_, ?_⟩
        · rw [HR.out.1, HR.out.2]
          simp [idsA, idAt]
        · exact ((HS2.out.bel.setCell (p := ⟨w.heap.size, 0, none⟩) (Nat.le_refl _) _).setCell (p := ⟨w.heap.size, 1, none⟩) (Nat.le_refl _) _).setCell (p := ⟨w.heap.size, 2, none⟩) (Nat.le_refl _) _
    · have c0 := HS.out.cellF 2
      have HP : Hid (Calls Ybad.prog 13 #[.string ⟨f2.toArray⟩, .int .i64 10, .int .i64 32] wr fun e w' =>
        ∃ ev, e = .returned (.tuple #[.int .u64 (uOf f2), ev]) ∧ (good f2 = true → ev = .nilIface) ∧ (good f2 = false → ∃ t p, ev = .iface t p) ∧ Below wr.heap.size wr w') := parse_any f2 wr hl2 (HG.out.below HS.out.bel)
      simp only [strs, List.map_cons, List.map_nil, List.getElem?_toArray, List.getElem?_cons_succ, List.getElem?_cons_zero] at c0
      go_wp2_with fail
      refine HP.out.mono ?_
      rintro e w1 ⟨ev, rfl, hok, hbad, hb⟩
      have HS1 : Hid (St w f0 f1 f2 2 w1) := HS.out.later hb
      have HS2 : Hid (St w f0 f1 f2 3 (w1.setCell ⟨w.heap.size, 2, none⟩ (.int .u64 (uOf f2)))) := HS1.out.put _ (ids_put2 f0 f1 f2)
      have d0 : w1.cell? ⟨w.heap.size, 0, none⟩ = some (.int .u64 (idAt 2 0 f0)) := HS1.out.cellI 0
      have g0 := HS1.out.frozenI 0
      have d1 : w1.cell? ⟨w.heap.size, 1, none⟩ = some (.int .u64 (idAt 2 1 f1)) := HS1.out.cellI 1
      have g1 := HS1.out.frozenI 1
      have d2 : w1.cell? ⟨w.heap.size, 2, none⟩ = some (.int .u64 (idAt 2 2 f2)) := HS1.out.cellI 2
      have g2 := HS1.out.frozenI 2
      clear c0 HP hb HS
      cases hgf : good f2 with
      | true =>
        have HN : Hid (3 ≤ goods f0 f1 f2) := goods_2 hgd.out hgf
        rw [hok hgf]
        clear hok hbad hgf HS1
        go_wp2
        go_roundw
        case rel => exact ⟨3, by omega, by go_num, HN.out, HS2.out⟩
        case measure => simp [intOf]
      | false =>
        obtain ⟨t, pp, hev⟩ := hbad hgf
        rw [hev]
        have HR : Hid (idsR f0 f1 f2 = idsA f0 f1 f2 3 ∧ okB f0 f1 f2 = false) := bad_2 hgd.out hgf
        clear hok hbad hgf hev HS1
        go_wp2
        refine bodyPost_ret (v := .tuple #[.agg #[.int .u64 (idAt 2 0 f0), .int .u64 (idAt 2 1 f1), .int .u64 (uOf f2)], .bool false]) (by simp [results, Ybad.results10, go_sem, d0, d1, d2]) rfl ⟨?_, ?_⟩
        · rw [HR.out.1, HR.out.2]
          simp [idsA, idAt]
        · exact ((HS2.out.bel.setCell (p := ⟨w.heap.size, 0, none⟩) (Nat.le_refl _) _).setCell (p := ⟨w.heap.size, 1, none⟩) (Nat.le_refl _) _).setCell (p := ⟨w.heap.size, 2, none⟩) (Nat.le_refl _) _
    · have d0 : wr.cell? ⟨w.heap.size, 0, none⟩ = some (.int .u64 (idAt 3 0 f0)) := HS.out.cellI 0
      have d1 : wr.cell? ⟨w.heap.size, 1, none⟩ = some (.int .u64 (idAt 3 1 f1)) := HS.out.cellI 1
      have d2 : wr.cell? ⟨w.heap.size, 2, none⟩ = some (.int .u64 (idAt 3 2 f2)) := HS.out.cellI 2
      have g0 := HS.out.frozenI 0
      have g1 := HS.out.frozenI 1
      have g2 := HS.out.frozenI 2
      have HR : Hid (idsR f0 f1 f2 = idsA f0 f1 f2 3 ∧ okB f0 f1 f2 = true) := all_3 hgd.out
      go_wp2
      refine bodyPost_ret (v := .tuple #[.agg #[.int .u64 (idAt 3 0 f0), .int .u64 (idAt 3 1 f1), .int .u64 (idAt 3 2 f2)], .bool true]) (by simp [results, Ybad.results10, go_sem, d0, d1, d2]) rfl ⟨?_, ?_⟩
      · rw [HR.out.1, HR.out.2]
        rfl
      · exact ((HS.out.bel.setCell (p := ⟨w.heap.size, 0, none⟩) (Nat.le_refl _) _).setCell (p := ⟨w.heap.size, 1, none⟩) (Nat.le_refl _) _).setCell (p := ⟨w.heap.size, 2, none⟩) (Nat.le_refl _) _
end Go.Proofs.YbulkcdakDoor
