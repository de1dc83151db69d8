import Derived.Test.YbulkcdakFmtRows
import Derived.WalkKit
import Derived.WalkSpells
import Derived.Laws.BytesArg
import Derived.Deep.QuietTactic
import Derived.BigQuiet
import Derived.Stop.JoinedTold
namespace Go.Proofs.YbulkcdakFmt
open Go.RowKit
def plainB (c : Int) : Bool := decide (32 < c) && decide (c < 127) && (c != 92)
theorem info5 : (Ybaf.prog.info? 5).map (fun i => (i.zero, i.size, i.bytes)) = some (some (.int .u8 0), 1, 1) := by kernel_rfl
def zeros (n : Nat) : Array Value := madeCells #[.int .u8 0] n
theorem zeros_size (n : Nat) : (zeros n).size = n := size_madeCells _ _
theorem make_any (n : Nat) (h : n ≤ 1024) (w : World) : (Instr.makeSlice 22 (.int .i64 (n : Int)) (.int .i64 (n : Int))).run Ybaf.prog w = .ok (.slice (some ⟨w.heap.size, 0, none⟩) n n) (w.alloc (.cells (zeros n) 5)) := by
  obtain ⟨i0, hi, hz0, hz1, hz2⟩ := info_parts info5
  have := run_make (P := Ybaf.prog) w 22 5 i0 (.int .u8 0) Ybaf.underlying22 hi hz0 .i64 .i64 n n (by omega) (by omega) (by rw [hz2]; omega) (by omega)
  rw [this, hz1]
  simp [zeros, Value.cells]
def nums (l : List Int) : List Value := l.map (Value.int .u8)
theorem setRow_new (w : World) (c c' : Array Value) (t : TypeId) : (w.alloc (.cells c t)).setRow w.heap.size c' = w.alloc (.cells c' t) := by
  simp only [World.setRow, World.alloc]
  congr 1
  apply Array.ext_getElem?
  intro i
  rw [Array.getElem?_modify, Array.getElem?_push, Array.getElem?_push]
  by_cases hi : i = w.heap.size
  · simp [hi]
  · simp [hi, Ne.symm hi]
theorem copy_new (w : World) (g : Nat) (hg : g = w.heap.size) (ty : TypeId) (a : Option Addr) (n c : Nat) (xs : List Int) (hx : xs.length = n) (cur : Array Value) (hcur : cur.size = n)
    (hsrc : ∀ j, j < n → ∃ ad, a = some ad ∧ w.cell? (ad.add j) = some (.int .u8 (xs.getD j 0))) :
    (Builtin.copy_ #[22, 22] ty #[.slice (some ⟨g, 0, none⟩) n n, .slice a n c]).run Ybaf.prog (w.alloc (.cells cur 5)) = .ok (goInt n) (w.alloc (.cells (nums xs).toArray 5)) := by
  subst hg
  have hs : (Ybaf.prog.info? 5).map (·.size) = some 1 := by kernel_rfl
  by_cases hn : n = 0
  · subst hn
    have := run_copy_none (P := Ybaf.prog) (w.alloc (.cells cur 5)) 22 22 ty 5 (some ⟨w.heap.size, 0, none⟩) a 0 0 0 c Ybaf.underlying22 hs (by simp)
    rw [this]
    have e1 : xs = [] := List.eq_nil_of_length_eq_zero hx
    have e2 : cur = #[] := Array.eq_empty_of_size_eq_zero hcur
    simp [e1, e2, nums, goInt]
  · obtain ⟨ad, rfl, _⟩ := hsrc 0 (by omega)
    have := run_copy_row Ybaf.prog (w.alloc (.cells cur 5)) 22 22 ty 5 w.heap.size 0 n n ad n c cur 5 (nums xs) Ybaf.underlying22 hs (heap_alloc_new w _) (by simp [nums, hx]) ?_ (by simp [nums, hx, hcur]) ?_
    · rw [this, setRow_new]
      have e3 : cur.toList.drop (nums xs).length = [] := by simp [nums, hx, hcur]
      simp [e3]
      simp [nums, hx]
    · intro j v hj
      simp [nums] at hj
      obtain ⟨x, hx1, rfl⟩ := hj
      obtain ⟨hj1, hj2⟩ := List.getElem?_eq_some_iff.1 hx1
      obtain ⟨ad', e, hcell⟩ := hsrc j (by omega)
      cases e
      have := cell_later (wx := w.alloc (.cells cur 5)) ((Below.refl _ w).alloc (Nat.le_refl _) _) hcell
      rw [this]
      simp [List.getD, hx1]
    · intro v hv
      simp [nums] at hv
      obtain ⟨_, _, rfl⟩ := hv
      rfl

def byteOfInt (x : Int) : UInt8 := UInt8.ofNat x.toNat
def hexDigit (n : Nat) : UInt8 := Go.Extern.FmtText.digit false n
def escB (x : Int) : List UInt8 := if plainB x = true then [byteOfInt x] else [92, 120, hexDigit (x.toNat / 16), hexDigit (x.toNat % 16)]
def esc (xs : List Int) : List UInt8 := xs.flatMap escB
def EscSaid : Prop := ∀ (F : Stop.Interp) (a : Option Addr) (n c : Nat) (xs : List Int) (w : World), F.told.answers w.tape → xs.length = n → n ≤ 1024 → (∀ x ∈ xs, 0 ≤ x ∧ x ≤ 255) →
  (∀ j, j < n → ∃ b off, a = some ⟨b, off, none⟩ ∧ b < w.heap.size ∧ w.cell? ⟨b, off + j, none⟩ = some (.int .u8 (xs.getD j 0))) →
  Calls Ybaf.prog 5 #[.slice a n c] w fun e w' => e = .returned (.string ⟨(esc xs).toArray⟩) ∧ Below w.heap.size w w'
theorem conv_any (w : World) (a : Option Addr) (n c : Nat) (xs : List Int) (hx : xs.length = n)
    (h : ∀ j, j < n → ∃ ad : Addr, a = some ad ∧ w.cell? (ad.add j) = some (.int .u8 (xs.getD j 0))) :
    (convert 22 9 (.slice a n c)).run Ybaf.prog w = .ok (.string ⟨(xs.map byteOfInt).toArray⟩) w := by
  by_cases hn : n = 0
  · subst hn
    obtain rfl : xs = [] := List.eq_nil_of_length_eq_zero hx
    rw [run_convert_bytes_string w 22 9 5 _ 0 c Ybaf.underlying22 Ybaf.underlying5 Ybaf.underlying9]
    cases a <;> simp [Conv.bytesToString, loadCells]
    all_goals rfl
  · obtain ⟨ad, rfl, h0⟩ := h 0 (by omega)
    obtain ⟨b, off, spot⟩ := ad
    have hspot : spot = none := by simpa [Addr.add] using World.cell?_spot h0
    subst hspot
    have := run_convert_bytes_arg (P := Ybaf.prog) w 22 5 Ybaf.underlying22 Ybaf.underlying5 b off n c xs hx (fun j hj => by
      obtain ⟨ad, e, h1⟩ := h j hj
      cases e
      rwa [Addr.add_lit] at h1) 9 Ybaf.underlying9
    exact this
theorem equal_any (a b : Option Addr) (n c m d : Nat) (xs ys : List Int) (w : World) (hx : xs.length = n) (hy : ys.length = m)
  (h1 : ∀ j, j < n → ∃ ad : Addr, a = some ad ∧ w.cell? (ad.add j) = some (.int .u8 (xs.getD j 0)))
  (h2 : ∀ j, j < m → ∃ ad : Addr, b = some ad ∧ w.cell? (ad.add j) = some (.int .u8 (ys.getD j 0))) :
  Calls Ybaf.prog 6 #[.slice a n c, .slice b m d] w fun e w' => e = .returned (.bool (xs.map byteOfInt == ys.map byteOfInt)) ∧ w' = w := by
  have e1 := conv_any w a n c xs hx h1
  have e2 := conv_any w b m d ys hy h2
  clear h1 h2
  go_enter Ybaf.func6, Ybaf.ntmps6
  go_wp2
  go_ret
  exact ⟨rfl, rfl⟩
set_option maxHeartbeats 400000 in
theorem hp_true (p r : List UInt8) (w : World) (_hs : p.length + r.length ≤ 1000000) :
    Calls Ybaf.prog 8 #[.string ⟨(p ++ r).toArray⟩, .string ⟨p.toArray⟩] w fun e w' => e = .returned (.bool true) ∧ w' = w := by
  have h1 : (⟨(p ++ r).toArray⟩ : ByteArray).size = p.length + r.length := by simp [ByteArray.size]
  have h2 : (⟨p.toArray⟩ : ByteArray).size = p.length := by simp [ByteArray.size]
  have h3 : (⟨(p ++ r).toArray⟩ : ByteArray).extract 0 p.length = ⟨p.toArray⟩ := by
    apply ByteArray.ext
    simp
  generalize (⟨(p ++ r).toArray⟩ : ByteArray) = s at *
  generalize (⟨p.toArray⟩ : ByteArray) = q at *
  go_enter Ybaf.func8, Ybaf.ntmps8
  go_wp2
  go_ret
  exact ⟨rfl, rfl⟩
theorem below_drewN {B : Nat} {a w : World} (h : Below B a w) (n : Nat) : Below B a (w.drewN n) := h.trans ⟨rfl, rfl, rfl, Nat.le_refl _, fun _ _ => rfl⟩
theorem byteOfInt_toNat (x : Int) (h : 0 ≤ x ∧ x ≤ 255) : ((byteOfInt x).toNat : Int) = x := by
  unfold byteOfInt
  rw [UInt8.toNat_ofNat']
  omega
theorem esc_plain : ∀ (xs : List Int), (∀ x ∈ xs, plainB x = true) → esc xs = xs.map byteOfInt
  | [], _ => rfl
  | x :: xs, h => by
    have := esc_plain xs (fun y hy => h y (by simp [hy]))
    unfold esc at this ⊢
    simp [this, escB, h x (by simp)]
theorem esc_append (xs ys : List Int) : esc (xs ++ ys) = esc xs ++ esc ys := by simp [esc]
theorem escB_le (x : Int) : (escB x).length ≤ 4 := by unfold escB; split <;> simp
theorem esc_le : ∀ (xs : List Int), (esc xs).length ≤ 4 * xs.length
  | [] => by simp [esc]
  | x :: xs => by
    have h1 := esc_le xs
    have h2 := escB_le x
    unfold esc at h1 ⊢
    rw [List.flatMap_cons, List.length_append, List.length_cons]
    omega
end Go.Proofs.YbulkcdakFmt
