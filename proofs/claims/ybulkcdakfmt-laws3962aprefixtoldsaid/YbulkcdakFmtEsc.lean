import Derived.Test.YbulkcdakFmtBuilder
import Derived.Stop.CallBack
import Derived.Stop.FmtTextLaws
import Derived.Stop.FmtTextKit
import Derived.Stop.FmtTextWidths
import Derived.Stop.Texts
import Derived.Lib.ConvBytes
namespace Go.Proofs.YbulkcdakFmt
open Go.RowKit Go.Extern.Stop Go.Stop Go.Extern Go.Kit
theorem call14 (args : Array Value) (w : World) : (callFunc 14 args).run Ybaf.prog w = ((FmtStop.sprintf #[9, 39] #[9] args).run Ybaf.prog w).andThen fun v w' => .ok (.value v) w' :=
  run_callFunc_extern Ybaf.func14 (by kernel_rfl) (by kernel_rfl) (by kernel_rfl) (by kernel_rfl) args w
theorem guardF (name : String) (w : World) : (FmtStop.guard name).run Ybaf.prog w = .ok () w := by kernel_rfl
theorem fmtP : FmtStop.printed? ⟨#[92, 120, 37, 48, 50, 120]⟩ 1 = some [(0, 120, false)] := by kernel_rfl
theorem fmtR (w : World) : (FmtDoors.printed ⟨#[92, 120, 37, 48, 50, 120]⟩ 1).run Ybaf.prog w = .ok [(0, 120, false)] w := by kernel_rfl
theorem fmtT : (FmtText.parse [92, 120, 37, 48, 50, 120]).map FmtText.glue = some [.lit [92, 120], .verb { widPresent := true, wid := 2, zero := true } 120] := by rfl
def shape5 : List UInt8 := [6, 5, 0, 0, 0, 0, 0, 0, 0, 117, 105, 110, 116, 56]
theorem op5 (name : String) (x : Int) (w : World) : (FmtStop.operand name false 120 false (.iface 5 (.int .u8 x))).run Ybaf.prog w = .ok (shape5, Go.Extern.Stop.digits 8 (x % 2 ^ 64).toNat) w := by kernel_rfl

def hexText (c : Int) : List UInt8 := [92, 120, hexDigit (c.toNat / 16), hexDigit (c.toNat % 16)]
theorem hex_text (c : Int) (h : 0 ≤ c ∧ c ≤ 255) : FmtText.text "fmt.Sprintf" [[92, 120, 37, 48, 50, 120], shape5, digits 8 (c % 18446744073709551616).toNat] = some (hexText c) := by
  have hw : (Lit.int .u8 c).wf = true := WalkArith.wf_u8 (by omega)
  have hi := FmtText.operand_int_at (sh := shape5) (k := .u8) rfl rfl c hw
  rw [FmtText.text_sprintf_glued fmtT (FmtText.operands_cons hi FmtText.operands_nil)]
  have hp := FmtText.printArg_02x_byte false [117, 105, 110, 116, 56] c h.1 (by omega)
  simp [FmtText.render, hexText, hexDigit]
  exact hp
theorem hex_told (F : Stop.Interp) (c : Int) (h : 0 ≤ c ∧ c ≤ 255) : FmtStop.textOf (F.told "fmt.Sprintf" [[92, 120, 37, 48, 50, 120], shape5, digits 8 (c % 18446744073709551616).toNat] 0) = ⟨(hexText c).toArray⟩ := by
  have ht := told_string F (hex_text c h) (by simp [hexText])
  have := textOf_list F.told "fmt.Sprintf" [[92, 120, 37, 48, 50, 120], shape5, digits 8 (c % 18446744073709551616).toNat]
  rw [ht] at this
  generalize FmtStop.textOf (F.told "fmt.Sprintf" [[92, 120, 37, 48, 50, 120], shape5, digits 8 (c % 18446744073709551616).toNat] 0) = s at *
  obtain ⟨a⟩ := s
  simp at this
  simp [← this]
theorem builderAt_grown {T e : TypeId} {B b : Nat} {p : Value} {bs : List Value} {w w' : World} (h : Lib.BuilderAt T e B b p bs w) (hg : w.grownBy w' none) : Lib.BuilderAt T e B b p bs w' := by
  have hlt := h.lt
  obtain ⟨hB, v, hbk, hown, hne⟩ := h
  refine ⟨hB, v, by rw [hg.block b hlt (by simp)]; exact hbk, hown.kept hg ?_, hne⟩
  cases hv : v.ownBlock with
  | none => exact Or.inl rfl
  | some k => exact Or.inr (by simp)
theorem isBuilder_grown {T e : TypeId} {B b : Nat} {bs : List Value} {w w' : World} (h : Lib.IsBuilder T e B b bs w) (hg : w.grownBy w' none) : Lib.IsBuilder T e B b bs w' := by
  rcases h with h | h
  · exact Or.inl (builderAt_grown h hg)
  · exact Or.inr (builderAt_grown h hg)
theorem bytesWorld_grown (w : World) (e : TypeId) (s : ByteArray) : w.grownBy (Lib.bytesWorld w e s) none := by
  have hz := Lib.bytesWorld_size w e s
  refine ⟨?_, ?_, ?_, by omega, fun k hk _ => Lib.bytesWorld_at_old w e s k hk⟩
  all_goals (unfold Lib.bytesWorld World.freeze; split <;> rfl)
theorem grownBy_trans {a b c : World} (h : a.grownBy b none) (k : b.grownBy c none) : a.grownBy c none :=
  ⟨k.os.trans h.os, k.tape.trans h.tape, k.output.trans h.output, Nat.le_trans h.size k.size, fun i hi hn => (k.block i (Nat.lt_of_lt_of_le hi h.size) hn).trans (h.block i hi hn)⟩
theorem below_of_grown {B : Nat} {a b : World} (h : a.grownBy b none) (hB : B ≤ a.heap.size) : Below B a b :=
  ⟨h.os, h.tape, h.output, h.size, fun i hi => h.block i (by omega) (by simp)⟩
theorem hexText_length (c : Int) : (hexText c).length = 4 := rfl
def hexCells (c : Int) : List Value := (hexText c).map fun x => Value.int .u8 x.toNat
theorem hexCells_length (c : Int) : (hexCells c).length = 4 := rfl

theorem grown_drew (w : World) : w.grownBy w.drew none := ⟨rfl, rfl, rfl, Nat.le_refl _, fun _ _ _ => rfl⟩
def fpWorld (w : World) (c : Int) : World := Lib.bytesWorld (w.alloc (Obj.cells #[Value.iface 5 (Value.int IntKind.u8 c)] 20)).drew 5 ⟨(hexText c).toArray⟩
theorem fpWorld_grown (w : World) (c : Int) : w.grownBy (fpWorld w c) none :=
  grownBy_trans (World.grownBy_alloc w (Obj.cells #[Value.iface 5 (Value.int IntKind.u8 c)] 20) none) (grownBy_trans (grown_drew _) (bytesWorld_grown (w.alloc (Obj.cells #[Value.iface 5 (Value.int IntKind.u8 c)] 20)).drew 5 ⟨(hexText c).toArray⟩))
theorem fpWorld_cell (w : World) (c : Int) (j : Nat) (u : Value) (hj : (hexCells c)[j]? = some u) : (fpWorld w c).cell? ((⟨w.heap.size + 1, 0, none⟩ : Addr).add j) = some u := by
  unfold hexCells at hj
  have hjl : j < (hexText c).length := by
    rcases Nat.lt_or_ge j (hexText c).length with h | h
    · exact h
    · rw [List.getElem?_eq_none (by simpa using h)] at hj; cases hj
  have := Lib.bytesWorld_cell (w.alloc (Obj.cells #[Value.iface 5 (Value.int IntKind.u8 c)] 20)).drew 5 ⟨(hexText c).toArray⟩ j (by simpa [ByteArray.size] using hjl)
  have hs : (w.alloc (Obj.cells #[Value.iface 5 (Value.int IntKind.u8 c)] 20)).drew.heap.size = w.heap.size + 1 := by simp
  rw [hs] at this
  rw [Addr.add_lit, Nat.zero_add, fpWorld, this]
  rw [List.getElem?_map, List.getElem?_eq_getElem hjl] at hj
  simp at hj
  subst hj
  simp [List.getElem?_eq_getElem hjl]
theorem hexCells_one (c : Int) : ∀ u ∈ hexCells c, u.oneCell' = true := by
  intro u hu
  obtain ⟨_, _, rfl⟩ := List.mem_map.1 hu
  rfl
theorem fp_write (w : World) (B b : Nat) (bs : List Value) (c : Int) (cap : Nat) (h : Lib.IsBuilder 30 5 B b bs w) (hlen : bs.length + 4 ≤ 1000000) (hBw : B ≤ w.heap.size) :
    Calls Ybaf.prog 32 #[.pointer (some ⟨b, 0, none⟩), .slice (some ⟨w.heap.size + 1, 0, none⟩) (hexText c).length cap] (Lib.bytesWorld (w.alloc (Obj.cells #[Value.iface 5 (Value.int IntKind.u8 c)] 20)).drew 5 ⟨(hexText c).toArray⟩) fun e w' =>
      e = .returned (.tuple #[.int .i64 4, .nilIface]) ∧ Lib.BuilderAt 30 5 B b (.pointer (some ⟨b, 0, none⟩)) (bs ++ hexCells c) w' ∧ Below B w w' := by
  have hg := fpWorld_grown w c
  have hlt : b < w.heap.size := by rcases h with h | h <;> exact h.lt
  have hw := write_any B b bs ⟨w.heap.size + 1, 0, none⟩ 4 cap (hexCells c) (fpWorld w c) (isBuilder_grown h hg) rfl (fpWorld_cell w c) (by show w.heap.size + 1 ≠ b; omega) (hexCells_one c) hlen (by have := hg.size; omega)
  exact hw.mono fun e w' ⟨h1, h2, h3⟩ => ⟨h1, h2, (below_of_grown hg hBw).trans h3⟩

set_option maxHeartbeats 1000000 in
theorem fprintf_any (F : Stop.Interp) (w : World) (hF : F.told.answers w.tape) (B b : Nat) (bs : List Value) (c : Int) (hc : 0 ≤ c ∧ c ≤ 255)
    (h : Lib.IsBuilder 30 5 B b bs w) (hlen : bs.length + 4 ≤ 1000000) (hBw : B ≤ w.heap.size) :
    Calls Ybaf.prog 10 #[.iface 28 (.pointer (some ⟨b, 0, none⟩)), .string ⟨#[92, 120, 37, 48, 50, 120]⟩, .slice (some ⟨w.heap.size, 0, none⟩) 1 1] (w.alloc (.cells #[.iface 5 (.int .u8 c)] 20)) fun e w' =>
      e = .returned (.tuple #[.int .i64 4, .nilIface]) ∧ Lib.BuilderAt 30 5 B b (.pointer (some ⟨b, 0, none⟩)) (bs ++ hexCells c) w' ∧ Below B w w' := by
  have hF' : ∀ i name reading k range, w.tape i (.extern (word name reading k) range) = F.told name reading k := hF
  have ht := hex_told F c hc
  have h1 := call14
  have h2 := guardF
  have h3 := fmtP
  have h4 := fmtR
  have h5 := op5
  have hcv2 := fun w s => Lib.run_convert_string_bytes (P := Ybaf.prog) w 9 22 5 s Ybaf.underlying9 Ybaf.underlying22 Ybaf.underlying5
  have hm : ∀ w : World, (method 159 28 (.pointer (some ⟨b, 0, none⟩)) "Write").run Ybaf.prog w = .ok (32, .pointer (some ⟨b, 0, none⟩)) w := fun _ => by kernel_rfl
  have HB : Hid (Lib.IsBuilder 30 5 B b bs w) := h
  clear hF h
  go_enter Ybaf.func10, Ybaf.ntmps10
  go_wp2_with fail
  refine (fp_write w B b bs c _ HB.out hlen hBw).mono ?_
  rintro e w2 ⟨rfl, hB2, hb2⟩
  have HB2 : Hid (Lib.BuilderAt 30 5 B b (.pointer (some ⟨b, 0, none⟩)) (bs ++ hexCells c) w2) := hB2
  have HW : Hid (Below B w w2) := hb2
  clear hB2 hb2 HB
  go_wp2
  go_ret2
  exact ⟨rfl, HB2.out, HW.out⟩

theorem byteCells_plain (x : Int) (h : 0 ≤ x ∧ x ≤ 255) (hp : plainB x = true) : Lib.byteCells (escB x) = [.int .u8 x] := by
  simp [Lib.byteCells, escB, hp, byteOfInt_toNat x h]
theorem byteCells_hex (x : Int) (hp : plainB x = false) : Lib.byteCells (escB x) = hexCells x := by
  simp [Lib.byteCells, escB, hp, hexCells, hexText]
theorem esc_take (xs : List Int) (k : Nat) (h : k < xs.length) : esc (xs.take (k + 1)) = esc (xs.take k) ++ escB xs[k] := by
  rw [List.take_succ_eq_append_getElem h, esc_append]
  simp [esc]
theorem byteCells_append (a b : List UInt8) : Lib.byteCells (a ++ b) = Lib.byteCells a ++ Lib.byteCells b := by simp [Lib.byteCells]

theorem esc_step (xs : List Int) (k : Nat) (h : k < xs.length) : Lib.byteCells (esc (xs.take (k + 1))) = Lib.byteCells (esc (xs.take k)) ++ Lib.byteCells (escB xs[k]) := by
  rw [esc_take xs k h, byteCells_append]
theorem byteCells_len (xs : List Int) (n k : Nat) (hx : xs.length = n) (hn : n ≤ 1024) : (Lib.byteCells (esc (xs.take k))).length ≤ 4096 := by
  have h1 := esc_le (xs.take k)
  have h2 : (xs.take k).length ≤ xs.length := by simp; omega
  rw [Lib.byteCells_length]
  omega
theorem fresh_builder (w : World) : Lib.IsBuilder 30 5 w.heap.size w.heap.size (Lib.byteCells (esc ([] : List Int))) (w.alloc (Obj.cells #[Value.pointer none, Value.slice none 0 0] 30)) :=
  Lib.fresh_isBuilder 30 5 w
set_option maxHeartbeats 1000000 in
theorem escape_any : EscSaid := by
  intro F a n c xs w hF hx hn hbd hcell
  have HF : Hid (F.told.answers w.tape) := hF
  have HC : Hid (∀ j, j < n → ∃ b off, a = some ⟨b, off, none⟩ ∧ b < w.heap.size ∧ w.cell? ⟨b, off + j, none⟩ = some (.int .u8 (xs.getD j 0))) := hcell
  clear hF hcell
  go_enter Ybaf.func5, Ybaf.ntmps5
  go_wp2
  go_loopw [8] (fun i wr => ∃ k : Nat, k ≤ n ∧ i = .int .i64 k ∧ Hid (Lib.IsBuilder 30 5 w.heap.size w.heap.size (Lib.byteCells (esc (xs.take k))) wr) ∧ Hid (Below w.heap.size w wr)) (fun i _ => n - (intOf i).toNat)
  case atStart => exact ⟨0, Nat.zero_le _, rfl, fresh_builder w, (Below.refl _ w).alloc (Nat.le_refl _) _⟩
  case round =>
    obtain ⟨k, hk, rfl, HB, HW⟩ := hrel
    by_cases hlt : k < n
    · obtain ⟨b, off, rfl, hb, hc⟩ := HC.out k hlt
      rw [← HW.out.cell (p := ⟨b, off + k, none⟩) hb] at hc
      have hxk : xs.getD k 0 = xs[k] := by simp [List.getD, List.getElem?_eq_getElem (show k < xs.length by omega)]
      have hbx := hbd xs[k] (List.getElem_mem _)
      rw [hxk] at hc
      clear hxk
      have HS : Hid (Lib.byteCells (esc (xs.take (k + 1))) = Lib.byteCells (esc (xs.take k)) ++ Lib.byteCells (escB xs[k])) := esc_step xs k (by omega)
      have hle := byteCells_len xs n k hx hn
      have hBw : w.heap.size ≤ wr.heap.size := HW.out.size
      generalize xs[k] = x at *
      by_cases hp : plainB x = true
      · have hq := byteCells_plain x hbx hp
        rw [hq] at HS
        unfold plainB at hp
        simp only [Bool.and_eq_true, decide_eq_true_eq] at hp
        obtain ⟨⟨h1, h2⟩, h3⟩ := hp
        clear hq
        go_wp2_with (go_at_call 9; refine (writeByte_any _ _ _ x _ HB.out (by omega) hBw).mono ?_; rintro e w1 ⟨rfl, hB1, hb1⟩)
        go_roundw
        case rel => exact ⟨k + 1, by omega, by go_num, by rw [HS.out]; exact Or.inr hB1, HW.out.trans hb1⟩
        case measure => simp [intOf]; omega
      · have hq := byteCells_hex x (by simpa using hp)
        rw [hq] at HS
        have hor : x ≤ 32 ∨ (32 < x ∧ 127 ≤ x) ∨ (32 < x ∧ x < 127 ∧ (x != 92) = false) := by
          unfold plainB at hp
          simp at hp
          by_cases h1 : 32 < x
          · by_cases h2 : x < 127
            · exact Or.inr (Or.inr ⟨h1, h2, by simpa using hp h1 h2⟩)
            · exact Or.inr (Or.inl ⟨h1, by omega⟩)
          · exact Or.inl (by omega)
        clear hq hp
        have hFr : Hid (F.told.answers wr.tape) := by
          show F.told.answers wr.tape
          rw [HW.out.tape]; exact HF.out
        rcases hor with h1 | ⟨h1, h2⟩ | ⟨h1, h2, h3⟩
        all_goals
          go_wp2_with (go_at_call 10; refine (fprintf_any F wr hFr.out _ _ _ x hbx HB.out (by omega) hBw).mono ?_; rintro e w1 ⟨rfl, hB1, hb1⟩)
          go_roundw
          case rel => exact ⟨k + 1, by omega, by go_num, by rw [HS.out]; exact Or.inr hB1, HW.out.trans hb1⟩
          case measure => simp [intOf]; omega
    · have : k = n := by omega
      subst this
      rw [List.take_of_length_le (by omega)] at HB
      go_wp2_with (go_at_call 11; refine (Ybaf.Builder_String_any _ _ (esc xs) _ HB.out HW.out.size).mono ?_; rintro e w1 ⟨rfl, hb1⟩)
      go_ret
      exact ⟨rfl, HW.out.trans hb1⟩
end Go.Proofs.YbulkcdakFmt
