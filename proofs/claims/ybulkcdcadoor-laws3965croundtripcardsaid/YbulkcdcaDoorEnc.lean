import Derived.Test.YbulkcdcaDoorView
import Derived.Lib.AppendStr
namespace Go.Proofs.YbulkcdcaDoor
open Go.RowKit
theorem infoB : (Ybad.prog.info? 5).map (fun i => (i.zero, i.size, i.bytes)) = some (some (.int .u8 0), 1, 1) := by kernel_rfl
/-- The body so far: the call's own, its bytes bs. -/
def Body (B : Nat) (w : World) (v : Value) (bs : List UInt8) : Prop := w.ownsRow B 5 1 v bs.length (Lib.byteCells bs) ∧ B ≤ w.heap.size
def BodyTo (B : Nat) (w : World) (bs : List UInt8) (e : Ending) (w' : World) : Prop := ∃ v', e = .returned v' ∧ Body B w' v' bs ∧ Below B w w'
theorem byteCells_app (a b : List UInt8) : Lib.byteCells (a ++ b) = Lib.byteCells a ++ Lib.byteCells b := by simp [Lib.byteCells]
theorem aU_any (B : Nat) (x : Nat) (bs : List UInt8) (v : Value) (w : World) (hx : x < 18446744073709551616) (hb : Body B w v bs) (hl : bs.length + 10 ≤ 140737488355328) :
    Calls Ybad.prog 5 #[v, .int .u64 x] w fun e w' => BodyTo B w (bs ++ Lib.uvarint x) e w' := by
  refine (Any.binary_AppendUvarint Ybad.laysBin47 B bs.length x hx v _ w hb.1 hb.2 hl).mono ?_
  rintro e w' ⟨v', rfl, h1, h2⟩
  refine ⟨v', rfl, ⟨?_, Nat.le_trans hb.2 h2.size⟩, h2⟩
  rw [byteCells_app, List.length_append]
  exact h1
def cutL (l : List UInt8) : List UInt8 := l.take 255
theorem cutL_le (l : List UInt8) : (cutL l).length ≤ 255 := by simp [cutL]; omega
theorem ba_size (l : List UInt8) : (⟨l.toArray⟩ : ByteArray).size = l.length := by simp [ByteArray.size]
set_option maxHeartbeats 1000000 in
theorem cut_any (l : List UInt8) (w : World) (hl : l.length ≤ 9223372036854775807) : Calls Ybad.prog 7 #[.string ⟨l.toArray⟩] w fun e w' => e = .returned (.string ⟨(cutL l).toArray⟩) ∧ w' = w := by
  have hsz := ba_size l
  by_cases h : 255 < l.length
  · have h1 : (255 : Int) < (l.length : Int) := by omega
    have he : (⟨l.toArray⟩ : ByteArray).extract 0 255 = ⟨(cutL l).toArray⟩ := by
      apply ByteArray.ext
      rw [ByteArray.data_extract]
      simp [cutL]
    go_enter Ybad.func7, Ybad.ntmps7
    go_wp2
    go_ret
    exact ⟨rfl, rfl⟩
  · have he : cutL l = l := by unfold cutL; exact List.take_of_length_le (by omega)
    rw [he]
    have h1 : (l.length : Int) ≤ 255 := by omega
    clear he
    go_enter Ybad.func7, Ybad.ntmps7
    go_wp2
    go_ret
    exact ⟨rfl, rfl⟩
set_option maxHeartbeats 1000000 in
theorem put_any (B : Nat) (l : List UInt8) (bs : List UInt8) (v : Value) (w : World) (hl : l.length ≤ 255) (hb : Body B w v bs) (hlim : bs.length + 1000 ≤ 140737488355328) :
    Calls Ybad.prog 6 #[v, .string ⟨l.toArray⟩] w fun e w' => BodyTo B w (bs ++ putL l) e w' := by
  have hsz := ba_size l
  have HU : Hid (Calls Ybad.prog 5 #[v, .int .u64 (l.length : Nat)] w fun e w' => BodyTo B w (bs ++ Lib.uvarint l.length) e w') := aU_any B l.length bs v w (by omega) hb (by omega)
  have hul := Lib.uvarint_length64 (x := l.length) (by omega)
  clear hb
  go_enter Ybad.func6, Ybad.ntmps6
  go_wp2_with fail
  refine HU.out.mono ?_
  rintro e w1 ⟨v1, rfl, HB, HG⟩
  have HB1 : Hid (Body B w1 v1 (bs ++ Lib.uvarint l.length)) := HB
  have HG1 : Hid (Below B w w1) := HG
  obtain ⟨iv, hiv, hz0, hz1, hz2⟩ := info_parts infoB
  have HI : Hid (_ ∧ _ ∧ _ ∧ _) := ⟨hiv, hz0, hz1, hz2⟩
  clear hiv hz0 hz1 hz2 HB HG HU
  go_wp2_with (first | (at_builtin; refine Lib.wpList_append_own_string _ rfl _ _ 24 9 rfl B 5 iv Ybad.underlying24 Ybad.underlying9 HI.out.1 HI.out.2.1 HI.out.2.2.1 HI.out.2.2.2 _ _ _ rfl HB1.out.1 ⟨l.toArray⟩ rfl ?c1 ?c2 ?c3 ?_) | go_in)
  case c1 => unfold maxLen; rw [List.length_append]; omega
  case c2 => rw [List.length_append]; omega
  case c3 => exact HB1.out.2
  intro v2 w2 ho hgr _
  have HB2 : Hid (BodyTo B w (bs ++ putL l) (.returned v2) w2) := by
    have hlt := HB1.out.1.lt
    refine ⟨v2, rfl, ⟨?_, Nat.le_trans HB1.out.2 hgr.size⟩, HG1.out.grown hgr HB1.out.2 (fun k hk => (hlt k hk).1)⟩
    have e : Lib.byteCells (bs ++ putL l) = Lib.byteCells (bs ++ Lib.uvarint l.length) ++ Lib.strCells ⟨l.toArray⟩ := by
      simp [Lib.byteCells, Lib.strCells, putL]
    have e2 : (bs ++ putL l).length = bs.length + (Lib.uvarint l.length).length + l.length := by
      simp [putL]; omega
    rw [e, e2]
    exact ho
  clear ho hgr
  go_wp2
  go_ret
  exact HB2.out
end Go.Proofs.YbulkcdcaDoor
