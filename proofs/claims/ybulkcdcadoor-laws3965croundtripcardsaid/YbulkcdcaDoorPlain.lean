import Derived.Lib.Varint
import Derived.Lib.VarintDec
import Derived.Lib.VarintMem
namespace Go.Proofs.YbulkcdcaDoor
open Go

/-! What is written is what is read: no Go program in sight. -/
theorem from_uvarint (rest : List UInt8) : ∀ (m i x acc : Nat), i + m = 9 → x * 2 ^ (7 * i) < 18446744073709551616 →
    Lib.uvarintFrom i acc (Lib.uvarint x ++ rest) = (acc + x * 2 ^ (7 * i), (i : Int) + (Lib.uvarint x).length) := by
  intro m
  induction m with
  | zero =>
    intro i x acc hi hx
    obtain rfl : i = 9 := by omega
    have e : (2 : Nat) ^ (7 * 9) = 9223372036854775808 := by decide
    rw [e] at hx ⊢
    have hx2 : x < 2 := by omega
    rw [Lib.uvarint_small (by omega)]
    have hn : (x.toUInt8).toNat = x := Lib.toUInt8_toNat (by omega)
    simp only [List.cons_append, List.nil_append, Lib.uvarintFrom, hn]
    rw [if_neg (by omega), if_pos (by omega), if_neg (by omega)]
    rfl
  | succ m ih =>
    intro i x acc hi hx
    by_cases hs : x < 128
    · rw [Lib.uvarint_small hs]
      have hn : (x.toUInt8).toNat = x := Lib.toUInt8_toNat (by omega)
      simp only [List.cons_append, List.nil_append, Lib.uvarintFrom, hn]
      rw [if_neg (by omega), if_pos hs, if_neg (by omega)]
      rfl
    · rw [Lib.uvarint_big (by omega)]
      have hn : ((x % 128 + 128).toUInt8).toNat = x % 128 + 128 := Lib.toUInt8_toNat (by omega)
      simp only [List.cons_append, Lib.uvarintFrom, hn]
      rw [if_neg (by omega), if_neg (by omega)]
      have hp : (2 : Nat) ^ (7 * (i + 1)) = 128 * 2 ^ (7 * i) := by
        rw [show 7 * (i + 1) = 7 + 7 * i by omega, Nat.pow_add]
      have hd : 128 * (x / 128) + x % 128 = x := Nat.div_add_mod x 128
      have hmul : x * 2 ^ (7 * i) = (x / 128) * (128 * 2 ^ (7 * i)) + x % 128 * 2 ^ (7 * i) := by
        conv => lhs; rw [← hd, Nat.add_mul]
        rw [Nat.mul_comm 128 (x / 128), Nat.mul_assoc]
      rw [ih (i + 1) (x / 128) _ (by omega) (by rw [hp]; omega)]
      rw [hp]
      simp only [Prod.mk.injEq, List.length_cons]
      refine ⟨?_, ?_⟩
      · rw [show (x % 128 + 128) % 128 = x % 128 by omega]
        omega
      · omega
theorem dec_uvarint (x : Nat) (hx : x < 18446744073709551616) (rest : List UInt8) : Lib.uvarintDec (Lib.uvarint x ++ rest) = (x, ((Lib.uvarint x).length : Int)) := by
  have := from_uvarint rest 9 0 x 0 (by omega) (by simpa using hx)
  unfold Lib.uvarintDec
  rw [this]
  simp
def putL (s : List UInt8) : List UInt8 := Lib.uvarint s.length ++ s
def memL (p : List UInt8 × Nat) : List UInt8 := putL p.1 ++ Lib.uvarint p.2
def memsL (ps : List (List UInt8 × Nat)) : List UInt8 := (ps.map memL).flatten
def strsL (ss : List (List UInt8)) : List UInt8 := (ss.map putL).flatten
theorem putL_pos (s : List UInt8) : 1 ≤ (putL s).length := by
  have := Lib.uvarint_pos s.length
  simp [putL]; omega
theorem memL_pos (p : List UInt8 × Nat) : 2 ≤ (memL p).length := by
  have := putL_pos p.1
  have := Lib.uvarint_pos p.2
  simp [memL]; omega
theorem memsL_len : ∀ ps : List (List UInt8 × Nat), 2 * ps.length ≤ (memsL ps).length
  | [] => by simp [memsL]
  | p :: ps => by
    have h1 := memsL_len ps
    have h2 := memL_pos p
    have e : memsL (p :: ps) = memL p ++ memsL ps := by simp [memsL]
    rw [e, List.length_append, List.length_cons]
    omega
theorem strsL_len : ∀ ss : List (List UInt8), ss.length ≤ (strsL ss).length
  | [] => by simp [strsL]
  | p :: ps => by
    have h1 := strsL_len ps
    have h2 := putL_pos p
    have e : strsL (p :: ps) = putL p ++ strsL ps := by simp [strsL]
    rw [e, List.length_append, List.length_cons]
    omega
theorem putL_le (s : List UInt8) (h : s.length ≤ 255) : (putL s).length ≤ 265 := by
  have := Lib.uvarint_length64 (x := s.length) (by omega)
  simp [putL]; omega
theorem memL_le (p : List UInt8 × Nat) (h : p.1.length ≤ 255) (h2 : p.2 < 18446744073709551616) : (memL p).length ≤ 275 := by
  have := putL_le p.1 h
  have := Lib.uvarint_length64 h2
  simp [memL]; omega
end Go.Proofs.YbulkcdcaDoor
