import Derived.Test.YbulkccziDoorHuf3
import Derived.Test.YbulkccziDoorBp
namespace Go.Proofs.YbulkccziDoor
open Go.RowKit
def setK (zs : List Nat) (D : Nat → Nat) (ls : List Nat) : Nat → List Nat
  | 0 => ls
  | k + 1 => (setK zs D ls k).set (zs.getD k 0 % 512) (D k)
theorem setK_len (zs : List Nat) (D : Nat → Nat) (ls : List Nat) : ∀ k, (setK zs D ls k).length = ls.length
  | 0 => rfl
  | k + 1 => by rw [setK, List.length_set, setK_len zs D ls k]
def DW (n y p : Nat) (O : List Nat) (ad : Array Value) : Prop := ∀ t, y ≤ t → t ≤ p → ad[t]? = some (.int .i16 ((depN n O t : Nat) : Int))
theorem DW.root {n p : Nat} {O : List Nat} {ad : Array Value} (hp : 2 * n - 2 ≤ p) (hs : p < ad.size) : DW n p p O (ad.setIfInBounds p (.int .i16 0)) := by
  intro t h1 h2
  have : p = t := by omega
  subst this
  rw [Array.getElem?_setIfInBounds, if_pos rfl, if_pos hs, depN_root hp]
  rfl
theorem DW.down {n y p : Nat} {O : List Nat} {ad : Array Value} (h : DW n (y + 1) p O ad) (hs : y < ad.size) {z : Int} (hz : z = ((depN n O y : Nat) : Int)) : DW n y p O (ad.setIfInBounds y (.int .i16 z)) := by
  intro t h1 h2
  rw [Array.getElem?_setIfInBounds]
  by_cases e : y = t
  · subst e; rw [if_pos rfl, if_pos hs, hz]
  · rw [if_neg e]; exact h t (by omega) h2
theorem and511 (z : Nat) (h : z < 4000000) : bits .and .u32 (z : Int) 511 = ((z % 512 : Nat) : Int) := by
  have := u32_and_nat z 511 (by omega) (by omega)
  rw [show (511 : Nat) = 2 ^ 9 - 1 from rfl, Nat.and_two_pow_sub_one_eq_mod] at this
  exact this
theorem or9 (f s : Nat) (hf : f < 5000) (hs : s < 512) : bits .or .u32 ((f * 512 : Nat) : Int) (s : Int) = ((f * 512 + s : Nat) : Int) := by
  have := u32_or_nat (f * 512) s (by omega) (by omega)
  rw [this]
  congr 1
  have h2 := Nat.two_pow_add_eq_or_of_lt (i := 9) (b := s) (by omega) f
  rw [show f * 512 = 2 ^ 9 * f from by omega]
  omega
def HPre (B LB C gl n cl m : Nat) (sv : Value) (zs : List Nat) (tl : List Value) (w0 : World) (ls : List Nat) (rest : List Value) (w : World) : Prop := ∃ vw vp vd, HG B LB C gl n cl m sv zs tl w0 ls rest vw vp vd w
theorem HMem.pre {B LB C gl n cl m : Nat} {sv : Value} {zs : List Nat} {tl : List Value} {gw cw gp cp gd cd : Nat} {w0 : World} {ls : List Nat} {rest : List Value} {aw ap ad : Array Value} {w : World} (h : HMem B LB C gl n cl m sv zs tl gw cw gp cp gd cd w0 ls rest aw ap ad w) :
    HPre B LB C gl n cl m sv zs tl w0 ls rest w :=
  ⟨_, _, _, ⟨h.lb, h.lv, h.co, h.kp, by have := (Array.getElem?_eq_some_iff.1 h.hw).1; have := h.bw; omega, Or.inr ⟨gw, m, cw, aw, rfl, h.mw.1, h.mw.1, h.mw.2, h.bw, h.hw, h.sw⟩, Or.inr ⟨gp, m, cp, ap, rfl, h.mp.1, h.mp.1, h.mp.2, h.bp, h.hp, h.sp⟩,
    Or.inr ⟨gd, m, cd, ad, rfl, h.md.1, h.md.1, h.md.2, h.bd, h.hd, h.sd⟩, Or.inr (by simpa [Value.ownBlock] using h.ne)⟩⟩
/-- The depth of a leaf. -/
def dpt (zs : List Nat) (t : Nat) : Nat := depN zs.length (ordF (wsOf zs)) t
def HufTo (B LB C gl n cl m : Nat) (sv : Value) (zs : List Nat) (tl : List Value) (w0 : World) (ls : List Nat) (rest : List Value) (e : Ending) (w' : World) : Prop :=
  ∃ ok : Bool, e = .returned (.bool ok) ∧ (ok = true ↔ ∀ t, t < n → dpt zs t ≤ 7) ∧ HPre B LB C gl n cl m sv zs tl w0 (if ok then setK zs (dpt zs) ls n else ls) rest w'
end Go.Proofs.YbulkccziDoor
