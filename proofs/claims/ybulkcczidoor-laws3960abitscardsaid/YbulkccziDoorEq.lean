import Derived.Test.YbulkccziDoorAb
import Derived.Test.YbulkccziDoorTk
import Derived.Laws.StructEq
import Derived.Deep.QuietTactic
namespace Go.Proofs.YbulkccziDoor
open Go.RowKit
def Rd (w : World) (a : Option Addr) (l : List Nat) : Prop := ∀ t, t < l.length → ∃ g, a = some ⟨g, 0, none⟩ ∧ w.cell? ⟨g, t, none⟩ = some (.int .u8 ((l.getD t 0 : Nat) : Int))
theorem own_rd {w : World} {B : Nat} {v : Value} {l : List Nat} (h : w.ownsRow B 5 1 v l.length (bL l)) : ∃ a c, v = .slice a l.length c ∧ Rd w a l ∧ l.length ≤ c ∧ c ≤ maxLen := by
  rcases h.2 with ⟨rfl, h0⟩ | ⟨g, cap, cu, rfl, _, hg, hc, hm, hs, ht⟩
  · rw [h0]; exact ⟨none, 0, rfl, fun t ht => by omega, Nat.le_refl _, by unfold maxLen; omega⟩
  · refine ⟨_, _, rfl, fun t htl => ⟨g, rfl, ?_⟩, hc, hm⟩
    have := h.cellAt t (by omega)
    rw [this]
    simp [bL, List.getD, htl]
theorem Rd.drewN {w : World} {a : Option Addr} {l : List Nat} (h : Rd w a l) (q : Nat) : Rd (w.drewN q) a l := h
abbrev Tk := Nat × Nat
def tC (ts : List Tk) : List Value := ts.flatMap fun p => [Value.int .u8 (p.1 : Nat), Value.int .u8 (p.2 : Nat)]
theorem tC_len (ts : List Tk) : (tC ts).length = ts.length * 2 := by
  induction ts with
  | nil => rfl
  | cons p r ih => simp only [tC, List.flatMap_cons] at ih ⊢; simp [ih]; omega
theorem tC_app (a b : List Tk) : tC (a ++ b) = tC a ++ tC b := by simp [tC]
theorem tC_at : ∀ (ts : List Tk) (t : Nat), t < ts.length → (tC ts)[2 * t]? = some (.int .u8 ((ts.getD t (0, 0)).1 : Nat)) ∧ (tC ts)[2 * t + 1]? = some (.int .u8 ((ts.getD t (0, 0)).2 : Nat))
  | [], t, h => by simp at h
  | p :: r, 0, _ => by simp [tC]
  | p :: r, t + 1, h => by
    have := tC_at r t (by simpa using h)
    simp only [tC, List.flatMap_cons] at this ⊢
    rw [show 2 * (t + 1) = 2 * t + 1 + 1 from by omega]
    simpa using this
def RdT (w : World) (a : Option Addr) (ts : List Tk) : Prop := ∀ t, t < ts.length → ∃ g, a = some ⟨g, 0, none⟩ ∧ w.cell? ⟨g, 2 * t, none⟩ = some (.int .u8 ((ts.getD t (0, 0)).1 : Nat)) ∧ w.cell? ⟨g, 2 * t + 1, none⟩ = some (.int .u8 ((ts.getD t (0, 0)).2 : Nat))
theorem own_rdT {w : World} {B : Nat} {v : Value} {ts : List Tk} (h : w.ownsRow B 45 2 v ts.length (tC ts)) : ∃ a c, v = .slice a ts.length c ∧ RdT w a ts ∧ ts.length ≤ c ∧ c ≤ maxLen := by
  rcases h.2 with ⟨rfl, h0⟩ | ⟨g, cap, cu, rfl, _, hg, hc, hm, hs, ht⟩
  · rw [h0]; exact ⟨none, 0, rfl, fun t ht => by omega, Nat.le_refl _, by unfold maxLen; omega⟩
  · refine ⟨_, _, rfl, fun t htl => ⟨g, rfl, ?_, ?_⟩, hc, hm⟩
    · rw [h.cellAt (2 * t) (by omega)]; exact (tC_at ts t htl).1
    · rw [h.cellAt (2 * t + 1) (by omega)]; exact (tC_at ts t htl).2
def EqTo (w : World) (e : Ending) (w' : World) : Prop := ∃ q, e = .returned (.bool true) ∧ w' = w.drewN q
set_option maxHeartbeats 4000000 in
theorem eq8_any (a b : Option Addr) (c d : Nat) (l : List Nat) (w : World) (ha : Rd w a l) (hb : Rd w b l) (hl : l.length ≤ 100000) :
    Calls Ybad.prog 7 #[.slice a l.length c, .slice b l.length d] w fun e w' => EqTo w e w' := by
  have HA : Hid (Rd w a l) := ha
  have HB : Hid (Rd w b l) := hb
  clear ha hb
  obtain ⟨n, hn⟩ : ∃ n, n = l.length := ⟨_, rfl⟩
  rw [← hn] at hl ⊢
  have HN : Hid (n = l.length) := hn
  clear hn
  go_enter Ybad.func7, Ybad.ntmps7
  go_wp2_with fail
  go_loopg [13] n (fun gk v13 wr => ∃ (k q : Nat), v13 = .int .i64 k ∧ k + gk = n ∧ wr = w.drewN q)
  case atStart => exact ⟨0, 0, rfl, by omega, rfl⟩
  case round =>
    obtain ⟨k, q, rfl, hk, hwr⟩ := hrel
    rcases Nat.lt_or_ge k n with hlt | hge
    · obtain ⟨g1, rfl, h1⟩ := HA.out k (by have := HN.out; omega)
      obtain ⟨g2, rfl, h2⟩ := HB.out k (by have := HN.out; omega)
      obtain ⟨x, hx⟩ : ∃ x, x = l.getD k 0 := ⟨_, rfl⟩
      rw [← hx] at h1 h2
      have h3 : wr.cell? ⟨g1, k, none⟩ = some (.int .u8 (x : Int)) := by rw [hwr]; exact h1
      have h4 : wr.cell? ⟨g2, k, none⟩ = some (.int .u8 (x : Int)) := by rw [hwr]; exact h2
      clear hx h1 h2
      have HWR : Hid (wr = w.drewN q) := hwr
      clear hwr
      go_wp2_with fail
      go_quiet (first | fail)
      go_wp2_with fail
      go_roundg (gk - 1)
      case measure => omega
      case rel => exact ⟨k + 1, q + _, by go_num, by omega, by rw [HWR.out, World.drewN_drewN]⟩
    · have hkn : n = k := by omega
      subst hkn
      have HE : Hid (EqTo w (.returned (.bool true)) wr) := ⟨q, rfl, hwr⟩
      clear hwr
      go_wp2_with fail
      exact bodyPost_ret (v := .bool true) (by simp [results, Ybad.results7, go_sem]) rfl HE.out
set_option maxHeartbeats 4000000 in
theorem eqT_any (a b : Option Addr) (c d : Nat) (l : List Tk) (w : World) (ha : RdT w a l) (hb : RdT w b l) (hl : l.length ≤ 100000) :
    Calls Ybad.prog 8 #[.slice a l.length c, .slice b l.length d] w fun e w' => EqTo w e w' := by
  have HA : Hid (RdT w a l) := ha
  have HB : Hid (RdT w b l) := hb
  clear ha hb
  obtain ⟨n, hn⟩ : ∃ n, n = l.length := ⟨_, rfl⟩
  rw [← hn] at hl ⊢
  have HN : Hid (n = l.length) := hn
  clear hn
  go_enter Ybad.func8, Ybad.ntmps8
  go_wp2_with fail
  go_loopg [13] n (fun gk v13 wr => ∃ (k q : Nat), v13 = .int .i64 k ∧ k + gk = n ∧ wr = w.drewN q)
  case atStart => exact ⟨0, 0, rfl, by omega, rfl⟩
  case round =>
    obtain ⟨k, q, rfl, hk, hwr⟩ := hrel
    rcases Nat.lt_or_ge k n with hlt | hge
    · obtain ⟨g1, rfl, h1, h1'⟩ := HA.out k (by have := HN.out; omega)
      obtain ⟨g2, rfl, h2, h2'⟩ := HB.out k (by have := HN.out; omega)
      generalize l.getD k (0, 0) = x at h1 h2 h1' h2'
      obtain ⟨x, y⟩ := x
      have h3 : wr.cell? ⟨g1, 2 * k, none⟩ = some (.int .u8 (x : Int)) := by rw [hwr]; exact h1
      have h4 : wr.cell? ⟨g2, 2 * k, none⟩ = some (.int .u8 (x : Int)) := by rw [hwr]; exact h2
      have h5 : wr.cell? ⟨g1, 2 * k + 1, none⟩ = some (.int .u8 (y : Int)) := by rw [hwr]; exact h1'
      have h6 : wr.cell? ⟨g2, 2 * k + 1, none⟩ = some (.int .u8 (y : Int)) := by rw [hwr]; exact h2'
      have h3b : wr.cell? ⟨g1, k * 2, none⟩ = some (.int .u8 (x : Int)) := by rw [Nat.mul_comm]; exact h3
      have h4b : wr.cell? ⟨g2, k * 2, none⟩ = some (.int .u8 (x : Int)) := by rw [Nat.mul_comm]; exact h4
      have h5b : wr.cell? ⟨g1, k * 2 + 1, none⟩ = some (.int .u8 (y : Int)) := by rw [Nat.mul_comm]; exact h5
      have h6b : wr.cell? ⟨g2, k * 2 + 1, none⟩ = some (.int .u8 (y : Int)) := by rw [Nat.mul_comm]; exact h6
      clear h1 h2 h1' h2'
      have HWR : Hid (wr = w.drewN q) := hwr
      clear hwr
      go_wp2_with fail
      go_quiet (first | fail)
      go_wp2_with fail
      go_roundg (gk - 1)
      case measure => omega
      case rel => exact ⟨k + 1, q + _, by go_num, by omega, by rw [HWR.out, World.drewN_drewN]⟩
    · have hkn : n = k := by omega
      subst hkn
      have HE : Hid (EqTo w (.returned (.bool true)) wr) := ⟨q, rfl, hwr⟩
      clear hwr
      go_wp2_with fail
      exact bodyPost_ret (v := .bool true) (by simp [results, Ybad.results8, go_sem]) rfl HE.out
end Go.Proofs.YbulkccziDoor
