import Derived.Lib.Fields
import Derived.Lib.ParseIntB
namespace Go.Proofs.YbulkcdakDoor
open Go

/-! The plain mathematics: no Go program in sight. -/
def uOf (f : List UInt8) : Nat := match Lib.parseUintB 32 f with | .ok u => u | .range => 4294967295 | _ => 0
def good (f : List UInt8) : Bool := match Lib.parseUintB 32 f with | .ok _ => true | _ => false
def dig (c : UInt8) : Bool := decide (48 ≤ c.toNat) && decide (c.toNat ≤ 57)
def mstep (v : Nat) (c : UInt8) : Nat := if dig c = true then (if v ≤ 4294967295 then v * 10 + (c.toNat - 48) else v) else v
def mvF (acc : Nat) (l : List UInt8) : Nat := l.foldl mstep acc
def numF (acc : Nat) (l : List UInt8) : Nat := l.foldl (fun a c => a * 10 + (c.toNat - 48)) acc

theorem mvF_big (l : List UInt8) (acc : Nat) (h : 4294967295 < acc) : mvF acc l = acc := by
  induction l with
  | nil => rfl
  | cons c r ih =>
    have : mstep acc c = acc := by unfold mstep; split <;> simp; omega
    unfold mvF at ih ⊢
    rw [List.foldl_cons, this]
    exact ih

theorem parse_mv : ∀ (l : List UInt8) (acc : Nat), acc ≤ 4294967295 →
    (∀ u, Lib.parseUintM 4294967295 acc l = .ok u → l.all dig = true ∧ mvF acc l = u ∧ u ≤ 4294967295) ∧
    ((∀ u, Lib.parseUintM 4294967295 acc l ≠ .ok u) → l.all dig = true → 4294967295 < mvF acc l)
  | [], acc, h => by
    refine ⟨fun u hu => ?_, fun hn _ => ?_⟩
    · simp [Lib.parseUintM] at hu
      subst hu
      exact ⟨rfl, rfl, h⟩
    · exact absurd rfl (hn acc)
  | c :: r, acc, h => by
    by_cases hd : 48 ≤ c.toNat ∧ c.toNat ≤ 57
    · have hdig : dig c = true := by simp [dig, hd.1, hd.2]
      have hms : mstep acc c = acc * 10 + (c.toNat - 48) := by simp [mstep, hdig, h]
      have hmv : mvF acc (c :: r) = mvF (acc * 10 + (c.toNat - 48)) r := by
        unfold mvF; rw [List.foldl_cons, hms]
      have hall : (c :: r).all dig = r.all dig := by simp [hdig]
      rw [hmv, hall]
      by_cases hb : 4294967295 < acc * 10 + (c.toNat - 48)
      · have hp : Lib.parseUintM 4294967295 acc (c :: r) = .range := by
          simp only [Lib.parseUintM]
          rw [if_pos hd]
          rw [if_pos hb]
          split <;> rfl
        rw [hp]
        refine ⟨fun u hu => (by cases hu), fun _ _ => ?_⟩
        rw [mvF_big _ _ hb]
        exact hb
      · have hp : Lib.parseUintM 4294967295 acc (c :: r) = Lib.parseUintM 4294967295 (acc * 10 + (c.toNat - 48)) r := by
          simp only [Lib.parseUintM]
          rw [if_pos hd, if_neg (by omega), if_neg hb]
        rw [hp]
        exact parse_mv r _ (by omega)
    · have hdig : dig c = false := by
        unfold dig
        simp
        omega
      have hp : ∀ u, Lib.parseUintM 4294967295 acc (c :: r) ≠ .ok u := by
        intro u
        simp only [Lib.parseUintM]
        rw [if_neg hd]
        intro h
        cases h
      refine ⟨fun u hu => absurd hu (hp u), fun _ ha => ?_⟩
      simp [hdig] at ha

theorem parseB_eq (f : List UInt8) (hf : f ≠ []) : Lib.parseUintB 32 f = Lib.parseUintM 4294967295 0 f := by
  unfold Lib.parseUintB
  rw [if_neg hf]

/-- A field is good exactly when it is all digits and its capped value is below 1<<32; then that is the value. -/
theorem good_iff (f : List UInt8) (hf : f ≠ []) : good f = (f.all dig && decide (mvF 0 f ≤ 4294967295)) := by
  have h := parse_mv f 0 (by omega)
  unfold good
  rw [parseB_eq f hf]
  cases hp : Lib.parseUintM 4294967295 0 f with
  | ok u =>
    obtain ⟨h1, h2, h3⟩ := h.1 u hp
    simp [h1, h2, h3]
  | _ =>
    have h4 := h.2 (fun u hu => by rw [hp] at hu; cases hu)
    by_cases ha : f.all dig = true
    · have := h4 ha
      simp
      intro _
      omega
    · simp at ha
      simp
      intro hx
      obtain ⟨x, hx1, hx2⟩ := ha
      rw [hx x hx1] at hx2
      cases hx2
theorem uOf_good (f : List UInt8) (hf : f ≠ []) (hg : good f = true) : uOf f = mvF 0 f := by
  have h := parse_mv f 0 (by omega)
  unfold good at hg
  unfold uOf
  rw [parseB_eq f hf] at hg ⊢
  cases hp : Lib.parseUintM 4294967295 0 f with
  | ok u => exact (h.1 u hp).2.1.symm
  | _ => rw [hp] at hg; cases hg

theorem numF_ge : ∀ (l : List UInt8) (acc : Nat), acc ≤ numF acc l
  | [], _ => Nat.le_refl _
  | c :: r, acc => by
    have := numF_ge r (acc * 10 + (c.toNat - 48))
    unfold numF at this ⊢
    rw [List.foldl_cons]
    omega
theorem mv_num : ∀ (l : List UInt8) (acc : Nat), acc ≤ 4294967295 → l.all dig = true → (numF acc l ≤ 4294967295 → mvF acc l = numF acc l) ∧ (4294967295 < numF acc l → 4294967295 < mvF acc l)
  | [], acc, h, _ => ⟨fun _ => rfl, fun h' => h'⟩
  | c :: r, acc, h, ha => by
    simp only [List.all_cons, Bool.and_eq_true] at ha
    have hms : mstep acc c = acc * 10 + (c.toNat - 48) := by simp [mstep, ha.1, h]
    have e1 : mvF acc (c :: r) = mvF (acc * 10 + (c.toNat - 48)) r := by unfold mvF; rw [List.foldl_cons, hms]
    have e2 : numF acc (c :: r) = numF (acc * 10 + (c.toNat - 48)) r := rfl
    rw [e1, e2]
    by_cases hb : 4294967295 < acc * 10 + (c.toNat - 48)
    · have := numF_ge r (acc * 10 + (c.toNat - 48))
      rw [mvF_big _ _ hb]
      exact ⟨fun h' => by omega, fun _ => hb⟩
    · exact mv_num r _ (by omega) ha.2
theorem good_num (f : List UInt8) (hf : f ≠ []) (ha : f.all dig = true) (hn : numF 0 f ≤ 4294967295) : good f = true ∧ uOf f = numF 0 f := by
  have h := (mv_num f 0 (by omega) ha).1 hn
  have hg : good f = true := by rw [good_iff f hf, ha, h]; simp [hn]
  exact ⟨hg, by rw [uOf_good f hf hg, h]⟩
theorem bad_num (f : List UInt8) (hf : f ≠ []) (ha : f.all dig = true) (hn : 4294967295 < numF 0 f) : good f = false := by
  have h := (mv_num f 0 (by omega) ha).2 hn
  rw [good_iff f hf, ha]
  simp
  omega

/-! decimal text -/
def dchar (v : Nat) : UInt8 := UInt8.ofNat (48 + v % 10)
def decGo : Nat → Nat → List UInt8
  | 0, _ => []
  | fuel + 1, v => if v = 0 then [] else decGo fuel (v / 10) ++ [dchar v]
def decL (v : Nat) : List UInt8 := if v = 0 then [48] else decGo 20 v
theorem dchar_toNat (v : Nat) : (dchar v).toNat = 48 + v % 10 := by
  unfold dchar
  rw [UInt8.toNat_ofNat']
  omega
theorem dchar_dig (v : Nat) : dig (dchar v) = true := by
  unfold dig
  rw [dchar_toNat]
  simp
  omega
theorem decGo_dig : ∀ (fuel v : Nat), (decGo fuel v).all dig = true
  | 0, _ => rfl
  | fuel + 1, v => by
    unfold decGo
    split
    · rfl
    · rw [List.all_append, decGo_dig fuel (v / 10)]
      simp [dchar_dig]
theorem numF_append (a b : List UInt8) (acc : Nat) : numF acc (a ++ b) = numF (numF acc a) b := by simp [numF]
theorem decGo_num : ∀ (fuel v : Nat), v < 10 ^ fuel → numF 0 (decGo fuel v) = v
  | 0, v, h => by simp at h; subst h; rfl
  | fuel + 1, v, h => by
    unfold decGo
    split
    · rename_i h0; subst h0; rfl
    · rw [numF_append, decGo_num fuel (v / 10) (by rw [Nat.pow_succ] at h; omega)]
      unfold numF
      simp [dchar_toNat]
      omega
theorem decL_dig (v : Nat) : (decL v).all dig = true := by
  unfold decL
  split
  · rfl
  · exact decGo_dig 20 v
theorem decL_num (v : Nat) (h : v < 18446744073709551616) : numF 0 (decL v) = v := by
  unfold decL
  split
  · rename_i h0; subst h0; rfl
  · exact decGo_num 20 v (by omega)
theorem decL_ne (v : Nat) : decL v ≠ [] := by
  unfold decL
  split
  · simp
  · rename_i h0
    unfold decGo
    simp [h0]
theorem decGo_len : ∀ (fuel v : Nat), (decGo fuel v).length ≤ fuel
  | 0, _ => by simp [decGo]
  | fuel + 1, v => by
    unfold decGo
    split
    · simp
    · have := decGo_len fuel (v / 10)
      simp
      omega
theorem decL_len (v : Nat) : (decL v).length ≤ 20 := by
  unfold decL
  split
  · simp
  · exact decGo_len 20 v
/-- leading zeros change nothing -/
theorem zeros_num (z l : List UInt8) (hz : ∀ c ∈ z, c = 48) : numF 0 (z ++ l) = numF 0 l := by
  induction z with
  | nil => rfl
  | cons c z ih =>
    have hc : c = 48 := hz c (by simp)
    subst hc
    have := ih (fun c hc => hz c (by simp [hc]))
    rw [List.cons_append]
    show numF (0 * 10 + ((48 : UInt8).toNat - 48)) (z ++ l) = _
    exact this

/-! fields -/
theorem isSp_fin : ∀ n : Fin 256, Lib.isSp (UInt8.ofNat n.val) = (decide (n.val = 32) || (decide (9 ≤ n.val) && decide (n.val ≤ 13))) := by decide +kernel
theorem isSp_nat (c : UInt8) : Lib.isSp c = (decide (c.toNat = 32) || (decide (9 ≤ c.toNat) && decide (c.toNat ≤ 13))) := by
  have h := isSp_fin ⟨c.toNat, UInt8.toNat_lt c⟩
  simpa using h
theorem dig_notSp (c : UInt8) (h : dig c = true) : Lib.isSp c = false := by
  unfold dig at h
  simp at h
  rw [isSp_nat]
  simp
  omega
theorem fieldsGo_take : ∀ (f cur rest : List UInt8), (∀ c ∈ f, Lib.isSp c = false) → Lib.fieldsGo cur (f ++ rest) = Lib.fieldsGo (cur ++ f) rest
  | [], cur, rest, _ => by simp
  | c :: f, cur, rest, h => by
    rw [List.cons_append, Lib.fieldsGo]
    rw [h c (by simp)]
    simp only [Bool.false_eq_true, if_false]
    rw [fieldsGo_take f (cur ++ [c]) rest (fun x hx => h x (by simp [hx]))]
    simp
theorem fieldsGo_sp : ∀ (sp rest : List UInt8), (∀ c ∈ sp, Lib.isSp c = true) → Lib.fieldsGo [] (sp ++ rest) = Lib.fieldsGo [] rest
  | [], _, _ => rfl
  | c :: sp, rest, h => by
    rw [List.cons_append, Lib.fieldsGo]
    rw [h c (by simp)]
    simp only [if_true, List.isEmpty_nil]
    exact fieldsGo_sp sp rest (fun x hx => h x (by simp [hx]))
theorem fieldsGo_cut (cur sp rest : List UInt8) (hc : cur ≠ []) (hs : sp ≠ []) (h : ∀ c ∈ sp, Lib.isSp c = true) : Lib.fieldsGo cur (sp ++ rest) = cur :: Lib.fieldsGo [] rest := by
  cases sp with
  | nil => exact absurd rfl hs
  | cons c sp =>
    rw [List.cons_append, Lib.fieldsGo]
    rw [h c (by simp)]
    have he : cur.isEmpty = false := by cases cur <;> simp_all
    simp only [if_true, he, Bool.false_eq_true, if_false]
    rw [fieldsGo_sp sp rest (fun x hx => h x (by simp [hx]))]
theorem fieldsGo_end (cur sp : List UInt8) (hc : cur ≠ []) (h : ∀ c ∈ sp, Lib.isSp c = true) : Lib.fieldsGo cur sp = [cur] := by
  cases sp with
  | nil =>
    have he : cur.isEmpty = false := by cases cur <;> simp_all
    simp [Lib.fieldsGo, he]
  | cons c sp =>
    have := fieldsGo_cut cur (c :: sp) [] hc (by simp) h
    simpa [Lib.fieldsGo] using this
theorem fieldsGo_next (cur rest : List UInt8) (hc : cur ≠ []) (h : rest = [] ∨ ∃ c r, rest = c :: r ∧ Lib.isSp c = true) : Lib.fieldsGo cur rest = cur :: Lib.fieldsGo [] rest := by
  have he : cur.isEmpty = false := by cases cur <;> simp_all
  rcases h with rfl | ⟨c, r, rfl, hs⟩
  · simp [Lib.fieldsGo, he]
  · rw [Lib.fieldsGo, hs]
    simp only [if_true, he, Bool.false_eq_true, if_false]
    conv => rhs; rw [Lib.fieldsGo, hs]
    simp
/-- three texts without space, set apart by space, space before and behind -/
theorem fields_three (s0 f0 s1 f1 s2 f2 s3 : List UInt8) (h0 : ∀ c ∈ s0, Lib.isSp c = true) (h1 : ∀ c ∈ s1, Lib.isSp c = true) (h2 : ∀ c ∈ s2, Lib.isSp c = true) (h3 : ∀ c ∈ s3, Lib.isSp c = true)
    (n1 : s1 ≠ []) (n2 : s2 ≠ []) (g0 : ∀ c ∈ f0, Lib.isSp c = false) (g1 : ∀ c ∈ f1, Lib.isSp c = false) (g2 : ∀ c ∈ f2, Lib.isSp c = false) (m0 : f0 ≠ []) (m1 : f1 ≠ []) (m2 : f2 ≠ []) :
    Lib.fields (s0 ++ (f0 ++ (s1 ++ (f1 ++ (s2 ++ (f2 ++ s3)))))) = [f0, f1, f2] := by
  unfold Lib.fields
  rw [fieldsGo_sp s0 _ h0, fieldsGo_take f0 [] _ g0, List.nil_append, fieldsGo_cut f0 s1 _ m0 n1 h1, fieldsGo_take f1 [] _ g1, List.nil_append, fieldsGo_cut f1 s2 _ m1 n2 h2, fieldsGo_take f2 [] _ g2, List.nil_append, fieldsGo_end f2 s3 m2 h3]
end Go.Proofs.YbulkcdakDoor
