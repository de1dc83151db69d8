import Derived.Test.YbulkccziDoorBld1
import Derived.Test.YbulkccziDoorHuf
namespace Go.Proofs.YbulkccziDoor
open Go.RowKit
theorem infoU32 : (Ybad.prog.info? 51).map (fun i => (i.zero, i.size, i.bytes)) = some (some (.int .u32 0), 1, 4) := by kernel_rfl
def nilV : Value := .slice none 0 0
structure BP (LB C : Nat) (sv : Value) (fs ls : List Nat) (rest : List Value) (w : World) (k : Nat) (v : Value) (wr : World) : Prop where
  lb : wr.heap[LB]? = some (.cells #[v, sv, .slice none 0 0, .slice none 0 0, .slice none 0 0] 34 (0, 0))
  co : wr.heap[C]? = some (.cells (clA ls rest) 38 (0, 0))
  own : wr.ownsRow w.heap.size 51 1 v (lvUp fs k).length ((lvUp fs k).map (fun z => Value.int .u32 (z : Nat)))
  kp : Keep w.heap.size LB C w wr
  lt : LB < w.heap.size ∧ C < w.heap.size
theorem BP.ne {LB C : Nat} {sv : Value} {fs ls : List Nat} {rest : List Value} {w : World} {k : Nat} {v : Value} {wr : World} (h : BP LB C sv fs ls rest w k v wr) : LB ≠ C := by
  have h1 := h.lb; have h2 := h.co
  intro e; subst e; simp_all
theorem own_slice {w : World} {base : Nat} {e : TypeId} {v : Value} {n : Nat} {xs : List Value} (h : w.ownsRow base e 1 v n xs) : ∃ a c, v = .slice a n c ∧ n ≤ c := by
  rcases h.2 with ⟨rfl, rfl⟩ | ⟨g, cap, cu, rfl, _, _, hc, _⟩
  · exact ⟨none, 0, rfl, Nat.le_refl _⟩
  · exact ⟨_, _, rfl, hc⟩
/-- One leaf more. -/
theorem BP.app {LB C : Nat} {sv : Value} {fs ls : List Nat} {rest : List Value} {w : World} {k : Nat} {v : Value} {wr : World} (h : BP LB C sv fs ls rest w k v wr) (hf : 0 < fs.getD k 0) {v' : Value} {w1 : World}
    (ho : w1.ownsRow w.heap.size 51 1 v' ((lvUp fs k).length + 1) ((lvUp fs k).map (fun z => Value.int .u32 (z : Nat)) ++ [.int .u32 ((fs.getD k 0 * 512 + k : Nat) : Int)])) (hg : wr.grownBy w1 v.ownBlock) : BP LB C sv fs ls rest w (k + 1) v' (w1.setCell ⟨LB, 0, none⟩ v') := by
  have hlt := h.own.lt
  have hne : ∀ x, x < w.heap.size → some x ≠ v.ownBlock := fun x hx e => by have := hlt x e.symm; omega
  refine ⟨?_, ?_, ?_, (h.kp.grown hg h.kp.size (fun x hx => (hlt x hx).1)).setCell _ _ (Or.inr (Or.inl rfl)), h.lt⟩
  · rw [heap_setCell_same' _ _ _ (e := 34) (cur := #[v, sv, .slice none 0 0, .slice none 0 0, .slice none 0 0]) _ ?_]
    · simp
    · rw [hg.block LB (Nat.lt_of_lt_of_le h.lt.1 h.kp.size) (hne _ h.lt.1)]; exact h.lb
  · rw [Below.heap_setCell _ _ _ _ (by simpa using Ne.symm h.ne), hg.block C (Nat.lt_of_lt_of_le h.lt.2 h.kp.size) (hne _ h.lt.2)]; exact h.co
  · rw [lvUp_yes hf]
    have := ownsRow_setCell_below ho (a := ⟨LB, 0, none⟩) h.lt.1 v'
    simpa using this
theorem BP.alloc {LB C : Nat} {sv : Value} {fs ls : List Nat} {rest : List Value} {w : World} {k : Nat} {v : Value} {wr : World} (h : BP LB C sv fs ls rest w k v wr) (o : Obj) : BP LB C sv fs ls rest w k v (wr.alloc o) :=
  ⟨by rw [Below.heap_alloc _ _ _ (Nat.lt_of_lt_of_le h.lt.1 h.kp.size)]; exact h.lb, by rw [Below.heap_alloc _ _ _ (Nat.lt_of_lt_of_le h.lt.2 h.kp.size)]; exact h.co, h.own.alloc _, h.kp.grown (World.grownBy_alloc _ _ none) h.kp.size (by simp), h.lt⟩
theorem BP.after {LB C : Nat} {sv : Value} {fs ls : List Nat} {rest : List Value} {w : World} {k : Nat} {v : Value} {wr : World} (h : BP LB C sv fs ls rest w k v wr) {w1 : World} (hg : wr.grownBy w1 v.ownBlock) : ∃ u, w1.cell? ⟨LB, 0, none⟩ = some u ∧ w1.frozen? ⟨LB, 0, none⟩ = false := by
  have hlt := h.own.lt
  have h1 := hg.block LB (Nat.lt_of_lt_of_le h.lt.1 h.kp.size) (fun e => by have := hlt LB e.symm; have := h.lt.1; omega)
  rw [h.lb] at h1
  exact ⟨_, cellAt h1 0 _ rfl, frozenAt h1 0⟩
theorem BP.skip {LB C : Nat} {sv : Value} {fs ls : List Nat} {rest : List Value} {w : World} {k : Nat} {v : Value} {wr : World} (h : BP LB C sv fs ls rest w k v wr) (hf : ¬ 0 < fs.getD k 0) : BP LB C sv fs ls rest w (k + 1) v wr :=
  ⟨h.lb, h.co, by rw [lvUp_no hf]; exact h.own, h.kp, h.lt⟩
theorem BP.done {LB C : Nat} {sv : Value} {fs ls : List Nat} {rest : List Value} {w : World} {v : Value} {wr : World} (h : BP LB C sv fs ls rest w 19 v wr) (h2 : 2 ≤ (syUp fs 19).length) (m : Nat) :
    ∃ gl cl tl, v = .slice (some ⟨gl, 0, none⟩) (syUp fs 19).length cl ∧ w.heap.size ≤ gl ∧ (syUp fs 19).length ≤ cl ∧ cl ≤ maxLen ∧ HPre w.heap.size LB C gl (syUp fs 19).length cl m sv (lvUp fs 19) tl w ls rest wr := by
  have hl : (lvUp fs 19).length = (syUp fs 19).length := by simp [lvUp]
  rcases h.own.2 with ⟨_, h0⟩ | ⟨g, cap, cur, rfl, hb, hg, hc, hm, hs, ht⟩
  · omega
  · refine ⟨g, cap, cur.toList.drop (lvUp fs 19).length, by rw [hl], hb, by omega, hm, ⟨.slice none 0 0, .slice none 0 0, .slice none 0 0, ⟨?_, ?_, h.co, h.kp, h.kp.size, Or.inl rfl, Or.inl rfl, Or.inl rfl, Or.inl rfl⟩⟩⟩
    · rw [h.lb, lbA, hl]
    · rw [hg]
      congr 2
      apply Array.ext'
      rw [rowA]
      simp only [Nat.mul_one] at ht
      rw [← ht]
      simp
theorem setCells_heap (b : Nat) (e : TypeId) : ∀ (vs : List Value) (o : Nat) (w : World) (pre mid post : List Value), pre.length = o → mid.length = vs.length → w.heap[b]? = some (.cells (pre ++ mid ++ post).toArray e (0, 0)) → (w.setCells b o vs).heap[b]? = some (.cells (pre ++ vs ++ post).toArray e (0, 0))
  | [], o, w, pre, mid, post, _, hm, h => by
    have : mid = [] := List.eq_nil_of_length_eq_zero hm
    subst this
    exact h
  | v :: r, o, w, pre, m :: mr, post, ho, hm, h => by
    rw [World.setCells]
    have h1 := heap_setCell_same' w b o _ e v h
    have h2 : (pre ++ m :: mr ++ post).toArray.setIfInBounds o v = ((pre ++ [v]) ++ mr ++ post).toArray := by
      apply Array.ext'
      simp only [List.setIfInBounds_toArray]
      subst ho
      simp
    rw [h2] at h1
    have h3 := setCells_heap b e r (o + 1) _ (pre ++ [v]) mr post (by simp [ho]) (by simpa using hm) h1
    rw [h3]
    simp
theorem setCells_other (b : Nat) : ∀ (vs : List Value) (o : Nat) (w : World) (k : Nat), k ≠ b → (w.setCells b o vs).heap[k]? = w.heap[k]?
  | [], _, _, _, _ => rfl
  | v :: r, o, w, k, h => by rw [World.setCells, setCells_other b r _ _ k h, Below.heap_setCell _ _ _ _ (by simpa using h)]
theorem setCells_grown (b : Nat) : ∀ (vs : List Value) (o : Nat) (w : World), w.grownBy (w.setCells b o vs) (some b)
  | [], _, w => World.grownBy.refl _ _
  | v :: r, o, w => by
    have h := setCells_grown b r (o + 1) (w.setCell ⟨b, o, none⟩ v)
    rw [World.setCells]
    exact ⟨h.os, h.tape, h.output, by have := h.size; simpa [World.setCell] using this, fun k hk hr => by
      have hne : k ≠ b := fun e => hr (by rw [e])
      rw [setCells_other b r _ _ k hne, Below.heap_setCell _ _ _ _ (by simpa using hne)]⟩
theorem Rm.rowT {w w' : World} {B : Nat} {e T : TypeId} {m gl : Nat} {v : Value} (h : Rm w B e m v) {a : Array Value} (hl : w.heap[gl]? = some (.cells a T (0, 0))) (he : e ≠ T) (hg : w.grownBy w' (some gl)) : Rm w' B e m v := by
  rcases h with h | ⟨g, l, c, cur, h1, h2, h3, h4, h5, h6, h7⟩
  · exact Or.inl h
  · refine Or.inr ⟨g, l, c, cur, h1, h2, h3, h4, h5, ?_, h7⟩
    rw [hg.block g (Array.getElem?_eq_some_iff.1 h6).1 ?_]
    · exact h6
    · intro e'
      simp at e'
      subst e'
      rw [hl] at h6
      simp at h6
      exact he h6.2.symm
def zeroL : List Nat := List.replicate 19 0
theorem HPre.clear {B LB C gl n cl m : Nat} {sv : Value} {zs : List Nat} {tl : List Value} {w0 : World} {ls : List Nat} {rest : List Value} {w : World} (h : HPre B LB C gl n cl m sv zs tl w0 ls rest w) (hls : ls.length = 19) :
    HPre B LB C gl n cl m sv zs tl w0 zeroL rest (w.setCells C 0 (List.replicate 19 (.int .u8 0))) := by
  obtain ⟨vw, vp, vd, h⟩ := h
  have h1 := h.lb; have h2 := h.lv; have h3 := h.co
  have n1 : LB ≠ C := by intro e; subst e; simp_all
  have n2 : gl ≠ C := by intro e; subst e; simp_all
  have hg := setCells_grown C (List.replicate 19 (.int .u8 0)) 0 w
  refine ⟨vw, vp, vd, ⟨by rw [setCells_other _ _ _ _ _ n1]; exact h1, by rw [setCells_other _ _ _ _ _ n2]; exact h2, ?_,
    ⟨hg.os.trans h.kp.os, hg.tape.trans h.kp.tape, hg.output.trans h.kp.output, Nat.le_trans h.kp.size hg.size, fun k k1 k2 k3 => (setCells_other _ _ _ _ _ k3).trans (h.kp.block k k1 k2 k3)⟩, Nat.le_trans h.hB hg.size,
    h.rw.rowT h3 (by decide) hg, h.rp.rowT h3 (by decide) hg, h.rd.rowT h3 (by decide) hg, h.ne⟩⟩
  exact setCells_heap C 38 _ 0 w [] (ls.map (fun z => Value.int .u8 (z : Nat))) rest rfl (by simp [hls]) h3
def BuildTo (LB C : Nat) (fs : List Nat) (rest : List Value) (w w' : World) : Prop :=
  ∃ zs, LI fs zs 12 ∧ (∀ t, t < zs.length → dpt zs t ≤ 7) ∧ w'.heap[C]? = some (.cells (clA (setK zs (dpt zs) zeroL zs.length) rest) 38 (0, 0)) ∧ Keep w.heap.size LB C w w'
theorem LI.wide {fs zs : List Nat} {K : Nat} (h : LI fs zs K) (hK : K ≤ 12) : LI fs zs 12 :=
  ⟨h.sy, fun z hz => ⟨(h.cn z hz).1, Nat.le_trans (h.cn z hz).2 (Nat.pow_le_pow_right (by decide) hK)⟩⟩
def hvK (us : List Nat) (k : Nat) : List Nat := (us.take k).map hv ++ us.drop k
theorem hvK_zero (us : List Nat) : hvK us 0 = us := by simp [hvK]
theorem hvK_len (us : List Nat) (k : Nat) : (hvK us k).length = us.length := by simp [hvK]; omega
theorem hvK_at (us : List Nat) (k : Nat) (h : k < us.length) : (hvK us k)[k]'(by rw [hvK_len]; exact h) = us.getD k 0 := by
  unfold hvK
  rw [List.getElem_append_right (by simp; omega)]
  simp [List.getD, h, Nat.min_eq_left (Nat.le_of_lt h)]
theorem hvK_succ : ∀ (us : List Nat) (k : Nat), k < us.length → hvK us (k + 1) = (hvK us k).set k (hv (us.getD k 0))
  | [], k, h => by simp at h
  | x :: r, 0, _ => by simp [hvK]
  | x :: r, k + 1, h => by
    have := hvK_succ r k (by simpa using h)
    simp only [hvK, List.take_succ_cons, List.map_cons, List.drop_succ_cons, List.cons_append, List.set_cons_succ, List.getD_cons_succ] at this ⊢
    rw [this]
theorem hvK_all (us : List Nat) : hvK us us.length = us.map hv := by simp [hvK]
set_option maxRecDepth 8000 in
set_option maxHeartbeats 8000000 in
theorem build_any (LB C F cc TF : Nat) (sv : Value) (fs ls : List Nat) (rest : List Value) (w : World) (hls : ls.length = 19) (hlb : w.heap[LB]? = some (.cells #[.slice none 0 0, sv, .slice none 0 0, .slice none 0 0, .slice none 0 0] 34 (0, 0)))
    (hco : w.heap[C]? = some (.cells (clA ls rest) 38 (0, 0))) (hF : w.heap[F]? = some (.cells (fs.map (fun z => Value.int .i32 (z : Nat))).toArray TF (0, 0))) (hfl : fs.length = 19) (hTF : TF ≠ 34 ∧ TF ≠ 38) (hf : ∀ s, fs.getD s 0 ≤ 4096) (h2 : 2 ≤ (syUp fs 19).length) (hcc : 19 ≤ cc) :
    Calls Ybad.prog 12 #[.pointer (some ⟨LB, 0, none⟩), .slice (some ⟨F, 0, none⟩) 19 19, .slice (some ⟨C, 0, none⟩) 19 cc, .int .i64 7] w fun e w' => e = .returned (.tuple #[]) ∧ BuildTo LB C fs rest w w' := by
  have H0 : Hid (BP LB C sv fs ls rest w 0 (.slice none 0 0) w) := ⟨hlb, hco, World.ownsRow_nil _ _ _ _, Keep.refl _ _ _ _, (Array.getElem?_eq_some_iff.1 hlb).1, (Array.getElem?_eq_some_iff.1 hco).1⟩
  have HFW : Hid (∀ LBw, Keep w.heap.size LB C w LBw → ∀ t, t < 19 → LBw.cell? ⟨F, t, none⟩ = some (.int .i32 ((fs.getD t 0 : Nat) : Int))) := by
    intro LBw hk t ht
    have h1 : F ≠ LB := by intro e; subst e; rw [hF] at hlb; simp at hlb; exact hTF.1 hlb.2
    have h2 : F ≠ C := by intro e; subst e; rw [hF] at hco; simp at hco; exact hTF.2 hco.2
    have h3 := hk.block F (Array.getElem?_eq_some_iff.1 hF).1 h1 h2
    rw [hF] at h3
    refine cellAt h3 t _ ?_
    simp [List.getD, hfl, ht]
  have HFS : Hid (∀ s, fs.getD s 0 ≤ 4096) := hf
  have c0 : w.cell? ⟨LB, 0, none⟩ = some (.slice none 0 0) := by simp [World.cell?, hlb]
  have f0 : w.frozen? ⟨LB, 0, none⟩ = false := frozenAt hlb 0
  obtain ⟨iv, hiv, hz0, hz1, hz2⟩ := info_parts infoU32
  have HI : Hid (_ ∧ _ ∧ _ ∧ _) := ⟨hiv, hz0, hz1, hz2⟩
  have HSET : Hid (BP LB C sv fs ls rest w 0 (.slice none 0 0) (w.setCell ⟨LB, 0, none⟩ (.slice none 0 0))) := by
    have hne := H0.out.ne
    refine ⟨?_, ?_, World.ownsRow_nil _ _ _ _, (Keep.refl _ _ _ _).setCell _ _ (Or.inr (Or.inl rfl)), H0.out.lt⟩
    · rw [heap_setCell_same' _ _ _ _ _ _ hlb]; rfl
    · rw [Below.heap_setCell _ _ _ _ (by simpa using Ne.symm hne)]; exact hco
  clear hiv hz0 hz1 hz2 hlb hco hF hf H0
  go_enter Ybad.func12, Ybad.ntmps12
  go_wp2_with fail
  go_loopg [23] 19 (fun gk v23 wr => ∃ (k : Nat) (v : Value), v23 = .int .i64 k ∧ k + gk = 19 ∧ Hid (BP LB C sv fs ls rest w k v wr))
  case atStart => exact ⟨0, _, rfl, rfl, HSET.out⟩
  case round =>
    clear HSET c0 f0
    obtain ⟨k, v, rfl, hk, HB⟩ := hrel
    obtain ⟨va, vc, hva, hvc⟩ := own_slice HB.out.own
    subst hva
    have c0 : wr.cell? ⟨LB, 0, none⟩ = some (.slice va (lvUp fs k).length vc) := by simp [World.cell?, HB.out.lb]
    rcases Nat.lt_or_ge k 19 with hlt | hge
    · obtain ⟨f, hfe⟩ : ∃ f, f = fs.getD k 0 := ⟨_, rfl⟩
      have hc := HFW.out wr HB.out.kp k hlt
      rw [← hfe] at hc
      have hf4 : f ≤ 4096 := by rw [hfe]; exact HFS.out k
      have HF : Hid (f = fs.getD k 0) := hfe
      clear hfe
      rcases Nat.eq_zero_or_pos f with hf0 | hf0
      · subst hf0
        go_wp2_with fail
        go_roundg (gk - 1)
        case measure => omega
        case rel => exact ⟨k + 1, _, by go_num, by omega, HB.out.skip (by rw [← HF.out]; omega)⟩
      · have hf0' : (0 : Int) < (f : Int) := by omega
        have hor : bits .or .u32 ((f : Int) * 512) (k : Int) = ((f * 512 + k : Nat) : Int) := by have := or9 f k (by omega) (by omega); simpa using this
        have HLL : Hid ((lvUp fs k).length ≤ 19) := by show _ ≤ _; have := syUp_len fs k; simp only [lvUp, List.length_map]; omega
        go_wp2_with (first | (at_builtin; refine wpList_append_own _ rfl _ _ 30 rfl w.heap.size 51 iv (.int .u32 0) 1 4 Ybad.underlying30 HI.out.1 HI.out.2.1 HI.out.2.2.1 HI.out.2.2.2 rfl (by decide) _ _ _ rfl (HB.out.own.alloc _) ⟨_, 0, none⟩ 1 1 [.int .u32 ((f * 512 + k : Nat) : Int)] rfl rfl ?c1 ?c2 ?c3 ?c4 ?c5 ?_) | fail)
        case c1 =>
          intro j u hj
          match j, hj with
          | 0, hj => simp at hj; subst hj; simp [Addr.add]
        case c2 => intro u hu; simp at hu; subst hu; rfl
        case c3 => have := HLL.out; unfold maxLen; omega
        case c4 => have := HLL.out; omega
        case c5 => have := HB.out.kp.size; simp; omega
        intro v' w3 ho hgr _
        obtain ⟨va2, vc2, hva2, _⟩ := own_slice ho
        subst hva2
        have HB2 : Hid (BP LB C sv fs ls rest w (k + 1) _ (w3.setCell ⟨LB, 0, none⟩ (.slice va2 ((lvUp fs k).length + 1) vc2))) := (HB.out.alloc _).app (by rw [← HF.out]; exact hf0) (by rw [← HF.out]; exact ho) hgr
        obtain ⟨u3, hu3, huf3⟩ := (HB.out.alloc _).after hgr
        clear ho hgr HB
        go_wp2_with fail
        go_roundg (gk - 1)
        case measure => omega
        case rel => exact ⟨k + 1, _, by go_num, by omega, HB2.out⟩
    · have hk9 : k = 19 := by omega
      subst hk9
      obtain ⟨gl, cl, tl, hv, hgl, hncl, hclm, hpre⟩ := HB.out.done h2 (2 * (syUp fs 19).length - 1)
      clear hv c0 HB HI hvc
      generalize hN : (syUp fs 19).length = n at *
      have hn9 : n ≤ 19 := by rw [← hN]; exact syUp_len fs 19
      have HLI : Hid (LI fs (lvUp fs 19) 12) := LI.start HFS.out
      have HPR : Hid (HPre w.heap.size LB C gl n cl (2 * n - 1) sv (lvUp fs 19) tl w zeroL rest (wr.setCells C 0 (List.replicate 19 (.int .u8 0)))) := hpre.clear hls
      have HCL : ∀ ty, (Builtin.clear_ #[22] ty #[.slice (some ⟨C, 0, none⟩) 19 cc]).run Ybad.prog wr = .ok (.tuple #[]) (wr.setCells C 0 (List.replicate 19 (.int .u8 0))) := fun ty => by
        obtain ⟨_, _, _, hh⟩ := hpre
        have h3 := hh.co
        refine Lib.run_clear_slice wr 22 5 ty (.int .u8 0) Ybad.underlying22 (fun w => by simp [Ybad.zeroValue5]) rfl rfl C 0 19 cc (by omega) (fun j hj => ?_) (fun j hj => ?_)
        · rw [cellAt h3 (0 + j) _ (clA_at ls rest (0 + j) (by omega))]; rfl
        · exact frozenAt h3 _
      have HGL : Hid (w.heap.size ≤ gl) := hgl
      generalize hwz : wr.setCells C 0 (List.replicate 19 (.int .u8 0)) = w2 at HCL HPR
      have HSL : Hid (Calls Ybad.prog 15 _ _ _) := sl_any w.heap.size LB C gl n cl (2 * n - 1) sv (lvUp fs 19) tl w zeroL rest w2 HPR.out (by rw [HLI.out.len, hN]) hn9 hgl
      clear hpre hwz
      go_wp2_with fail
      refine HSL.out.mono ?_
      rintro e w4 ⟨rfl, us, hup, hpu⟩
      have HU : Hid (LI fs us 12) := HLI.out.perm hup
      have HPU : Hid (HPre w.heap.size LB C gl n cl (2 * n - 1) sv us tl w zeroL rest w4) := hpu
      clear hup hpu HSL HLI HCL HPR
      go_wp2_with fail
      go_loopg [] 12 (fun gk wr => ∃ (us : List Nat), gk ≤ 12 ∧ Hid (LI fs us gk) ∧ Hid (HPre w.heap.size LB C gl n cl (2 * n - 1) sv us tl w zeroL rest wr))
      case atStart => exact ⟨us, Nat.le_refl _, HU.out, HPU.out⟩
      case round =>
        clear HU HPU
        obtain ⟨us, hgk, HU, HPU⟩ := hrel
        have hlen : us.length = n := by rw [HU.out.len, hN]
        have HH : Hid (Calls Ybad.prog 16 _ _ _) := huf_any w.heap.size LB C gl n cl (2 * n - 1) cc sv us tl w zeroL rest wr hlen (by omega) hn9 (by simp [zeroL]) rfl (HU.out.bound hgk) ⟨hncl, hclm⟩ hcc HPU.out
        go_wp2_with fail
        refine HH.out.mono ?_
        rintro e w5 ⟨ok, rfl, hok, hpr5⟩
        have HOK : Hid (ok = true ↔ ∀ t, t < n → dpt us t ≤ 7) := hok
        have HP5 : Hid (HPre w.heap.size LB C gl n cl (2 * n - 1) sv us tl w (if ok then setK us (dpt us) zeroL n else zeroL) rest w5) := hpr5
        clear hok hpr5 HH
        cases ok with
        | true =>
          have HEND : Hid (BuildTo LB C fs rest w w5) := ⟨us, HU.out.wide hgk, fun t ht => HOK.out.1 rfl t (by omega), by obtain ⟨_, _, _, hh⟩ := HP5.out; rw [hlen]; exact hh.co, by obtain ⟨_, _, _, hh⟩ := HP5.out; exact hh.kp⟩
          go_wp2_with fail
          exact bodyPost_end (v := .tuple #[]) (by simp [results, Ybad.results12, go_sem]) rfl ⟨rfl, HEND.out⟩
        | false =>
          have hg0 : 0 < gk := by
            rcases Nat.eq_zero_or_pos gk with h0 | h0
            · subst h0
              have := HOK.out.2 (fun t ht => HU.out.fits (by omega) (by omega) t (by omega))
              cases this
            · exact h0
          obtain ⟨g1, hg1⟩ : ∃ g1, gk = g1 + 1 := ⟨gk - 1, by omega⟩
          have HU2 : Hid (LI fs (us.map hv) g1) := by have := HU.out; rw [hg1] at this; exact this.halve
          have hg12 : g1 ≤ 12 := by omega
          have HBD : Hid (∀ z ∈ us, z < 4000000 ∧ z % 512 < 19) := HU.out.bound hgk
          have HG1 : Hid (g1 < gk) := by show g1 < gk; omega
          clear hg1 HU hg0 hgk
          obtain ⟨_, q0, hne⟩ := HP5.out.lvs
          go_wp2_with fail
          go_loopg [59] n (fun g2 v59 wr => ∃ (k : Nat), v59 = .int .i64 k ∧ k + g2 = n ∧ Hid (HPre w.heap.size LB C gl n cl (2 * n - 1) sv (hvK us k) tl w zeroL rest wr))
          case atStart => exact ⟨0, rfl, by omega, by rw [hvK_zero]; exact HP5.out⟩
          case round =>
            clear HP5 q0
            obtain ⟨k, rfl, hk, HP6⟩ := hrel
            obtain ⟨hrow, q0, _⟩ := HP6.out.lvs
            rcases Nat.lt_or_ge k n with hlt | hge
            · obtain ⟨z, hz⟩ : ∃ z, z = us.getD k 0 := ⟨_, rfl⟩
              have hcz : wr.cell? ⟨gl, k, none⟩ = some (.int .u32 (z : Int)) := by
                have h1 : k < (hvK us k).length := by rw [hvK_len]; omega
                have h2 := cellAt hrow k _ (rowA_at (hvK us k) tl k h1)
                rw [hvK_at us k (by omega)] at h2
                rw [hz]; exact h2
              have hcf := frozenAt hrow k
              have hzb : z < 4000000 := by
                have h1 : k < us.length := by omega
                rw [hz, show us.getD k 0 = us[k] from by simp [List.getD, h1]]
                exact (HBD.out _ (List.getElem_mem h1)).1
              have HZ : Hid (z = us.getD k 0) := hz
              have HW : Hid (wr.heap[gl]? = some (.cells (rowA (hvK us k) tl) 51 (0, 0))) := hrow
              clear hz hrow
              obtain ⟨y, hy⟩ : ∃ y, y = hv z := ⟨_, rfl⟩
              have HY : Hid (y = hv z) := hy
              have HN : Hid (HPre w.heap.size LB C gl n cl (2 * n - 1) sv (hvK us (k + 1)) tl w zeroL rest (wr.setCell ⟨gl, k, none⟩ (.int .u32 (y : Int)))) := by
                refine HP6.out.row HGL.out ⟨rfl, rfl, rfl, by simp [World.setCell], fun x hx hr => Below.heap_setCell _ _ _ _ (fun e => hr (by rw [e]))⟩ ?_
                rw [heap_setCell_same' _ _ _ _ _ _ HW.out, rowA_set _ _ _ _ (by rw [hvK_len]; omega), hvK_succ us k (by omega), ← HZ.out, ← hy]
              have hand : bits .and .u32 (z : Int) 511 = ((z % 512 : Nat) : Int) := and511 z hzb
              rcases Nat.lt_or_ge (z / 512 / 2) 1 with hsm | hbg
              · have hsm' : (z : Int) / 512 / 2 = 0 := by omega
                have hor : bits .or .u32 512 ((z : Int) % 512) = (y : Int) := by
                  rw [show (z : Int) % 512 = ((z % 512 : Nat) : Int) from by omega]
                  have := or9 1 (z % 512) (by omega) (by omega)
                  rw [hy, hv, Nat.max_eq_right (by omega)]
                  simpa using this
                clear hy
                go_wp2_with fail
                go_roundg (gk - 1)
                case measure => omega
                case rel => exact ⟨k + 1, by go_num, by omega, HN.out⟩
              · obtain ⟨f, hfz⟩ : ∃ f, f = z / 512 / 2 := ⟨_, rfl⟩
                have hbg' : (z : Int) / 512 / 2 = (f : Int) := by omega
                have hf1 : 1 ≤ f := by omega
                have hf2 : f ≤ 4000 := by omega
                have hor : bits .or .u32 ((f : Int) * 512) ((z : Int) % 512) = (y : Int) := by
                  rw [show (z : Int) % 512 = ((z % 512 : Nat) : Int) from by omega]
                  have := or9 f (z % 512) (by omega) (by omega)
                  rw [hy, hv, Nat.max_eq_left (by omega), ← hfz]
                  simpa using this
                clear hy hfz hbg
                go_wp2_with fail
                go_roundg (gk - 1)
                case measure => omega
                case rel => exact ⟨k + 1, by go_num, by omega, HN.out⟩
            · have hkn : n = k := by omega
              subst hkn
              have e : hvK us n = us.map hv := by rw [← hlen]; exact hvK_all us
              rw [e] at HP6
              have HSS : Hid (Calls Ybad.prog 17 _ _ _) := sort_any gl n cl 0 (us.map hv) tl wr HP6.out.lvs.1 (by simpa using hlen) hn9 rfl
              clear e hrow HOK
              go_wp2_with fail
              refine HSS.out.mono ?_
              rintro e w7 ⟨rfl, us7, hp7⟩
              have HU7 : Hid (LI fs us7 g1) := HU2.out.perm hp7.perm
              have HP7 : Hid (HPre w.heap.size LB C gl n cl (2 * n - 1) sv us7 tl w zeroL rest w7) := HP6.out.sorted HGL.out hp7
              clear hp7 HSS HP6 HU2
              go_wp2_with fail
              go_roundg g1
              case measure => exact HG1.out
              case rel => exact ⟨us7, hg12, HU7.out, HP7.out⟩
end Go.Proofs.YbulkccziDoor
