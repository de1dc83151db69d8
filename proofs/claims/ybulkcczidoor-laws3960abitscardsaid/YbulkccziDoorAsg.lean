import Derived.Test.YbulkccziDoorBld
import Derived.Test.YbulkccziDoorRev
import Derived.Deep.RegionWith
namespace Go.Proofs.YbulkccziDoor
open Go.RowKit
def U16 (a : Array Value) : Prop := a.size = 16 ∧ ∀ i, i < 16 → ∃ z : Nat, z < 65536 ∧ a[i]? = some (.int .u16 (z : Int))
theorem U16.set {a : Array Value} (h : U16 a) (i z : Nat) (hz : z < 65536) : U16 (a.setIfInBounds i (.int .u16 (z : Int))) := by
  refine ⟨by simpa using h.1, fun j hj => ?_⟩
  rw [Array.getElem?_setIfInBounds]
  by_cases e : i = j
  · subst e; rw [if_pos rfl, if_pos (by rw [h.1]; exact hj)]; exact ⟨z, hz, rfl⟩
  · rw [if_neg e]; exact h.2 j hj
structure AM (w : World) (C : Nat) (aC ca : Array Value) (wr : World) : Prop where
  co : wr.heap[C]? = some (.cells aC 38 (0, 0))
  cn : wr.heap[w.heap.size]? = some (.cells ca 61 (0, 0))
  u : U16 ca
  gr : w.grownBy wr (some C)
  ne : C ≠ w.heap.size
theorem AM.setn {w : World} {C : Nat} {aC ca : Array Value} {wr : World} (h : AM w C aC ca wr) (i z : Nat) (hz : z < 65536) : AM w C aC (ca.setIfInBounds i (.int .u16 (z : Int))) (wr.setCell ⟨w.heap.size, i, none⟩ (.int .u16 (z : Int))) :=
  ⟨by rw [Below.heap_setCell _ _ _ _ (by simpa using h.ne)]; exact h.co, heap_setCell_same' _ _ _ _ _ _ h.cn, h.u.set i z hz,
    ⟨h.gr.os, h.gr.tape, h.gr.output, by simpa [World.setCell] using h.gr.size, fun k hk hr => (Below.heap_setCell _ _ _ _ (by simp; omega)).trans (h.gr.block k hk hr)⟩, h.ne⟩
structure AN (w : World) (C : Nat) (aC ca na : Array Value) (wr : World) : Prop where
  am : AM w C aC ca wr
  nn : wr.heap[w.heap.size + 1]? = some (.cells na 61 (0, 0))
  u : U16 na
  lt : C < w.heap.size
theorem AN.setn {w : World} {C : Nat} {aC ca na : Array Value} {wr : World} (h : AN w C aC ca na wr) (i z : Nat) (hz : z < 65536) : AN w C aC ca (na.setIfInBounds i (.int .u16 (z : Int))) (wr.setCell ⟨w.heap.size + 1, i, none⟩ (.int .u16 (z : Int))) :=
  ⟨⟨by rw [Below.heap_setCell _ _ _ _ (by have := h.lt; simp; omega)]; exact h.am.co, by rw [Below.heap_setCell _ _ _ _ (by simp)]; exact h.am.cn, h.am.u,
    ⟨h.am.gr.os, h.am.gr.tape, h.am.gr.output, by simpa [World.setCell] using h.am.gr.size, fun k hk hr => (Below.heap_setCell _ _ _ _ (by simp; omega)).trans (h.am.gr.block k hk hr)⟩, h.am.ne⟩, heap_setCell_same' _ _ _ _ _ _ h.nn, h.u.set i z hz, h.lt⟩
theorem AN.setc {w : World} {C : Nat} {aC ca na : Array Value} {wr : World} (h : AN w C aC ca na wr) (i : Nat) (v : Value) : AN w C (aC.setIfInBounds i v) ca na (wr.setCell ⟨C, i, none⟩ v) :=
  ⟨⟨heap_setCell_same' _ _ _ _ _ _ h.am.co, by rw [Below.heap_setCell _ _ _ _ (by simpa using Ne.symm h.am.ne)]; exact h.am.cn, h.am.u,
    ⟨h.am.gr.os, h.am.gr.tape, h.am.gr.output, by simpa [World.setCell] using h.am.gr.size, fun k hk hr => (Below.heap_setCell _ _ _ _ (fun e => hr (by rw [e]))).trans (h.am.gr.block k hk hr)⟩, h.am.ne⟩,
    by rw [Below.heap_setCell _ _ _ _ (by have := h.lt; simp; omega)]; exact h.nn, h.u, h.lt⟩
theorem AN.drewN {w : World} {C : Nat} {aC ca na : Array Value} {wr : World} (h : AN w C aC ca na wr) (q : Nat) : AN w C aC ca na (wr.drewN q) :=
  ⟨⟨h.am.co, h.am.cn, h.am.u, ⟨h.am.gr.os, h.am.gr.tape, h.am.gr.output, h.am.gr.size, h.am.gr.block⟩, h.am.ne⟩, h.nn, h.u, h.lt⟩
theorem clA_len_set (ls : List Nat) (rest : List Value) (i : Nat) (h : i < ls.length) : (clA ls rest).setIfInBounds i (.int .u8 ((ls.getD i 0 : Nat) : Int)) = clA ls rest := by
  rw [clA_set _ _ _ _ h]
  congr 1
  rw [show ls.getD i 0 = ls[i] from by simp [List.getD, h], List.set_getElem_self]
theorem clA_bit_set (ls : List Nat) (ms bs : List Value) (hl : ls.length = 19) (hm : ms.length = 269) (i : Nat) (v : Value) : (clA ls (ms ++ bs)).setIfInBounds (288 + i) v = clA ls (ms ++ bs.set i v) := by
  apply Array.ext'
  simp only [clA, List.setIfInBounds_toArray]
  rw [List.set_append_right _ _ (by simp; omega), List.set_append_right _ _ (by simp; omega)]
  congr 3
  simp
  omega
theorem u16zero : U16 #[.int .u16 0, .int .u16 0, .int .u16 0, .int .u16 0, .int .u16 0, .int .u16 0, .int .u16 0, .int .u16 0, .int .u16 0, .int .u16 0, .int .u16 0, .int .u16 0, .int .u16 0, .int .u16 0, .int .u16 0, .int .u16 0] :=
  ⟨rfl, fun i hi => ⟨0, by omega, by
    have : i = 0 ∨ i = 1 ∨ i = 2 ∨ i = 3 ∨ i = 4 ∨ i = 5 ∨ i = 6 ∨ i = 7 ∨ i = 8 ∨ i = 9 ∨ i = 10 ∨ i = 11 ∨ i = 12 ∨ i = 13 ∨ i = 14 ∨ i = 15 := by omega
    rcases this with rfl | rfl | rfl | rfl | rfl | rfl | rfl | rfl | rfl | rfl | rfl | rfl | rfl | rfl | rfl | rfl <;> rfl⟩⟩
theorem AM.start {w : World} {C : Nat} {aC ca : Array Value} (hco : w.heap[C]? = some (.cells aC 38 (0, 0))) (hu : U16 ca) : AM w C aC ca (w.alloc (.cells ca 61)) :=
  have hlt : C < w.heap.size := (Array.getElem?_eq_some_iff.1 hco).1
  ⟨by rw [Below.heap_alloc _ _ _ hlt]; exact hco, heap_alloc_new w _, hu, World.grownBy_alloc _ _ _, by omega⟩
theorem AM.next {w : World} {C : Nat} {aC ca na : Array Value} {wr : World} (h : AM w C aC ca wr) (hC : C < w.heap.size) (hs : wr.heap.size = w.heap.size + 1) (hu : U16 na) : AN w C aC ca na (wr.alloc (.cells na 61)) :=
  ⟨⟨by rw [Below.heap_alloc _ _ _ (by omega)]; exact h.co, by rw [Below.heap_alloc _ _ _ (by omega)]; exact h.cn, h.u, ⟨h.gr.os, h.gr.tape, h.gr.output, by have := h.gr.size; simp; omega, fun k hk hr => (Below.heap_alloc _ _ _ (by omega)).trans (h.gr.block k hk hr)⟩, h.ne⟩,
    by have := heap_alloc_new wr (.cells na 61); rw [hs] at this; exact this, hu, hC⟩
theorem AN.bit {w : World} {C : Nat} {ls : List Nat} {ms bs : List Value} {ca na : Array Value} {wr : World} (h : AN w C (clA ls (ms ++ bs)) ca na wr) (hl : ls.length = 19) (hm : ms.length = 269) (i : Nat) (v : Value) :
    AN w C (clA ls (ms ++ bs.set i v)) ca na (wr.drew.drew.setCell ⟨C, 288 + i, none⟩ v) := by
  have h1 : AN w C (clA ls (ms ++ bs)) ca na wr.drew.drew := ⟨⟨h.am.co, h.am.cn, h.am.u, ⟨h.am.gr.os, h.am.gr.tape, h.am.gr.output, h.am.gr.size, h.am.gr.block⟩, h.am.ne⟩, h.nn, h.u, h.lt⟩
  have h2 := h1.setc (288 + i) v
  rw [clA_bit_set ls ms bs hl hm] at h2
  exact h2
def AsgTo (C : Nat) (ls : List Nat) (w : World) (e : Ending) (w' : World) : Prop :=
  e = .returned (.tuple #[]) ∧ ∃ bs : List Value, bs.length = 288 ∧ w'.heap[C]? = some (.cells (clA ls (List.replicate 269 (.int .u8 0) ++ bs)) 38 (0, 0)) ∧ w.grownBy w' (some C)
set_option maxRecDepth 8000 in
set_option maxHeartbeats 8000000 in
theorem asg_any (C cc : Nat) (ls : List Nat) (ms bs : List Value) (w : World) (hls : ls.length = 19) (hms : ms.length = 269) (hbs : bs.length = 288) (hl7 : ∀ l ∈ ls, l ≤ 7) (_hcc : 19 ≤ cc)
    (hco : w.heap[C]? = some (.cells (clA ls (ms ++ bs)) 38 (0, 0))) :
    Calls Ybad.prog 13 #[.pointer (some ⟨C, 0, none⟩), .slice (some ⟨C, 0, none⟩) 19 cc] w fun e w' => AsgTo C ls w e w' := by
  have HC : Hid (∀ t, t < 19 → w.cell? ⟨C, t, none⟩ = some (.int .u8 ((ls.getD t 0 : Nat) : Int)) ∧ ls.getD t 0 ≤ 7) := fun t ht => by
    have h1 : t < ls.length := by omega
    rw [show ls.getD t 0 = ls[t] from by simp [List.getD, h1]]
    exact ⟨cellAt hco t _ (clA_at ls _ t h1), hl7 _ (List.getElem_mem h1)⟩
  have HW : Hid (w.heap[C]? = some (.cells (clA ls (ms ++ bs)) 38 (0, 0))) := hco
  clear hco hl7
  go_enter Ybad.func13, Ybad.ntmps13
  go_wp2_with fail
  go_loopg [14] 19 (fun gk v14 wr => ∃ (k : Nat) (ca : Array Value), v14 = .int .i64 k ∧ k + gk = 19 ∧ wr.heap.size = w.heap.size + 1 ∧ Hid (AM w C (clA ls (ms ++ bs)) ca wr))
  case atStart => exact ⟨0, _, rfl, rfl, by simp, AM.start HW.out u16zero⟩
  case round =>
    obtain ⟨k, ca, rfl, hk, hsz, HA⟩ := hrel
    rcases Nat.lt_or_ge k 19 with hlt | hge
    · obtain ⟨l, hle⟩ : ∃ l, l = ls.getD k 0 := ⟨_, rfl⟩
      have hk2 : k < ls.length := by omega
      have hc : wr.cell? ⟨C, k, none⟩ = some (.int .u8 (l : Int)) := by
        rw [hle, show ls.getD k 0 = ls[k] from by simp [List.getD, hk2]]
        exact cellAt HA.out.co k _ (clA_at ls _ k hk2)
      have hl7 : l ≤ 7 := by rw [hle]; exact (HC.out k hlt).2
      obtain ⟨z, hz1, hz2⟩ := HA.out.u.2 l (by omega)
      have hcz := cellAt HA.out.cn l _ hz2
      have hcf := frozenAt HA.out.cn l
      clear hle hz2
      go_wp2_with fail
      go_roundg (gk - 1)
      case measure => omega
      case rel => exact ⟨k + 1, _, by go_num, by omega, by simpa [World.setCell] using hsz, HA.out.setn l ((z + 1) % 65536) (by omega)⟩
    · have hkk : k = 19 := by omega
      subst hkk
      obtain ⟨z, hz1, hz2⟩ := HA.out.u.2 0 (by omega)
      have hcz := cellAt HA.out.cn 0 _ hz2
      have hcf := frozenAt HA.out.cn 0
      have HB : Hid _ := HA.out.setn 0 0 (by omega)
      have HLT : Hid (C < w.heap.size) := (Array.getElem?_eq_some_iff.1 HW.out).1
      clear hz2
      go_wp2_with fail
      go_loopg [8, 9] 15 (fun gk v8 v9 wr => ∃ (l f : Nat) (ca na : Array Value), v8 = .int .i64 ((l : Int) + 1) ∧ v9 = .int .u16 (f : Int) ∧ f < 65536 ∧ l + gk = 15 ∧ Hid (AN w C (clA ls (ms ++ bs)) ca na wr))
      case atStart => exact ⟨0, 0, _, _, rfl, rfl, by omega, rfl, HB.out.next HLT.out (by simpa [World.setCell] using hsz) u16zero⟩
      case round =>
        clear hcz hcf HB HA
        obtain ⟨l, f, ca2, na, rfl, rfl, hf, hl, HN⟩ := hrel
        rcases Nat.lt_or_ge l 15 with hlt | hge2
        · obtain ⟨z, hz1, hz2⟩ := HN.out.am.u.2 l (by omega)
          have hcz := cellAt HN.out.am.cn l _ hz2
          obtain ⟨y, hy1, hy2⟩ := HN.out.u.2 (l + 1) (by omega)
          have hcy := cellAt HN.out.nn (l + 1) _ hy2
          have hcf := frozenAt HN.out.nn (l + 1)
          clear hz2 hy2
          go_wp2_with fail
          go_roundg (gk - 1)
          case measure => omega
          case rel =>
            have h5 := HN.out.setn (l + 1) ((f + z) * 2 % 65536) (by omega)
            have e5 : (((f + z) * 2 % 65536 : Nat) : Int) = IntKind.u16.wrap (IntKind.u16.wrap ((f : Int) + z) * 2) := by rw [IntKind.wrap_u16, IntKind.wrap_u16]; omega
            rw [e5] at h5
            exact ⟨l + 1, (f + z) * 2 % 65536, _, _, by go_num, by rw [e5], by omega, by omega, h5⟩
        · have hl5 : l = 15 := by omega
          subst hl5
          go_wp2_with fail
          go_loopg [41] 19 (fun gk v41 wr => ∃ (k : Nat) (ca na : Array Value) (bs : List Value), v41 = .int .i64 k ∧ k + gk = 19 ∧ Hid (bs.length = 288) ∧ Hid (AN w C (clA ls (ms ++ bs)) ca na wr))
          case atStart => exact ⟨0, _, _, bs, rfl, rfl, hbs, HN.out⟩
          case round =>
            clear HN
            obtain ⟨k, ca3, na3, bs3, rfl, hk, HBL, HN⟩ := hrel
            rcases Nat.lt_or_ge k 19 with hlt | hge3
            · obtain ⟨l, hle⟩ : ∃ l, l = ls.getD k 0 := ⟨_, rfl⟩
              have hk2 : k < ls.length := by omega
              have hc : wr.cell? ⟨C, k, none⟩ = some (.int .u8 (l : Int)) := by
                rw [hle, show ls.getD k 0 = ls[k] from by simp [List.getD, hk2]]
                exact cellAt HN.out.am.co k _ (clA_at ls _ k hk2)
              have hcf := frozenAt HN.out.am.co k
              have hl7 : l ≤ 7 := by rw [hle]; exact (HC.out k hlt).2
              have HNC : Hid (AN w C (clA ls (ms ++ bs3)) ca3 na3 (wr.setCell ⟨C, k, none⟩ (.int .u8 (l : Int)))) := by
                have := HN.out.setc k (.int .u8 ((ls.getD k 0 : Nat) : Int))
                rw [clA_len_set _ _ _ hk2, ← hle] at this
                exact this
              clear hle
              rcases Nat.eq_zero_or_pos l with hl0 | hl0
              · subst hl0
                go_wp2_with fail
                go_roundg (gk - 1)
                case measure => omega
                case rel => exact ⟨k + 1, _, _, bs3, by go_num, by omega, HBL.out, HNC.out⟩
              · have hl1 : (0 : Int) < (l : Int) := by omega
                obtain ⟨z, hz1, hz2⟩ := HNC.out.u.2 l (by omega)
                have hcz := cellAt HNC.out.nn l _ hz2
                have hczf := frozenAt HNC.out.nn l
                have hcb : ∃ u, (wr.setCell ⟨C, k, none⟩ (.int .u8 (l : Int))).cell? ⟨C, 288 + k, none⟩ = some u := cellEx HNC.out.am.co (288 + k) (by have := HBL.out; simp [clA]; omega)
                obtain ⟨u, hu⟩ := hcb
                have hcuf := frozenAt HNC.out.am.co (288 + k)
                have hk8 : (k : Int) < 288 := by omega
                clear hz2
                go_upto_region 18 with fail
                generalize hw5 : wr.setCell ⟨C, k, none⟩ (.int .u8 (l : Int)) = w5 at *
                clear hw5
                go_cut [] (fun wx => ∃ bs4 : List Value, bs4.length = 288 ∧ AN w C (clA ls (ms ++ bs4)) ca3 na3 wx)
                case first =>
                  have h7 : l = 1 ∨ l = 2 ∨ l = 3 ∨ l = 4 ∨ l = 5 ∨ l = 6 ∨ l = 7 := by omega
                  rcases h7 with rfl | rfl | rfl | rfl | rfl | rfl | rfl
                  · go_region_with (go_at_call 18; refine (rev_any z hz1 _).mono ?_; rintro e w6 ⟨y, hy, rfl, rfl⟩)
                    all_goals go_wp2_with fail
                    go_meet
                    case rel => exact ⟨_, by simpa using HBL.out, HNC.out.bit hls hms k _⟩
                  · go_region_with (go_at_call 18; refine (rev_any z hz1 _).mono ?_; rintro e w6 ⟨y, hy, rfl, rfl⟩)
                    all_goals go_wp2_with fail
                    go_meet
                    case rel => exact ⟨_, by simpa using HBL.out, HNC.out.bit hls hms k _⟩
                  · go_region_with (go_at_call 18; refine (rev_any z hz1 _).mono ?_; rintro e w6 ⟨y, hy, rfl, rfl⟩)
                    all_goals go_wp2_with fail
                    go_meet
                    case rel => exact ⟨_, by simpa using HBL.out, HNC.out.bit hls hms k _⟩
                  · go_region_with (go_at_call 18; refine (rev_any z hz1 _).mono ?_; rintro e w6 ⟨y, hy, rfl, rfl⟩)
                    all_goals go_wp2_with fail
                    go_meet
                    case rel => exact ⟨_, by simpa using HBL.out, HNC.out.bit hls hms k _⟩
                  · go_region_with (go_at_call 18; refine (rev_any z hz1 _).mono ?_; rintro e w6 ⟨y, hy, rfl, rfl⟩)
                    all_goals go_wp2_with fail
                    go_meet
                    case rel => exact ⟨_, by simpa using HBL.out, HNC.out.bit hls hms k _⟩
                  · go_region_with (go_at_call 18; refine (rev_any z hz1 _).mono ?_; rintro e w6 ⟨y, hy, rfl, rfl⟩)
                    all_goals go_wp2_with fail
                    go_meet
                    case rel => exact ⟨_, by simpa using HBL.out, HNC.out.bit hls hms k _⟩
                  · go_region_with (go_at_call 18; refine (rev_any z hz1 _).mono ?_; rintro e w6 ⟨y, hy, rfl, rfl⟩)
                    all_goals go_wp2_with fail
                    go_meet
                    case rel => exact ⟨_, by simpa using HBL.out, HNC.out.bit hls hms k _⟩
                case rest =>
                  obtain ⟨bs4, hb4, hn4⟩ := hcut
                  have HB4 : Hid (bs4.length = 288) := hb4
                  have HN4 : Hid (AN w C (clA ls (ms ++ bs4)) ca3 na3 wc) := hn4
                  clear hcz hczf hu hcuf hb4 hn4 HNC
                  obtain ⟨z, hz1, hz2⟩ := HN4.out.u.2 l (by omega)
                  have hcz := cellAt HN4.out.nn l _ hz2
                  have hczf := frozenAt HN4.out.nn l
                  have HN5 : Hid _ := HN4.out.setn l ((z + 1) % 65536) (by omega)
                  clear hz2
                  go_wp2_with fail
                  go_roundg (gk - 1)
                  case measure => omega
                  case rel => exact ⟨k + 1, _, _, bs4, by go_num, by omega, HB4.out, HN5.out⟩
            · have hk9 : k = 19 := by omega
              subst hk9
              have HCL : ∀ ty, (Builtin.clear_ #[22] ty #[.slice (some ⟨C, 19, none⟩) 269 269]).run Ybad.prog wr = .ok (.tuple #[]) (wr.setCells C 19 (List.replicate 269 (.int .u8 0))) := fun ty => by
                have h3 := HN.out.am.co
                refine Lib.run_clear_slice wr 22 5 ty (.int .u8 0) Ybad.underlying22 (fun w => by simp [Ybad.zeroValue5]) rfl rfl C 19 269 269 (by omega) (fun j hj => ?_) (fun j hj => ?_)
                · obtain ⟨u, hu⟩ := cellEx h3 (19 + j) (by have := HBL.out; simp [clA]; omega)
                  rw [hu]; rfl
                · exact frozenAt h3 _
              have HEND : Hid (AsgTo C ls w (.returned (.tuple #[])) (wr.setCells C 19 (List.replicate 269 (.int .u8 0)))) := by
                refine ⟨rfl, bs3, HBL.out, ?_, ?_⟩
                · have h9 := setCells_heap C 38 (List.replicate 269 (.int .u8 0)) 19 wr (ls.map (fun z => Value.int .u8 (z : Nat))) ms bs3 (by simp [hls]) (by simp [hms]) (by rw [List.append_assoc]; exact HN.out.am.co)
                  rw [List.append_assoc] at h9
                  exact h9
                · have hg := setCells_grown C (List.replicate 269 (.int .u8 0)) 19 wr
                  have h0 := HN.out.am.gr
                  exact ⟨hg.os.trans h0.os, hg.tape.trans h0.tape, hg.output.trans h0.output, Nat.le_trans h0.size hg.size, fun x hx hr => (hg.block x (Nat.lt_of_lt_of_le hx h0.size) hr).trans (h0.block x hx hr)⟩
              generalize hwz : wr.setCells C 19 (List.replicate 269 (.int .u8 0)) = w9 at HCL HEND
              clear hwz
              go_wp2_with fail
              exact bodyPost_end (v := .tuple #[]) (by simp [results, Ybad.results13, go_sem]) rfl HEND.out
end Go.Proofs.YbulkccziDoor
