/-
  Seat b6604397a. (*schedule).place (33): the walk.
-/
import Derived.Test.Qxb6604397aPlB
import Derived.Test.Qxb6604397aTiD
namespace Go.Proofs.Qxb6604397a
open Go.RowKit

set_option maxRecDepth 100000 in
set_option maxHeartbeats 8000000 in
theorem place33 (sb : Nat) (tv uv gv : Value) (ts : List Int) (us gs : List Nat) (pk : Nat) (rc : Int) (s d : Int) (u : Nat) (urg : Bool) (w : World) (hn : ts.length ≤ 900000) (hs : Sorted ts) (hu : us.length = ts.length) (hg : gs.length = ts.length)
    (hs0 : -2305843009213693952 ≤ s) (hs1 : s ≤ 2305843009213693952) (hd0 : -2305843009213693952 ≤ d) (hd1 : d ≤ 2305843009213693952) (h : Sched w sb tv uv gv ts us gs pk rc) :
    Calls Try.prog 33 #[.pointer (some ⟨sb, 0, none⟩), .agg (tm s), .int .i64 d, .float .f64 u, .bool urg] w fun e w' => e = .returned (.tuple #[]) ∧ PlacePost sb tv uv gv ts us gs pk rc s d u urg w w' := by
  obtain ⟨tn, htn⟩ : ∃ z, z = s % 1000000000 := ⟨_, rfl⟩
  obtain ⟨tsec, hts⟩ : ∃ z, z = s / 1000000000 := ⟨_, rfl⟩
  obtain ⟨en, hen⟩ : ∃ z, z = (s + d) % 1000000000 := ⟨_, rfl⟩
  obtain ⟨esec, hes⟩ : ∃ z, z = (s + d) / 1000000000 := ⟨_, rfl⟩
  have e1 : tm s = #[.int .u64 tn, .int .i64 tsec, .pointer none] := by rw [tm_cells, htn, hts]
  have e2 : tm (s + d) = #[.int .u64 en, .int .i64 esec, .pointer none] := by rw [tm_cells, hen, hes]
  have e3 : tm 0 = #[.int .u64 0, .int .i64 0, .pointer none] := by rw [tm_cells]; rfl
  obtain ⟨box, hbox⟩ : ∃ o, o = Obj.cells #[.int .u64 tn, .int .i64 tsec, .pointer none] 40 (0, 0) := ⟨_, rfl⟩
  have hS := ((Stg.start h).alloc box).drew
  have hsb : sb < w.heap.size := h.lt (.inl rfl)
  have HC1 := hid (show Calls Try.prog 44 #[.pointer (some ⟨sb, 0, none⟩), .agg #[.int .u64 tn, .int .i64 tsec, .pointer none]] (w.alloc box).drew fun e w' => SplitPost sb tv uv gv ts us gs pk rc s (w.alloc box).drew e w' from by
    have := split44 sb tv uv gv ts us gs pk rc s (w.alloc box).drew (by omega) hs hu hg hS.s
    rw [e1] at this
    exact this)
  have HC2 := hid (show ∀ W : World, Calls Try.prog 27 #[.agg #[.int .u64 tn, .int .i64 tsec, .pointer none], .int .i64 d] W fun e w' => e = .returned (.agg #[.int .u64 en, .int .i64 esec, .pointer none]) ∧ Below W.heap.size W w' from fun W => by
    have := add27 s d W (by omega) (by omega) (by omega) (by omega)
    rw [e1, e2] at this
    exact this)
  have HC3 := hid (show ∀ (i : Nat) (f : Bool) (tv1 uv1 gv1 : Value) (W : World), Found ts ts.length s i f → Sched W sb tv1 uv1 gv1 (insT f i s ts) (insF f i us) (insF f i gs) pk rc →
      Calls Try.prog 44 #[.pointer (some ⟨sb, 0, none⟩), .agg #[.int .u64 en, .int .i64 esec, .pointer none]] W fun e w' => SplitPost sb tv1 uv1 gv1 (insT f i s ts) (insF f i us) (insF f i gs) pk rc (s + d) W e w' from fun i f tv1 uv1 gv1 W hf hW => by
    have hi := hf.le
    have := split44 sb tv1 uv1 gv1 (insT f i s ts) (insF f i us) (insF f i gs) pk rc (s + d) W (by rw [length_insT hf.le]; split <;> omega) (hf.sorted hs) (by rw [length_insF (by omega), length_insT hi, hu]) (by rw [length_insF (by omega), length_insT hi, hg]) hW
    rw [e2] at this
    exact this)
  have HC4 := hid (show ∀ W : World, Calls Try.prog 28 #[.agg #[.int .u64 en, .int .i64 esec, .pointer none], .agg #[.int .u64 0, .int .i64 0, .pointer none]] W fun e w' => e = .returned (.int .i64 (s + d)) ∧ Below W.heap.size W w' from fun W => by
    have := sub28 (s + d) 0 W (by omega) (by omega) (by omega) (by omega)
    rw [e2, e3, Int.sub_zero] at this
    exact this)
  have HK1 := hid (show ∀ w1, Keep (Own sb tv uv gv) (w.alloc box).drew w1 → w1.heap[w.heap.size]? = some box from fun w1 hk => by
    refine (hk.block w.heap.size (by simp) (fun ho => ?_)).trans (heap_alloc_new w _)
    have := h.lt ho; omega)
  have HCell := hid (show ∀ W : World, W.heap[w.heap.size]? = some box → W.cell? ⟨w.heap.size, 0, none⟩ = some (.int .u64 tn) ∧ W.cell? ⟨w.heap.size, 1, none⟩ = some (.int .i64 tsec) ∧ W.cell? ⟨w.heap.size, 2, none⟩ = some (.pointer none) from fun W hh => by
    rw [hbox] at hh
    exact ⟨cell_of_row W _ _ _ 40 (0, 0) hh, cell_of_row W _ _ _ 40 (0, 0) hh, cell_of_row W _ _ _ 40 (0, 0) hh⟩)
  have HS := hid (And.intro h hS)
  rw [e1]
  rw [hbox] at HC1 HK1 HCell HS
  have HN := hid (And.intro hs (And.intro hu (And.intro hg hn)))
  clear e1 e2 e3 htn hts hen hes hs hu hg hn h hS hbox hs0 hs1 hd0 hd1 box
  go_enter Try.func33, Try.ntmps33
  go_wp2
  go_region_held3 (fun w' => w'.cell? ⟨w.heap.size, 0, none⟩ = some (.int .u64 tn) ∧ w'.cell? ⟨w.heap.size, 1, none⟩ = some (.int .i64 tsec) ∧ w'.cell? ⟨w.heap.size, 2, none⟩ = some (.pointer none)) (first | go_keep | exact m3 | exact m2 | exact m1)
    ((first
      | (go_at_call 27; refine (HC2.out _).mono ?_; rintro e w2 ⟨rfl, hb2⟩; have b2 := (hb2.block w.heap.size (by have := hK1.size; simp at this; omega)).trans b1; have m2 := HCell.out w2 b2)
      | (go_at_call_has 44 (esec); refine (HC3.out i1 f1 tv1 uv1 gv1 _ hf1 (hS1.below hb2 (Nat.le_refl _))).mono ?_; rintro e w3 ⟨i2, f2, tv2, uv2, gv2, rfl, hf2, hS2, hO2, hK2⟩; have b3 := (hK2.block w.heap.size (by have := hK1.size; have := hb2.size; simp at *; omega) (fun ho => by rcases hO1 _ ho with q | q; (have := HS.out.1.lt q; omega); (simp at q; omega))).trans b2; have m3 := HCell.out w3 b3)
      | (go_at_call_has 44 (tsec); refine HC1.out.mono ?_; rintro e w1 ⟨i1, f1, tv1, uv1, gv1, rfl, hf1, hS1, hO1, hK1⟩; have b1 := HK1.out w1 hK1; have m1 := HCell.out w1 b1)))
  have hS3 := ((HS.out.2.next hS1 hO1 hK1).below hb2).next hS2 hO2 hK2
  have hL1 : i1 ≤ ts.length := hf1.le
  have hL2 : i2 < (insT f2 i2 (s + d) (insT f1 i1 s ts)).length := hf2.lt
  have hL0 := hf2.le
  have hLu : (insF f2 i2 (insF f1 i1 us)).length = (insT f2 i2 (s + d) (insT f1 i1 s ts)).length := by
    rw [length_insT hL0, length_insT hL1, length_insF, length_insF, HN.out.2.1]
    · rw [HN.out.2.1]; exact hL1
    · rw [length_insF, HN.out.2.1, ← length_insT (t := s) hL1]
      · exact hL0
      · rw [HN.out.2.1]; exact hL1
  have hLg : (insF f2 i2 (insF f1 i1 gs)).length = (insT f2 i2 (s + d) (insT f1 i1 s ts)).length := by
    rw [length_insT hL0, length_insT hL1, length_insF, length_insF, HN.out.2.2.1]
    · rw [HN.out.2.2.1]; exact hL1
    · rw [length_insF, HN.out.2.2.1, ← length_insT (t := s) hL1]
      · exact hL0
      · rw [HN.out.2.2.1]; exact hL1
  have HF := hid (And.intro hf1 hf2)
  have hbx : i2 ≤ 1000000 := by
    have := HN.out.2.2.2
    have h5 := length_insT (f := f1) (t := s) hL1
    split at h5 <;> omega
  obtain ⟨L, hL⟩ : ∃ L, L = (insT f2 i2 (s + d) (insT f1 i1 s ts)).length := ⟨_, rfl⟩
  rw [← hL] at hLu hLg hL2
  have HP := hid (fun (us' gs' : List Nat) (pk' m : Nat) (w' : World) (hm : i2 ≤ m) (hm2 : m = i1 ∨ m ≤ i2) (hp : Part u urg (insF f2 i2 (insF f1 i1 us)) (insF f2 i2 (insF f1 i1 gs)) pk i1 m us' gs' pk') (hS : Stg w (Own sb tv uv gv) sb tv2 uv2 gv2 (insT f2 i2 (s + d) (insT f1 i1 s ts)) us' gs' pk' (if urg then (if s + d > rc then s + d else rc) else rc) w') => (show PlacePost sb tv uv gv ts us gs pk rc s d u urg w w' from ⟨i1, i2, m, f1, f2, us', gs', pk', tv2, uv2, gv2, hf1, hf2, hm, hm2, hp, hS⟩))
  clear hL HF
  generalize insT f2 i2 (s + d) (insT f1 i1 s ts) = ts2 at hS3 HP
  generalize insF f2 i2 (insF f1 i1 us) = us2 at hS3 HP hLu
  generalize insF f2 i2 (insF f1 i1 gs) = gs2 at hS3 HP hLg
  have HS3 := hid hS3
  have hU := hS3.s.u
  have hG := hS3.s.g
  rw [hLu] at hU
  rw [hLg] at hG
  obtain ⟨gu, cu, rfl⟩ : ∃ gu cu, uv2 = .slice (some ⟨gu, 0, none⟩) L cu := by
    rcases hU.2 with ⟨_, h0⟩ | ⟨g, cap, cur, rfl, _⟩
    · omega
    · exact ⟨g, cap, rfl⟩
  obtain ⟨gg, cg, rfl⟩ : ∃ gg cg, gv2 = .slice (some ⟨gg, 0, none⟩) L cg := by
    rcases hG.2 with ⟨_, h0⟩ | ⟨g, cap, cur, rfl, _⟩
    · omega
    · exact ⟨g, cap, rfl⟩
  have HB3 := hid b3
  clear hU hG hS3 hS2 hO2 hK2 hf2 hf1 hS1 hO1 hK1 hb2 b1 b2 b3 m1 m2 m3 HN HS HC1 HC3 HK1 hL1 hL0
  go_wp2
  go_loopw [12] (fun x wr => Round w (Own sb tv uv gv) sb tv2 (.slice (some ⟨gu, 0, none⟩) L cu) (.slice (some ⟨gg, 0, none⟩) L cg) ts2 us2 gs2 pk rc u urg i1 i2 (.cells #[.int .u64 tn, .int .i64 tsec, .pointer none] 40 (0, 0)) x wr) (fun x _ => i2 - (intOf x).toNat)
  case atStart => exact ⟨i1, us2, gs2, pk, rfl, .inl rfl, Part.start _ _ _ _ _ _, HS3.out, HB3.out⟩
  case round =>
    obtain ⟨b, us', gs', pk', rfl, hb, hP, hS, hbox⟩ := hrel
    by_cases hlt : b < i2
    · have hlI : (b : Int) < i2 := by omega
      have hbL : (b : Int) < L := by omega
      have hul : us'.length = L := by rw [hP.used.len, hLu]
      have hgl : gs'.length = L := by rw [hP.glen, hLg]
      have z1 : IntKind.i64.wrap ((b : Int) + 1) = b + 1 := by
        simp only [IntKind.wrap, IntKind.bits, IntKind.signed]; simp; omega
      obtain ⟨x, hx⟩ : ∃ x, x = us'.getD b 0 := ⟨_, rfl⟩
      obtain ⟨y, hy⟩ : ∃ y, y = gs'.getD b 0 := ⟨_, rfl⟩
      have c2 : wr.cell? ⟨sb, 2, none⟩ = some (.slice (some ⟨gu, 0, none⟩) L cu) := hS.s.cell 2
      have c5 : wr.cell? ⟨gu, b, none⟩ = some (.float .f64 x) := by rw [hx]; exact (rowcell hS.s.u hul (by omega)).1
      obtain ⟨r, wA, hr, hwA, hrun⟩ := run_fadd (P := Try.prog) wr 22 x u
      have hSA : Stg w (Own sb tv uv gv) sb tv2 (.slice (some ⟨gu, 0, none⟩) L cu) (.slice (some ⟨gg, 0, none⟩) L cg) ts2 us' gs' pk' rc wA := by
        rcases hwA with rfl | rfl
        · exact hS
        · exact hS.drew
      have hbA : wA.heap[w.heap.size]? = some (.cells #[.int .u64 tn, .int .i64 tsec, .pointer none] 40 (0, 0)) := by
        rcases hwA with rfl | rfl
        · exact hbox
        · exact hbox
      have cA := (rowcell hSA.s.u hul (show b < L by omega)).1
      have fA := (rowcell hSA.s.u hul (show b < L by omega)).2
      rw [← hx] at cA
      obtain ⟨wB, hwB⟩ : ∃ wB, wA.setCell ⟨gu, b, none⟩ (.float .f64 r) = wB := ⟨_, rfl⟩
      have hSB := hSA.setU hul b r
      obtain ⟨cur, hcur⟩ := owns_type hSA.s.u (k := gu) rfl
      have hbB := box_off (j := b) (v := .float .f64 r) hbA hcur (by decide)
      have hst1 := run_store_f (P := Try.prog) r cA fA
      rw [hwB] at hSB hbB hst1
      rw [hx] at hr
      have HR := hid hr
      have HSB := hid (And.intro hSB hbB)
      have HPt := hid hP
      clear hwB cA fA
      clear hr hwA hSA hbA hcur hx hS hbox HS3 HB3 HC2 HC4
      cases urg with
      | false =>
        clear hP hSB hbB
        go_wp2
        go_roundw
        case rel => exact ⟨b + 1, us'.set b r, gs', pk', by go_num, .inr (by omega), HPt.out.plain (by omega) HR.out, HSB.out.1, HSB.out.2⟩
        case measure => simp [intOf]; omega
      | true =>
        obtain ⟨q, wC, hq, hwC, hrun2⟩ := run_fadd (P := Try.prog) wB 22 y u
        have hbl : us'.length = L := hul
        have c3 : wB.cell? ⟨sb, 3, none⟩ = some (.slice (some ⟨gg, 0, none⟩) L cg) := hSB.s.cell 3
        have c6 : wB.cell? ⟨gg, b, none⟩ = some (.float .f64 y) := by rw [hy]; exact (rowcell hSB.s.g hgl (by omega)).1
        have hSC : Stg w (Own sb tv uv gv) sb tv2 (.slice (some ⟨gu, 0, none⟩) L cu) (.slice (some ⟨gg, 0, none⟩) L cg) ts2 (us'.set b r) gs' pk' rc wC := by
          rcases hwC with rfl | rfl
          · exact hSB
          · exact hSB.drew
        have hbC : wC.heap[w.heap.size]? = some (.cells #[.int .u64 tn, .int .i64 tsec, .pointer none] 40 (0, 0)) := by
          rcases hwC with rfl | rfl
          · exact hbB
          · exact hbB
        have cC := (rowcell hSC.s.g hgl (show b < L by omega)).1
        have fC := (rowcell hSC.s.g hgl (show b < L by omega)).2
        obtain ⟨wD, hwD⟩ : ∃ wD, wC.setCell ⟨gg, b, none⟩ (.float .f64 q) = wD := ⟨_, rfl⟩
        have hSD := hSC.setG hgl b q
        obtain ⟨cur, hcur⟩ := owns_type hSC.s.g (k := gg) rfl
        have hbD := box_off (j := b) (v := .float .f64 q) hbC hcur (by decide)
        have hst2 := run_store_f (P := Try.prog) q cC fC
        rw [hwD] at hSD hbD hst2
        rw [hy] at hq
        have d5 : wD.cell? ⟨sb, 5, none⟩ = some (.float .f64 pk') := hSD.s.cell 5
        have d3 : wD.cell? ⟨sb, 3, none⟩ = some (.slice (some ⟨gg, 0, none⟩) L cg) := hSD.s.cell 3
        have d6 : wD.cell? ⟨gg, b, none⟩ = some (.float .f64 q) := by
          have := (rowcell hSD.s.g (by rw [List.length_set]; exact hgl) (show b < L by omega)).1
          rw [getD_set _ _ _ _ (by omega), if_pos rfl] at this
          exact this
        have d7 : wD.frozen? ⟨sb, 5, none⟩ = false := frozen_sched hSD.s 5
        have HQ := hid hq
        have HSD := hid (And.intro hSD hbD)
        clear hP hSB hbB hwD cC fC hcur hbC hSC hwC hq hy hbD hSD hbl
        cases ho : Ieee.double.order pk' q with
        | none =>
          obtain ⟨m, hm, hmax⟩ := run_fmax_nan (P := Try.prog) #[22, 22] 22 pk' q ho
          have HM := hid hm
          have hst3 := run_store_f (P := Try.prog) (w := wD.drew.drew) (a := ⟨sb, 5, none⟩) (m wD.drew) d5 d7
          clear ho hm
          go_wp2
          go_region
          go_wp2
          go_roundw
          case rel =>
            exact ⟨b + 1, us'.set b r, gs'.set b q, _, by go_num, .inr (by omega), HPt.out.pressing (by omega) (by omega) HR.out HQ.out (HM.out _), HSD.out.1.drew.drew.setPk _, box_off (W := wD.drew.drew) HSD.out.2 (HSD.out.1.drew.drew).s.row (by decide)⟩
          case measure => simp [intOf]; omega
        | some o =>
          obtain ⟨m, hm, hmax⟩ := run_fmax (P := Try.prog) #[22, 22] 22 pk' q (by rw [ho]; intro h; cases h)
          have HM := hid hm
          have hst3 := run_store_f (P := Try.prog) (w := wD.drew) (a := ⟨sb, 5, none⟩) m d5 d7
          clear ho hm
          go_wp2
          go_region
          go_wp2
          go_roundw
          case rel =>
            exact ⟨b + 1, us'.set b r, gs'.set b q, _, by go_num, .inr (by omega), HPt.out.pressing (by omega) (by omega) HR.out HQ.out HM.out, HSD.out.1.drew.setPk _, box_off (W := wD.drew) HSD.out.2 (HSD.out.1.drew).s.row (by decide)⟩
          case measure => simp [intOf]; omega
    · have hge : ¬ (b : Int) < i2 := by omega
      have HE := hid (And.intro hb (And.intro hP (And.intro hS hbox)))
      cases urg with
      | false =>
        clear hb hP hS hbox
        go_wp2
        refine bodyPost_end (results_none rfl _ _ _) rfl ?_
        exact ⟨rfl, HP.out us' gs' pk' b wr (by omega) HE.out.1 HE.out.2.1 HE.out.2.2.1⟩
      | true =>
        have e6 : wr.cell? ⟨sb, 6, none⟩ = some (.int .i64 rc) := hS.s.cell 6
        have e11 : wr.cell? ⟨sb, 11, none⟩ = some (.int .u64 0) := hS.s.cell 11
        have e12 : wr.cell? ⟨sb, 12, none⟩ = some (.int .i64 0) := hS.s.cell 12
        have e13 : wr.cell? ⟨sb, 13, none⟩ = some (.pointer none) := hS.s.cell 13
        obtain ⟨t0, t1, t2⟩ := HCell.out wr hbox
        have f6 : wr.frozen? ⟨sb, 6, none⟩ = false := frozen_sched hS.s 6
        have HQ := hid (show ∀ w1 w2 : World, Below wr.drew.heap.size wr.drew w1 → Below w1.heap.size w1 w2 → w2.cell? ⟨sb, 6, none⟩ = some (.int .i64 rc) ∧ w2.frozen? ⟨sb, 6, none⟩ = false ∧ Stg w (Own sb tv uv gv) sb tv2 (.slice (some ⟨gu, 0, none⟩) L cu) (.slice (some ⟨gg, 0, none⟩) L cg) ts2 us' gs' pk' rc w2 from fun w1 w2 g1 g2 => by
          have q := (hS.drew.below g1).below g2
          exact ⟨q.s.cell 6, frozen_sched q.s 6, q⟩)
        have HQ1 := hid (show ∀ w1 : World, Below wr.drew.heap.size wr.drew w1 → w1.cell? ⟨sb, 6, none⟩ = some (.int .i64 rc) ∧ w1.cell? ⟨sb, 11, none⟩ = some (.int .u64 0) ∧ w1.cell? ⟨sb, 12, none⟩ = some (.int .i64 0) ∧ w1.cell? ⟨sb, 13, none⟩ = some (.pointer none) from fun w1 g1 => by
          have q := (hS.drew.below g1)
          exact ⟨q.s.cell 6, q.s.cell 11, q.s.cell 12, q.s.cell 13⟩)
        clear hb hP hS hbox
        go_wp2
        go_region_with (first
          | (go_at_call 27; refine (HC2.out _).mono ?_; rintro e w1 ⟨rfl, g1⟩; obtain ⟨p6, p11, p12, p13⟩ := HQ1.out w1 g1)
          | (go_at_call 28; refine (HC4.out _).mono ?_; rintro e w2 ⟨rfl, g2⟩; obtain ⟨q6, q7, q8⟩ := HQ.out w1 w2 g1 g2))
        all_goals
          first | (go_wp2; done) | skip
          refine bodyPost_end (results_none rfl _ _ _) rfl ?_
          exact ⟨rfl, HP.out us' gs' pk' b _ (by omega) HE.out.1 HE.out.2.1 (q8.setRc _)⟩
end Go.Proofs.Qxb6604397a
