/-
  Seat b6604397a. (*schedule).split (44): the walk.
-/
import Derived.Test.Qxb6604397aScB
import Derived.Sort.AtCall
import Derived.BigQuiet
namespace Go.Proofs.Qxb6604397a
open Go.RowKit

set_option maxRecDepth 100000 in
set_option maxHeartbeats 4000000 in
theorem split44 (sb : Nat) (tv uv gv : Value) (ts : List Int) (us gs : List Nat) (pk : Nat) (rc : Int) (t : Int) (w : World) (hn : ts.length ≤ 1000000) (hs : Sorted ts) (hu : us.length = ts.length) (hg : gs.length = ts.length) (h : Sched w sb tv uv gv ts us gs pk rc) :
    Calls Try.prog 44 #[.pointer (some ⟨sb, 0, none⟩), .agg (tm t)] w fun e w' => SplitPost sb tv uv gv ts us gs pk rc t w e w' := by
  obtain ⟨tn, htn⟩ : ∃ z, z = t % 1000000000 := ⟨_, rfl⟩
  obtain ⟨tsec, hts⟩ : ∃ z, z = t / 1000000000 := ⟨_, rfl⟩
  have e1 : tm t = #[.int .u64 tn, .int .i64 tsec, .pointer none] := by rw [tm_cells, htn, hts]
  have HT := hid (show tmL t = [.int .u64 tn, .int .i64 tsec, .pointer none] by rw [tmL, htn, hts])
  have HB := hid (show ∀ W : World, Sched W sb tv uv gv ts us gs pk rc → Calls Try.prog 46 #[tv, .agg #[.int .u64 tn, .int .i64 tsec, .pointer none], .func (.func 47) #[] #[]] W fun e w' => BsPost ts ts.length t e ∧ Below W.heap.size W w' from fun W hW => by
    have := bsAny hW.t hs hn t
    rw [e1] at this
    exact this)
  have hsb : sb < w.heap.size := h.lt (.inl rfl)
  have c1 : w.cell? ⟨sb, 1, none⟩ = some tv := h.cell 1
  have f1 : tv.oneCell' = true := by
    rcases h.t.2 with ⟨rfl, _⟩ | ⟨_, _, _, rfl, _⟩ <;> rfl
  have HS := hid h
  have HA := hid (h.below (B := w.heap.size) (((Below.refl w.heap.size w).alloc (Nat.le_refl _) (.cells #[.int .u64 tn, .int .i64 tsec, .pointer none] 40)).drew) (Nat.le_refl _))
  have HN := hid (show Sorted ts ∧ us.length = ts.length ∧ gs.length = ts.length ∧ ts.length ≤ 1000000 from ⟨hs, hu, hg, hn⟩)
  have HK := hid (show ∀ w1, Below (w.alloc (.cells #[.int .u64 tn, .int .i64 tsec, .pointer none] 40)).drew.heap.size (w.alloc (.cells #[.int .u64 tn, .int .i64 tsec, .pointer none] 40)).drew w1 → w1.cell? ⟨sb, 1, none⟩ = some tv ∧ w1.cell? ⟨w.heap.size, 0, none⟩ = some (.int .u64 tn) ∧ w1.cell? ⟨w.heap.size, 1, none⟩ = some (.int .i64 tsec) ∧ w1.cell? ⟨w.heap.size, 2, none⟩ = some (.pointer none) from fun w1 hb => by
    have hh : w1.heap[w.heap.size]? = some (Obj.cells #[.int .u64 tn, .int .i64 tsec, .pointer none] 40) := (hb.block w.heap.size (by simp)).trans (heap_alloc_new w _)
    exact ⟨(HA.out.below hb (Nat.le_refl _)).cell 1, cell_of_row w1 _ _ _ 40 (0, 0) hh, cell_of_row w1 _ _ _ 40 (0, 0) hh, cell_of_row w1 _ _ _ 40 (0, 0) hh⟩)
  rw [e1]
  clear e1 htn hts hs hu hg hn h
  go_enter Try.func44, Try.ntmps44
  go_wp2
  go_region_held3 (fun w' => w'.cell? ⟨sb, 1, none⟩ = some tv ∧ w'.cell? ⟨w.heap.size, 0, none⟩ = some (.int .u64 tn) ∧ w'.cell? ⟨w.heap.size, 1, none⟩ = some (.int .i64 tsec) ∧ w'.cell? ⟨w.heap.size, 2, none⟩ = some (.pointer none)) (first | go_keep | exact ⟨k1, k2, k3, k4⟩)
    ((go_at_call 46; refine (HB.out _ HA.out).mono ?_; rintro e w1 ⟨⟨i, f, rfl, hf⟩, hb1⟩; obtain ⟨k1, k2, k3, k4⟩ := HK.out w1 hb1))
  have hS0 : Stg w (Own sb tv uv gv) sb tv uv gv ts us gs pk rc w1 := (((Stg.start HS.out).alloc _).drew).below hb1
  have HF := hid hf
  have HZ := hid hS0
  have hi : i ≤ ts.length := hf.le
  clear hf
  cases f with
  | true =>
    go_wp2
    go_ret
    exact ⟨i, true, tv, uv, gv, rfl, HF.out, HZ.out.s, HZ.out.o, HZ.out.k⟩
  | false =>
    have H7 := hid (fun W (q : Stg w (Own sb tv uv gv) sb tv uv gv ts us gs pk rc W) bk hb => insStageT q HN.out.2.2.2 i hi t _ _ _ HT.out bk hb)
    have hsw : sb < w1.heap.size := HZ.out.s.lt (.inl rfl)
    have hww : w.heap.size < w1.heap.size := by have := hb1.size; simp at this; omega
    clear hS0
    rcases Nat.eq_zero_or_pos i with h0 | hp
    · subst h0
      go_wp2
      go_region_with (go_at_call 48; refine (H7.out _ HZ.out.drew _ (by simp)).mono ?_; rintro e w2 ⟨g1, p1, rfl, hS1, d1, d2, d3, d4⟩)
      all_goals
        go_wp2_with (first
          | (go_at_call_has 49 (uv); refine (insStageU hS1 (Nat.le_trans (Nat.le_of_eq HN.out.2.1) HN.out.2.2.2) 0 (Nat.zero_le _) 0 _ (by simp)).mono ?_; rintro e w3 ⟨g2, p2, rfl, hS2, d5, d6, d7⟩)
          | (go_at_call_has 49 (gv); refine (insStageG hS2 (Nat.le_trans (Nat.le_of_eq HN.out.2.2.1) HN.out.2.2.2) 0 (Nat.zero_le _) 0 _ (by simp)).mono ?_; rintro e w4 ⟨g3, p3, rfl, hS3, d8, d9⟩))
        go_ret
        exact ⟨0, false, _, _, _, rfl, HF.out, hS3.s, hS3.o, hS3.k⟩
    · obtain ⟨k, rfl⟩ : ∃ k, i = k + 1 := ⟨i - 1, by omega⟩
      have hlu := HN.out.2.1
      have hlg := HN.out.2.2.1
      have hln := HN.out.2.2.2
      have q0 := HZ.out.s
      have hU := q0.u
      have hG := q0.g
      rcases hU.2 with ⟨_, h0⟩ | ⟨gu, cu, curu, rfl, _, hhu, hncu, hcmu, hcsu, htku⟩
      · omega
      rcases hG.2 with ⟨_, h0⟩ | ⟨gg, cg, curg, rfl, _, hhg, hncg, hcmg, hcsg, htkg⟩
      · omega
      obtain ⟨x, hx⟩ : ∃ x, x = us.getD k 0 := ⟨_, rfl⟩
      obtain ⟨y, hy⟩ : ∃ y, y = gs.getD k 0 := ⟨_, rfl⟩
      have m2 : w1.cell? ⟨sb, 2, none⟩ = some (.slice (some ⟨gu, 0, none⟩) us.length cu) := q0.cell 2
      have m3 : w1.cell? ⟨sb, 3, none⟩ = some (.slice (some ⟨gg, 0, none⟩) gs.length cg) := q0.cell 3
      have m4 : w1.cell? ⟨gu, k, none⟩ = some (.float .f64 x) := by
        rw [hU.cellAt k (by omega), hx]; simp [fRow, show k < us.length by omega]
      have m5 : w1.cell? ⟨gg, k, none⟩ = some (.float .f64 y) := by
        rw [hG.cellAt k (by omega), hy]; simp [fRow, show k < gs.length by omega]
      have b1 : (k : Int) < us.length := by omega
      have b2 : (k : Int) < gs.length := by omega
      have b3 : IntKind.i64.wrap (k : Int) = k := by
        simp only [IntKind.wrap, IntKind.bits, IntKind.signed]; simp; omega
      have HX := hid hx
      have HY := hid hy
      clear hx hy hU hG q0 hhu hhg hncu hncg hcmu hcmg hcsu hcsg htku htkg hlu hlg hln hi
      go_wp2
      go_quiet (fail)
      go_wp2
      have z1 : (w1.drewN nq).cell? ⟨sb, 1, none⟩ = some tv := k1
      have z2 : (w1.drewN nq).cell? ⟨w.heap.size, 0, none⟩ = some (.int .u64 tn) := k2
      have z3 : (w1.drewN nq).cell? ⟨w.heap.size, 1, none⟩ = some (.int .i64 tsec) := k3
      have z4 : (w1.drewN nq).cell? ⟨w.heap.size, 2, none⟩ = some (.pointer none) := k4
      have z5 : sb < (w1.drewN nq).heap.size := hsw
      have z6 : w.heap.size < (w1.drewN nq).heap.size := hww
      have HW := hid (HZ.out.below (below_drewN (Below.refl _ _) nq))
      generalize w1.drewN nq = W at z1 z2 z3 z4 z5 z6 HW ⊢
      clear k1 k2 k3 k4 hsw hww m2 m3 m4 m5 c1
      go_region_with (go_at_call 48; refine (H7.out _ HW.out.drew _ (by simp)).mono ?_; rintro e w2 ⟨g1, p1, rfl, hS1, d1, d2, d3, d4⟩)
      all_goals
        go_wp2_with (first
          | (go_at_call_has 49 (gu); refine (insStageU hS1 (Nat.le_trans (Nat.le_of_eq HN.out.2.1) HN.out.2.2.2) (k + 1) (Nat.le_trans HF.out.le (Nat.le_of_eq HN.out.2.1.symm)) x _ (by simp)).mono ?_; rintro e w3 ⟨g2, p2, rfl, hS2, d5, d6, d7⟩)
          | (go_at_call_has 49 (gg); refine (insStageG hS2 (Nat.le_trans (Nat.le_of_eq HN.out.2.2.1) HN.out.2.2.2) (k + 1) (Nat.le_trans HF.out.le (Nat.le_of_eq HN.out.2.2.1.symm)) y _ (by simp)).mono ?_; rintro e w4 ⟨g3, p3, rfl, hS3, d8, d9⟩))
        go_ret
        refine ⟨k + 1, false, _, _, _, rfl, HF.out, ?_, hS3.o, hS3.k⟩
        have := hS3.s
        rw [HX.out, HY.out] at this
        exact this
end Go.Proofs.Qxb6604397a
