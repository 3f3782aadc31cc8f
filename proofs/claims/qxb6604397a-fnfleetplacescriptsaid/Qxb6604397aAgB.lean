/-
  Seat b6604397a. zzRegionAgrees (17): the walk.
-/
import Derived.Test.Qxb6604397aAgC
namespace Go.Proofs.Qxb6604397a
open Go.RowKit

/-- What the first loop leaves. -/
def Gathered (r : Int) (cs : List PC) (N0 : Nat) (W0 : World) (n : Nat) (a b : Value) (W : World) : Prop :=
  ∃ xs : List Int, b = .int .i64 (reach (jobsOf r cs)) ∧ Pts r cs N0 W0 n a xs W

set_option maxRecDepth 100000 in
set_option maxHeartbeats 0 in
theorem agrees17 (fn r : Nat) (x : Nat → SD) (cs : List PC) (pa : Option Addr) (cap : Nat) (W0 : World) (hst : FleetSt fn W0 x) (hr : r < 3) (hcs : cs.length ≤ 1024) (hin : ∀ c ∈ cs, InB c)
    (hrow : 0 < cs.length → ∃ cb, pa = some ⟨cb, 0, none⟩ ∧ CRow W0 cb cs) (hI : Inv (jobsOf r cs) (x r).ts (x r).us (x r).gs (x r).rc) (hpk : PeakOf (Vals (jobsOf r cs)) (x r).pk) :
    Calls Try.prog 17 #[.pointer (some ⟨fn + 1 + 1 + 1 + 1, 0, none⟩), .int .i64 r, .slice pa cs.length cap] W0 fun q w' => q = .returned (.bool true) ∧ Below W0.heap.size W0 w' := by
  obtain ⟨n, hn⟩ : ∃ n, n = cs.length := ⟨_, rfl⟩
  obtain ⟨N0, hN0⟩ : ∃ N, N = W0.heap.size := ⟨_, rfl⟩
  rw [← hn]
  have HW := hid (show ∀ j : Nat, j ≤ 1000000 → IntKind.i64.wrap (j : Int) = j from fun j hj => by
    simp only [IntKind.wrap, IntKind.bits, IntKind.signed]; simp; omega)
  have HH := hid (And.intro hst (And.intro hr (And.intro hcs (And.intro hin (And.intro hrow (And.intro hI (And.intro hpk (And.intro hn hN0))))))))
  obtain ⟨ti, hti, hz0, hz1, hz2⟩ := info_parts info2
  obtain ⟨w1, hmk, hown1, hgr1⟩ := run_make_own (P := Try.prog) W0 0 51 2 ti (.int .i64 0) 1 Try.underlying51 hti hz0 hz1 .i64 .i64 (2 * n) (by rw [hz2]; omega) (by unfold maxLen; omega) (Nat.zero_le _)
  have b1 : Below N0 W0 w1 := ⟨hgr1.os, hgr1.tape, hgr1.output, hgr1.size, fun k hk => hgr1.block k (by omega) (fun h => by cases h)⟩
  have HP1 := hid (show Pts r cs N0 W0 0 (.slice (some ⟨W0.heap.size, 0, none⟩) 0 (2 * n)) [] w1 from
    ⟨hown1, fun b hb => by have : W0.heap.size = b := Option.some.inj hb; omega, fun i j _ h => absurd h (Nat.not_lt_zero _), fun z => by simp [jobsOf_nil], Nat.zero_le _, b1⟩)
  have h2n : IntKind.i64.wrap (2 * (n : Int)) = 2 * n := by have := HW.out (2 * n) (by omega); simpa using this
  replace hmk : (Instr.makeSlice 51 (.int .i64 0) (.int .i64 (2 * (n : Int)))).run Try.prog W0 = .ok (.slice (some ⟨W0.heap.size, 0, none⟩) 0 (2 * n)) w1 := by
    have := hmk; simpa using this
  clear hst hr hcs hin hrow hI hpk hn hN0 hown1 hgr1 hti hz0 hz1 hz2 b1
  go_enter Try.func17, Try.ntmps17
  go_upto_block 0 with fail
  go_cut [7, 8] (fun a b W => Gathered r cs N0 W0 n a b W)
  case rest =>
    obtain ⟨xs, rfl, hP⟩ := hcut
    rename_i K hK
    exact hK _ _ (rest13 fn r x cs pa cap n N0 W0 wc _ xs HH (hid hP) _ _ _ _ _ _ _ _ _ _ _ _ _ _ _ _ _ _ _ _ _ _ _ _ _ _ _ _ _ _ _ _ _ _ _ _ _ _ _ _ _ _ _ _ _ _ _ _ _ _ _ _ _ _ _ _ _ _ _ _ _ _ _ _ _ _ _ _ _ _ _ _ _ _ _ _ _ _ _ _ _ _ _ _ _ _ _ _ _ _ _ _ _ _ _ _ _ _ _ _ _ _ _ _ _ _ _ _ _ _ _ _ _ _ _ _ _ _ _ _ _ _ _ _ _ _ _ _ _ _ _ _ _ _ _ _ _ _ _ _ _ _ _ _ _ _ _ _ _ _ _ _ _ _ _ _ _ _ _ _ _ _ _ _ _ _ _ _ _ _ _ _ )
  case first =>
    go_wp2
    go_loopw [7, 8, 9] (fun x7 x8 x9 wr => Gather r cs N0 W0 x7 x8 x9 wr) (fun _ _ x9 _ => n - (intOf x9).toNat)
    case atStart => exact ⟨0, [], rfl, Nat.zero_le _, rfl, HP1.out⟩
    case round =>
      obtain ⟨k, xs, rfl, hkn, rfl, hP⟩ := hrel
      obtain ⟨hst, hr, hcs, hin, hrow, hI, hpk, hn, hN0⟩ := HH.out
      have hNw : N0 ≤ wr.heap.size := by have := hP.b.size; omega
      by_cases hk : k < n
      · obtain ⟨cb, rfl, hcr⟩ := hrow (by omega)
        have hcw : CRow wr cb cs := hcr.below (hN0 ▸ hP.b)
        obtain ⟨a0, a1, a2, a3, a4, a5⟩ := hcw.c k (by omega)
        have hcm : cs.getD k pc0 ∈ cs := by
          have : cs.getD k pc0 = cs[k]'(by omega) := by simp [show k < cs.length by omega]
          rw [this]; exact List.getElem_mem _
        have hib := hin _ hcm
        have hkI : (k : Int) < n := by omega
        have hwk : IntKind.i64.wrap ((k : Int) + 1) = k + 1 := by have := HW.out (k + 1) (by omega); simpa using this
        have hj := jobsOf_succ r cs (show k < cs.length by omega)
        have hxl : xs.length ≤ 2048 := by have := hP.len; omega
        obtain ⟨c, hc⟩ : ∃ c, c = cs.getD k pc0 := ⟨_, rfl⟩
        rw [← hc] at a0 a1 a2 a3 a4 a5 hib hj
        have HC := hid hc
        have HK := hid (show k < cs.length by omega)
        obtain ⟨rch, hrch⟩ : ∃ z, z = reach (jobsOf r (cs.take k)) := ⟨_, rfl⟩
        rw [← hrch]
        have HRch := hid hrch
        clear hc hcm hcw hcr hI hpk hst hin hrow hn hN0 hcs hrch
        have hsf := store5 (P := Try.prog) wr (.int .i64 c.r) (.int .i64 c.e) (.int .i64 c.l) (.int .i64 c.d) (.int .i64 c.s) c.u
        by_cases hreg : c.r = r
        · have HJ := hid (hj.trans (by rw [if_pos hreg]))
          have HR := hid (And.intro hP hreg)
          have hrb : (c.r != (r : Int)) = false := by simp; exact hreg
          have h1 := hib.s
          have h2 := hib.d
          unfold In61 at h1 h2
          have hwe : IntKind.i64.wrap (c.s + c.d) = c.s + c.d := wrap_i64 (by omega) (by omega)
          have HU := hid (fun W => urgent29 c.r c.e c.l c.d c.s c.u W hib.e hib.l)
          obtain ⟨Wc, hWc⟩ : ∃ W, W = wr.alloc (.cells #[.int .i64 c.r, .int .i64 c.e, .int .i64 c.l, .int .i64 c.d, .int .i64 c.s, .float .f64 c.u] 34) := ⟨_, rfl⟩
          have hbA : Below wr.heap.size wr Wc := by rw [hWc]; exact (Below.refl _ _).alloc (Nat.le_refl _) _
          have hszc : Wc.heap.size = wr.heap.size + 1 := by rw [hWc]; simp
          have hhc : Wc.heap[wr.heap.size]? = some (.cells #[.int .i64 c.r, .int .i64 c.e, .int .i64 c.l, .int .i64 c.d, .int .i64 c.s, .float .f64 c.u] 34 (0, 0)) := by rw [hWc]; exact heap_alloc_new _ _
          have HI1 := hid (ins18N c.s (by omega) hP.sorted (owns_of_block hP.own fun b hb => hbA.block b (hP.own.lt b hb).2) hP.new (hP.b.trans (hbA.mono hNw)) (by omega))
          have HI2 := hid (fun (W : World) (v1 : Value) (i : Nat) (f : Bool) (hf : Found xs xs.length c.s i f) (ho : W.ownsRow 0 2 1 v1 (insT f i c.s xs).length (iRow (insT f i c.s xs))) (hv : ∀ b, v1.ownBlock = some b → N0 ≤ b) (hb : Below N0 W0 W) (hN : N0 ≤ W.heap.size) =>
            ins18N (W := W) (W0 := W0) (c.s + c.d) (by rw [length_insT hf.le]; split <;> omega) (hf.sorted hP.sorted) ho hv hb hN)
          have HB := hid (show ∀ (w2 w3 : World) (v1 : Value), Keep (fun q => u7.ownBlock = some q) Wc w2 → (∀ b, v1.ownBlock = some b → u7.ownBlock = some b ∨ Wc.heap.size ≤ b) → Keep (fun q => v1.ownBlock = some q) w2 w3 →
              w3.cell? ⟨wr.heap.size, 0, none⟩ = some (.int .i64 c.r) ∧ w3.cell? ⟨wr.heap.size, 1, none⟩ = some (.int .i64 c.e) ∧ w3.cell? ⟨wr.heap.size, 2, none⟩ = some (.int .i64 c.l) ∧ w3.cell? ⟨wr.heap.size, 3, none⟩ = some (.int .i64 c.d) ∧ w3.cell? ⟨wr.heap.size, 4, none⟩ = some (.int .i64 c.s) ∧ w3.cell? ⟨wr.heap.size, 5, none⟩ = some (.float .f64 c.u) from fun w2 w3 v1 q1 q2 q3 => by
            have hx7 : ∀ b, u7.ownBlock = some b → b < wr.heap.size := fun b hb => (hP.own.lt b hb).2
            have e1 := (q1.block wr.heap.size (by omega) (fun e => by have := hx7 _ e; omega)).trans hhc
            have e2 := (q3.block wr.heap.size (by have := q1.size; omega) (fun e => by rcases q2 _ e with q | q; (have := hx7 _ q; omega); omega)).trans e1
            exact row6 e2)
          have hNc : N0 ≤ Wc.heap.size := by omega
          rw [hWc] at HI1 HB hNc
          clear hj hib hP hbA h1 h2 hszc hhc hWc hreg
          go_upto_region 11 with (first
            | (go_at_call_has 18 (c.d); refine (HI2.out _ v1 j1 f1 hf1 ho1 hv1 hb1 hN1).mono ?_; rintro q w3 ⟨j2, f2, v2, rfl, hf2, ho2, hv2, hb2, hk2, hn2⟩; obtain ⟨g0, g1, g2, g3, g4, g5⟩ := HB.out _ _ _ hk1 hn1 hk2)
            | (go_at_call_has 18 (c.s); refine HI1.out.mono ?_; rintro q w2 ⟨j1, f1, v1, rfl, hf1, ho1, hv1, hb1, hk1, hn1⟩; have hN1 : N0 ≤ w2.heap.size := Nat.le_trans hNc hk1.size))
          have HP2 := hid (HR.out.1.add HK.out HC.out HR.out.2 hf1 hf2 ho2 hv2 hb2)
          have hN3 : N0 ≤ w3.heap.size := Nat.le_trans hN1 hk2.size
          clear hf1 hf2 ho1 ho2 hv1 hv2 hb1 hb2 hk1 hk2 hn1 hn2 HI1 HI2 HB
          have HFin := hid (show ∀ w4, Below w3.heap.size w3 w4 → Pts r cs N0 W0 (k + 1) v2 (insT f2 j2 (c.s + c.d) (insT f1 j1 c.s xs)) w4 from fun w4 hb4 =>
            ⟨owns_of_block HP2.out.own fun b hb' => hb4.block b (HP2.out.own.lt b hb').2, HP2.out.new, HP2.out.sorted, HP2.out.mem, HP2.out.len, HP2.out.b.trans (hb4.mono hN3)⟩)
          have HRv := hid (show reach (jobsOf r (cs.take (k + 1))) = if decide (c.l - c.e = c.d) then (if c.s + c.d > rch then c.s + c.d else rch) else rch from by
            rw [HJ.out, reach_snoc, HRch.out]; rfl)
          generalize hub : decide (c.l - c.e = c.d) = ub at *
          clear hub
          cases ub with
          | false =>
            go_wp2_with (first
              | (go_at_call 29; refine (HU.out _).mono ?_; rintro q w4 ⟨rfl, hb4⟩))
            go_roundw
            case rel => exact ⟨k + 1, _, by go_num, HK.out, by rw [HRv.out]; simp, HFin.out _ hb4⟩
            case measure => simp [intOf]; omega
          | true =>
            by_cases hgt : c.s + c.d > rch
            · go_wp2_with (first
                | (go_at_call 29; refine (HU.out _).mono ?_; rintro q w4 ⟨rfl, hb4⟩))
              go_roundw
              case rel => exact ⟨k + 1, _, by go_num, HK.out, by rw [HRv.out, if_pos (by simp), if_pos hgt], HFin.out _ hb4⟩
              case measure => simp [intOf]; omega
            · go_wp2_with (first
                | (go_at_call 29; refine (HU.out _).mono ?_; rintro q w4 ⟨rfl, hb4⟩))
              go_roundw
              case rel => exact ⟨k + 1, _, by go_num, HK.out, by rw [HRv.out, if_pos (by simp), if_neg (by omega)], HFin.out _ hb4⟩
              case measure => simp [intOf]; omega
        · have HR := hid (And.intro hP hreg)
          have HJ := hid (hj.trans (by rw [if_neg hreg, List.append_nil]))
          have hrb : (c.r != (r : Int)) = true := by simp; exact hreg
          clear hj hib hP
          go_wp2
          go_roundw
          case rel => exact ⟨k + 1, xs, by go_num, HK.out, by rw [HJ.out, HRch.out], HR.out.1.skip HK.out HC.out HR.out.2 ((Below.refl _ _).alloc (Nat.le_refl _) _) hNw⟩
          case measure => simp [intOf]; omega
      · have hke : k = n := by omega
        have hkI : ¬ (k : Int) < n := by omega
        have hG : Gathered r cs N0 W0 n u7 (.int .i64 (reach (jobsOf r (cs.take k)))) wr := ⟨xs, by rw [hke, hn, jobsOf_all], hke ▸ hP⟩
        have HG := hid hG
        clear hst hr hcs hin hrow hI hpk hn hN0 hP hke hG
        go_wp2
        go_meet
        exact HG.out
end Go.Proofs.Qxb6604397a
