/-
  Seat b6604397a. FnFleetPlaceThenCancel (6): the law.
-/
import Derived.Test.Qxb6604397aCaF
namespace Go.Proofs.Qxb6604397a
open Go.RowKit

set_option maxRecDepth 100000 in
set_option maxHeartbeats 0 in
theorem main6 (r : Nat) (hr : r < 3) (e l d s : Int) (u : Nat) (w : World) (he : In61 e) (hl : In61 l) (hd : In61 d) (hs : In61 s) {sg : Bool} {m : Nat} {i : Int} (hu : Fin64 u sg m i)
    (k1 : FloatKind.f64.format.order u u = some Ordering.eq) (k2 : (FloatKind.f64.format.order u 9218868437227405311 == some Ordering.gt) = false) (k3 : (FloatKind.f64.format.order u 18442240474082181119 == some Ordering.lt) = false) :
    Calls Try.prog 6 #[.int .i64 r, .int .i64 e, .int .i64 l, .int .i64 d, .int .i64 s, .float .f64 u] w fun q w' => q = .returned (.bool true) ∧ Below w.heap.size w w' := by
  have h0 : ¬ (r : Int) < 0 := by omega
  have h3 : ¬ (r : Int) ≥ 3 := by omega
  obtain ⟨n, hn⟩ : ∃ n, n = w.heap.size := ⟨_, rfl⟩
  have HT := hid (show ∀ (x : Int) (W : World), In61 x → Calls Try.prog 11 #[.int .i64 x] W fun q w' => q = .returned (.bool true) ∧ w' = W from fun x W hx => by
    have := inTime11 x W
    rw [decide_eq_true hx] at this
    exact this)
  have HE := hid (And.intro he (And.intro hl (And.intro hd hs)))
  have H12 := hid (show Calls Try.prog 12 #[] w fun q w' => q = .returned (.pointer (some ⟨n + 1 + 1 + 1 + 1, 0, none⟩)) ∧ FleetSt n w' (fun _ => SD.nil) ∧ Below w.heap.size w w' from by
    rw [hn]
    refine (fleet12 w).mono ?_
    rintro q w' ⟨rfl, hf⟩
    exact ⟨rfl, FleetSt.fresh hf, hf.b⟩)
  have H14 := hid (show ∀ W : World, Calls Try.prog 14 #[.int .i64 e, .int .i64 l, .int .i64 d] W fun q w' => q = .returned (.agg #[.int .u64 (e % 1000000000), .int .i64 (e / 1000000000), .pointer none, .int .u64 (l % 1000000000), .int .i64 (l / 1000000000), .pointer none, .int .i64 d]) ∧ Below W.heap.size W w' from fun W => job14 e l d W he hl)
  have H15 := hid (show ∀ W : World, Calls Try.prog 15 #[.int .i64 s] W fun q w' => q = .returned (.agg #[.int .u64 (s % 1000000000), .int .i64 (s / 1000000000), .pointer none]) ∧ Below W.heap.size W w' from fun W => by
    have := at15 s W (by have := hs.1; omega) (by have := hs.2; omega)
    rw [tm_cells] at this
    exact this)
  have H13 := hid (show ∀ (W : World) (x : Nat → SD) (v : Nat), FleetSt n W x → (x r).ts.length ≤ 900000 → Sorted (x r).ts → (x r).us.length = (x r).ts.length → (x r).gs.length = (x r).ts.length →
      Calls Try.prog 13 #[.pointer (some ⟨n + 1 + 1 + 1 + 1, 0, none⟩), .int .i64 r, .agg #[.int .u64 (e % 1000000000), .int .i64 (e / 1000000000), .pointer none, .int .u64 (l % 1000000000), .int .i64 (l / 1000000000), .pointer none, .int .i64 d], .agg #[.int .u64 (s % 1000000000), .int .i64 (s / 1000000000), .pointer none], .float .f64 v] W
        fun q w' => q = .returned (.agg #[.int .i64 r, .int .u64 (s % 1000000000), .int .i64 (s / 1000000000), .pointer none, .int .u64 ((s + d) % 1000000000), .int .i64 ((s + d) / 1000000000), .pointer none, .bool (decide (l < s + d))]) ∧ ∃ y, PlaceF n W x r s d v (decide (l - e - d = 0)) w' y from fun W x v hx q1 q2 q3 q4 => by
    have := placeF hx hr (u := v) q1 q2 q3 q4 he hl hd hs
    rw [tm_cells] at this
    exact this)
  have H16 := hid (show ∀ W : World, Calls Try.prog 16 #[.agg #[.int .u64 (s % 1000000000), .int .i64 (s / 1000000000), .pointer none]] W fun q w' => q = .returned (.int .i64 s) ∧ Below W.heap.size W w' from fun W => by
    have := ns16 s W (by have := hs.1; omega) (by have := hs.2; omega)
    rw [tm_cells] at this
    exact this)
  have H16' := hid (show ∀ W : World, Calls Try.prog 16 #[.agg #[.int .u64 ((s + d) % 1000000000), .int .i64 ((s + d) / 1000000000), .pointer none]] W fun q w' => q = .returned (.int .i64 (s + d)) ∧ Below W.heap.size W w' from fun W => by
    have := ns16 (s + d) W (by have := hs.1; have := hd.1; omega) (by have := hs.2; have := hd.2; omega)
    rw [tm_cells] at this
    exact this)
  have HU := hid hu
  have HR := hid hr
  have HNn := hid hn
  clear he hl hd hs hu hr hn
  generalize e % 1000000000 = en at *
  generalize e / 1000000000 = es at *
  generalize l % 1000000000 = ln at *
  generalize l / 1000000000 = ls at *
  generalize s % 1000000000 = sn at *
  generalize s / 1000000000 = ss at *
  generalize (s + d) % 1000000000 = xn at *
  generalize (s + d) / 1000000000 = xs at *
  go_enter Try.func6, Try.ntmps6
  go_upto_region 9 with (first
      | (go_at_call_has 11 (e); refine (HT.out _ _ HE.out.1).mono ?_; rintro q w1 ⟨rfl, hw⟩; subst w1)
      | (go_at_call_has 11 (l); refine (HT.out _ _ HE.out.2.1).mono ?_; rintro q w1 ⟨rfl, hw⟩; subst w1)
      | (go_at_call_has 11 (d); refine (HT.out _ _ HE.out.2.2.1).mono ?_; rintro q w1 ⟨rfl, hw⟩; subst w1)
      | (go_at_call_has 11 (s); refine (HT.out _ _ HE.out.2.2.2).mono ?_; rintro q w1 ⟨rfl, hw⟩; subst w1)
      | (go_at_call 12; refine H12.out.mono ?_; rintro q w1 ⟨rfl, hf1, hb1⟩)
      | (go_at_call 14; refine (H14.out _).mono ?_; rintro q w2 ⟨rfl, hb2⟩))
  have hF2 := (hf1.below hb2).alloc (.cells #[.int .u64 en, .int .i64 es, .pointer none, .int .u64 ln, .int .i64 ls, .pointer none, .int .i64 d] 46)
  have hJ2 := Hold.new (hf1.below hb2) (.cells #[.int .u64 en, .int .i64 es, .pointer none, .int .u64 ln, .int .i64 ls, .pointer none, .int .i64 d] 46)
  have hB2 : Below n w (w2.alloc (.cells #[.int .u64 en, .int .i64 es, .pointer none, .int .u64 ln, .int .i64 ls, .pointer none, .int .i64 d] 46)) := by
    have := HNn.out
    have q1 := hb1.size
    exact ((hb1.mono (by omega)).trans (hb2.mono (by omega))).alloc (by have := hb2.size; omega) _
  obtain ⟨B14, hB14⟩ : ∃ B, w2.heap.size = B := ⟨_, rfl⟩
  rw [hB14] at hJ2 ⊢
  clear hf1 hb1 hb2
  generalize w2.alloc (.cells #[.int .u64 en, .int .i64 es, .pointer none, .int .u64 ln, .int .i64 ls, .pointer none, .int .i64 d] 46) = W2 at *
  clear hB14 w2 w1
  have HN2 := hid (show n ≤ W2.heap.size from by have := hF2.flt_lt; omega)
  have HC7 := hid (show ∀ (W : World) (x : Nat → SD), Hold n x W B14 (.cells #[.int .u64 en, .int .i64 es, .pointer none, .int .u64 ln, .int .i64 ls, .pointer none, .int .i64 d] 46 (0, 0)) → (W.cell? ⟨B14, 0, none⟩ = some (.int .u64 en) ∧ W.cell? ⟨B14, 1, none⟩ = some (.int .i64 es) ∧ W.cell? ⟨B14, 2, none⟩ = some (.pointer none) ∧ W.cell? ⟨B14, 3, none⟩ = some (.int .u64 ln) ∧ W.cell? ⟨B14, 4, none⟩ = some (.int .i64 ls) ∧ W.cell? ⟨B14, 5, none⟩ = some (.pointer none) ∧ W.cell? ⟨B14, 6, none⟩ = some (.int .i64 d)) from fun W x hx => by
    obtain ⟨q0, q1, q2, q3, q4, q5, q6, -⟩ := row7 hx.at_
    exact ⟨q0, q1, q2, q3, q4, q5, q6⟩)
  obtain ⟨c0, c1, c2, c3, c4, c5, c6⟩ := HC7.out _ _ hJ2
  have HJ2 := hid hJ2
  have HP2 := hid (Pre.start hF2 hB2)
  clear hJ2 hF2 hB2
  generalize hlate : decide (l < s + d) = late at *
  generalize hurg : decide (l - e - d = 0) = urg at *
  have H15x := hid (show ∀ (x : Nat → SD) (W0 W : World), Pre n w x W0 W → Hold n x W0 B14 (.cells #[.int .u64 en, .int .i64 es, .pointer none, .int .u64 ln, .int .i64 ls, .pointer none, .int .i64 d] 46 (0, 0)) → Calls Try.prog 15 #[.int .i64 s] W fun q w' => q = .returned (.agg #[.int .u64 sn, .int .i64 ss, .pointer none]) ∧ Pre n w x W0 w' ∧ Hold n x w' B14 (.cells #[.int .u64 en, .int .i64 es, .pointer none, .int .u64 ln, .int .i64 ls, .pointer none, .int .i64 d] 46 (0, 0)) ∧ Below W.heap.size W w' from fun x W0 W f h => by
    refine (H15.out W).mono ?_
    rintro q w' ⟨rfl, hb⟩
    exact ⟨rfl, f.below hb, (f.c _ _ h).below hb, hb⟩)
  have H13a := hid (fun (W0 W : World) (q : Pre n w (fun _ => SD.nil) W0 W) => H13.out W _ u q.st (Nat.zero_le _) (fun i j _ h => absurd h (Nat.not_lt_zero _)) rfl rfl)
  have lt2 := HJ2.out.lt
  go_cut [15] (fun b W => Placed n w (fun _ => SD.nil) W2 r s d u urg (.cells #[.int .i64 r, .int .u64 sn, .int .i64 ss, .pointer none, .int .u64 xn, .int .i64 xs, .pointer none, .bool late] 42 (0, 0)) b W)
  case first =>
    go_region_with (first
      | (go_at_call 15; with_reducible refine (H15x.out _ W2 W2.drew HP2.out.drew HJ2.out).mono ?_; rintro q w3 ⟨rfl, p3, x3, hb3⟩; obtain ⟨d0, d1, d2, d3, d4, d5, d6⟩ := HC7.out _ _ x3; have lt3 := x3.lt)
      | (go_at_call 15; with_reducible refine (H15x.out _ W2 (W2.alloc _).drew (HP2.out.alloc _).drew HJ2.out).mono ?_; rintro q w3 ⟨rfl, p3, x3, hb3⟩; obtain ⟨d0, d1, d2, d3, d4, d5, d6⟩ := HC7.out _ _ x3; have lt3 := x3.lt; have z3 := (Hold.new HP2.out.st _).drew.below hb3)
      | (go_at_call 13; with_reducible refine (H13a.out W2 w3 p3).mono ?_; rintro q w4 ⟨rfl, y, hP⟩; (first | (have z4 := z3.place HR.out hP; obtain ⟨y0, y1, y2, y3, y4, y5, y6, y7, y8⟩ := row8 z4.at_; have R := hid (Placed.old (a0 := .int .i64 r) (a1 := .int .u64 sn) (a2 := .int .i64 ss) (a3 := .pointer none) (a4 := .int .u64 xn) (a5 := .int .i64 xs) (a6 := .pointer none) (a7 := .bool late) HR.out p3 hP z4 (Nat.le_refl _) HN2.out)) | (have R := hid (Placed.new HR.out p3 hP (.cells #[.int .i64 r, .int .u64 sn, .int .i64 ss, .pointer none, .int .u64 xn, .int .i64 xs, .pointer none, .bool late] 42 (0, 0))))))
      | (go_at_call 13; with_reducible refine (H13a.out W2 (w3.alloc _) (p3.alloc _)).mono ?_; rintro q w4 ⟨rfl, y, hP⟩; have z4 := (Hold.new p3.st _).place HR.out hP; obtain ⟨y0, y1, y2, y3, y4, y5, y6, y7, y8⟩ := row8 z4.at_; have R := hid (Placed.old (a0 := .int .i64 r) (a1 := .int .u64 sn) (a2 := .int .i64 ss) (a3 := .pointer none) (a4 := .int .u64 xn) (a5 := .int .i64 xs) (a6 := .pointer none) (a7 := .bool late) HR.out (p3.alloc _) hP z4 p3.size HN2.out)))
    all_goals go_wp2_with fail
    all_goals go_meet
    all_goals exact R.out
  case rest =>
    obtain ⟨B15, y1, rfl, hst1, hJ15, hF4, hB4, hc4, hsz4⟩ := hcut
    rename_i K hK
    exact hK _ _ (rest10 r e l d s u w wc n en es ln ls sn ss xn xs late urg B14 B15 y1 HR HNn HE HU k1 hlate hurg H15 H13 H16 H16' hst1 (hc4 _ _ HJ2.out) hJ15 hF4 hB4 _ _ _ _ _ _ _ _ _ _ _ _ _ _ _ _ _ _ _ _ _ _ _ _ _ _ _ _ _ _ _ _ _ _ _ _ _ _ _ _ _ _ _ _ _ _ _ _ _ _ _ _ _ _ _ _ _ _ _ _ _ _ _ _ _ _ _ _ _ _ _ _ _ _ _ _ _ _ _ _ _ _ _ _ _ _ _ _ _ _ _ _ _ _ _ _ _ _ _ _ _ _ _ _ _ _ _ _ _ _ _ _ _ _ _ _ _ _ _ _ _ _ _ _ _ _ _ _ _ _ _ _ _ _ _ _ _ _ _ _ _ _ _ _ _ _ _ _ _ _ _ _ _ _ _ _ _ _ _ _ _ _ _ _ _ _ _ _ _ _ _ _ _ _ _ _ _ _ _ _ _ _ _ _ _ _ _ _ _ _ _ _ _ _ _ _ _ _ _ _ _ _ _ _ _ _ _ _ _ _ _ _ )
end Go.Proofs.Qxb6604397a
