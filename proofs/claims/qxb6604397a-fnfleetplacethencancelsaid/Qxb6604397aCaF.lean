/-
  Seat b6604397a. FnFleetPlaceThenCancel (6): the second placement and what follows (in a declaration of its own).
-/
import Derived.Test.Qxb6604397aCaE
namespace Go.Proofs.Qxb6604397a
open Go.RowKit

noncomputable def tail10 : Code := (Try.f6.body.bind (seqTail 10)).getD .skip

set_option maxRecDepth 1000000 in
set_option maxHeartbeats 0 in
/-- Behind the first placement. -/
theorem rest10 (r : Nat) (e l d s : Int) (u : Nat) (w wc : World) (n : Nat) {sg : Bool} {m : Nat} {i : Int} (en es ln ls sn ss xn xs : Int) (late urg : Bool) (B14 B15 : Nat) (y1 : SD)
    (HR : Hid (r < 3)) (HNn : Hid (n = w.heap.size)) (HE : Hid (In61 e ∧ In61 l ∧ In61 d ∧ In61 s)) (HU : Hid (Fin64 u sg m i)) (k1 : FloatKind.f64.format.order u u = some Ordering.eq) (hlate : decide (l < s + d) = late) (hurg : decide (l - e - d = 0) = urg)
    (H15 : Hid (∀ W : World, Calls Try.prog 15 #[.int .i64 s] W fun q w' => q = .returned (.agg #[.int .u64 sn, .int .i64 ss, .pointer none]) ∧ Below W.heap.size W w'))
    (H13 : Hid (∀ (W : World) (x : Nat → SD) (v : Nat), FleetSt n W x → (x r).ts.length ≤ 900000 → Sorted (x r).ts → (x r).us.length = (x r).ts.length → (x r).gs.length = (x r).ts.length →
      Calls Try.prog 13 #[.pointer (some ⟨n + 1 + 1 + 1 + 1, 0, none⟩), .int .i64 r, .agg #[.int .u64 en, .int .i64 es, .pointer none, .int .u64 ln, .int .i64 ls, .pointer none, .int .i64 d], .agg #[.int .u64 sn, .int .i64 ss, .pointer none], .float .f64 v] W
        fun q w' => q = .returned (.agg #[.int .i64 r, .int .u64 sn, .int .i64 ss, .pointer none, .int .u64 xn, .int .i64 xs, .pointer none, .bool late]) ∧ ∃ y, PlaceF n W x r s d v urg w' y))
    (H16 : Hid (∀ W : World, Calls Try.prog 16 #[.agg #[.int .u64 sn, .int .i64 ss, .pointer none]] W fun q w' => q = .returned (.int .i64 s) ∧ Below W.heap.size W w'))
    (H16' : Hid (∀ W : World, Calls Try.prog 16 #[.agg #[.int .u64 xn, .int .i64 xs, .pointer none]] W fun q w' => q = .returned (.int .i64 (s + d)) ∧ Below W.heap.size W w'))
    (hst1 : StepSD SD.nil y1 s d u urg) (hJ4 : Hold n (upd (fun _ => SD.nil) r y1) wc B14 (.cells #[.int .u64 en, .int .i64 es, .pointer none, .int .u64 ln, .int .i64 ls, .pointer none, .int .i64 d] 46 (0, 0))) (hJ15 : Hold n (upd (fun _ => SD.nil) r y1) wc B15 (.cells #[.int .i64 r, .int .u64 sn, .int .i64 ss, .pointer none, .int .u64 xn, .int .i64 xs, .pointer none, .bool late] 42 (0, 0))) (hF4 : FleetSt n wc (upd (fun _ => SD.nil) r y1)) (hB4 : Below n w wc)
    (u27 u28 u29 u30 u31 u32 u33 u34 u35 u36 u37 u38 u39 u40 u41 u42 u43 u44 u45 u46 u47 u48 u49 u50 u51 u52 u53 u54 u55 u56 u57 u58 u59 u60 u61 u62 u63 u64 u65 u66 u67 u68 u69 u70 u71 u72 u73 u74 u75 u76 u77 u78 u79 u80 u81 u82 u83 u84 u85 u86 u87 u88 u89 u90 u91 u92 u93 u94 u95 u96 u97 u98 u99 u100 u101 u102 u103 u104 u105 u106 u107 u108 u109 u110 u111 u112 u113 u114 u115 u116 u117 u118 u119 u120 u121 u122 u123 u124 u125 u126 u127 u128 u129 u130 u131 u132 u133 u134 u135 u136 u137 u138 u139 u140 u141 u142 u143 u144 u145 u146 u147 u148 u149 u150 u151 u152 u153 u154 u155 u156 u157 u158 u159 u160 u161 u162 u163 u164 u165 u166 u167 u168 u169 u170 u171 u172 u173 u174 u175 u176 u177 u178 u179 u180 u181 u182 u183 u184 u185 u186 u187 u188 u189 u190 u191 u192 u193 u194 u195 u196 u197 u198 u199 u200 u201 u202 u203 u204 u205 u206 u207 u208 u209 u210 u211 u212 u213 u214 u215 u216 u217 u218 u219 u220 u221 u222 u223 u224 u225 u226 u227 u228 u229 u230 u231 u232 u233 u234 u235 u236 u237 u238 : Value) :
    Code.wp Try.prog tail10 (bodyPost Try.prog Try.f6 fun q w' => q = .returned (.bool true) ∧ Below w.heap.size w w') ⟨#[.int .i64 r, .int .i64 e, .int .i64 l, .int .i64 d, .int .i64 s, .float .f64 u, undef, undef, undef, undef, undef, undef, .bool false, .pointer (some ⟨n + 1 + 1 + 1 + 1, 0, none⟩), .pointer (some ⟨B14, 0, none⟩), .pointer (some ⟨B15, 0, none⟩), undef, undef, undef, undef, undef, undef, undef, undef, undef, undef, undef, u27, u28, u29, u30, u31, u32, u33, u34, u35, u36, u37, u38, u39, u40, u41, u42, u43, u44, u45, u46, u47, u48, u49, u50, u51, u52, u53, u54, u55, u56, u57, u58, u59, u60, u61, u62, u63, u64, u65, u66, u67, u68, u69, u70, u71, u72, u73, u74, u75, u76, u77, u78, u79, u80, u81, u82, u83, u84, u85, u86, u87, u88, u89, u90, u91, u92, u93, u94, u95, u96, u97, u98, u99, u100, u101, u102, u103, u104, u105, u106, u107, u108, u109, u110, u111, u112, u113, u114, u115, u116, u117, u118, u119, u120, u121, u122, u123, u124, u125, u126, u127, u128, u129, u130, u131, u132, u133, u134, u135, u136, u137, u138, u139, u140, u141, u142, u143, u144, u145, u146, u147, u148, u149, u150, u151, u152, u153, u154, u155, u156, u157, u158, u159, u160, u161, u162, u163, u164, u165, u166, u167, u168, u169, u170, u171, u172, u173, u174, u175, u176, u177, u178, u179, u180, u181, u182, u183, u184, u185, u186, u187, u188, u189, u190, u191, u192, u193, u194, u195, u196, u197, u198, u199, u200, u201, u202, u203, u204, u205, u206, u207, u208, u209, u210, u211, u212, u213, u214, u215, u216, u217, u218, u219, u220, u221, u222, u223, u224, u225, u226, u227, u228, u229, u230, u231, u232, u233, u234, u235, u236, u237, u238], []⟩ wc := by
  conv => arg 2; whnf
  conv => arg 4; zeta
  have HC7 := hid (show ∀ (W : World) (x : Nat → SD), Hold n x W B14 (.cells #[.int .u64 en, .int .i64 es, .pointer none, .int .u64 ln, .int .i64 ls, .pointer none, .int .i64 d] 46 (0, 0)) → (W.cell? ⟨B14, 0, none⟩ = some (.int .u64 en) ∧ W.cell? ⟨B14, 1, none⟩ = some (.int .i64 es) ∧ W.cell? ⟨B14, 2, none⟩ = some (.pointer none) ∧ W.cell? ⟨B14, 3, none⟩ = some (.int .u64 ln) ∧ W.cell? ⟨B14, 4, none⟩ = some (.int .i64 ls) ∧ W.cell? ⟨B14, 5, none⟩ = some (.pointer none) ∧ W.cell? ⟨B14, 6, none⟩ = some (.int .i64 d)) from fun W x hx => by
    obtain ⟨q0, q1, q2, q3, q4, q5, q6, -⟩ := row7 hx.at_
    exact ⟨q0, q1, q2, q3, q4, q5, q6⟩)
  have H15x := hid (show ∀ (x : Nat → SD) (W0 W : World), Pre n w x W0 W → Hold n x W0 B14 (.cells #[.int .u64 en, .int .i64 es, .pointer none, .int .u64 ln, .int .i64 ls, .pointer none, .int .i64 d] 46 (0, 0)) → Calls Try.prog 15 #[.int .i64 s] W fun q w' => q = .returned (.agg #[.int .u64 sn, .int .i64 ss, .pointer none]) ∧ Pre n w x W0 w' ∧ Hold n x w' B14 (.cells #[.int .u64 en, .int .i64 es, .pointer none, .int .u64 ln, .int .i64 ls, .pointer none, .int .i64 d] 46 (0, 0)) ∧ Below W.heap.size W w' from fun x W0 W f h => by
    refine (H15.out W).mono ?_
    rintro q w' ⟨rfl, hb⟩
    exact ⟨rfl, f.below hb, (f.c _ _ h).below hb, hb⟩)
  have hI1 := hst1.inv Inv.nil
  have HP4 := hid (Pre.start hF4 hB4)
  have HN4 := hid (show n ≤ wc.heap.size from by have := hF4.flt_lt; omega)
  have HJ4 := hid hJ4
  have HJ15 := hid hJ15
  have HST1 := hid hst1
  have hx1 : upd (fun _ => SD.nil) r y1 r = y1 := if_pos rfl
  have H13b := hid (fun (W0 W : World) (q : Pre n w (upd (fun _ => SD.nil) r y1) W0 W) => H13.out W _ (Op.negFloat .f64 u) q.st (by rw [hx1]; have h0 : y1.ts.length ≤ 0 + 2 := hst1.len; omega) (by rw [hx1]; exact hI1.sorted) (by rw [hx1]; exact hI1.lenU) (by rw [hx1]; exact hI1.lenG))
  obtain ⟨e0, e1, e2, e3, e4, e5, e6⟩ := HC7.out _ _ hJ4
  have lt4 := HJ4.out.lt
  clear hst1 hJ15 hF4 hB4 hI1 hJ4 hx1
  have hneg : Op.unary .neg (.float .f64 u) = pure (.float .f64 (Op.negFloat .f64 u)) := rfl
  go_upto_region 10 with fail
  go_cut [16] (fun b W => Placed n w (upd (fun _ => SD.nil) r y1) wc r s d (Op.negFloat .f64 u) urg (.cells #[.int .i64 r, .int .u64 sn, .int .i64 ss, .pointer none, .int .u64 xn, .int .i64 xs, .pointer none, .bool late] 42 (0, 0)) b W)
  case first =>
    go_region_with (first
      | (go_at_call 15; with_reducible refine (H15x.out _ wc wc.drew HP4.out.drew HJ4.out).mono ?_; rintro q w3 ⟨rfl, p3, x3, hb3⟩; obtain ⟨d0, d1, d2, d3, d4, d5, d6⟩ := HC7.out _ _ x3; have lt3 := x3.lt)
      | (go_at_call 15; with_reducible refine (H15x.out _ wc (wc.alloc _).drew (HP4.out.alloc _).drew HJ4.out).mono ?_; rintro q w3 ⟨rfl, p3, x3, hb3⟩; obtain ⟨d0, d1, d2, d3, d4, d5, d6⟩ := HC7.out _ _ x3; have lt3 := x3.lt; have z3 := (Hold.new HP4.out.st _).drew.below hb3)
      | (go_at_call 13; with_reducible refine (H13b.out wc w3 p3).mono ?_; rintro q w4 ⟨rfl, y, hP⟩; (first | (have z4 := z3.place HR.out hP; obtain ⟨y0, y1, y2, y3, y4, y5, y6, y7, y8⟩ := row8 z4.at_; have R := hid (Placed.old (a0 := .int .i64 r) (a1 := .int .u64 sn) (a2 := .int .i64 ss) (a3 := .pointer none) (a4 := .int .u64 xn) (a5 := .int .i64 xs) (a6 := .pointer none) (a7 := .bool late) HR.out p3 hP z4 (Nat.le_refl _) HN4.out)) | (have R := hid (Placed.new HR.out p3 hP (.cells #[.int .i64 r, .int .u64 sn, .int .i64 ss, .pointer none, .int .u64 xn, .int .i64 xs, .pointer none, .bool late] 42 (0, 0))))))
      | (go_at_call 13; with_reducible refine (H13b.out wc (w3.alloc _) (p3.alloc _)).mono ?_; rintro q w4 ⟨rfl, y, hP⟩; have z4 := (Hold.new p3.st _).place HR.out hP; obtain ⟨y0, y1, y2, y3, y4, y5, y6, y7, y8⟩ := row8 z4.at_; have R := hid (Placed.old (a0 := .int .i64 r) (a1 := .int .u64 sn) (a2 := .int .i64 ss) (a3 := .pointer none) (a4 := .int .u64 xn) (a5 := .int .i64 xs) (a6 := .pointer none) (a7 := .bool late) HR.out (p3.alloc _) hP z4 p3.size HN4.out)))
    all_goals go_wp2_with fail
    all_goals go_meet
    all_goals exact R.out
  case rest =>
    obtain ⟨B16, y2, rfl, hst2, hJ16, hF6, hB6, hc6, hsz6⟩ := hcut
    rename_i K hK
    exact hK _ _ (rest11 r e l d s u w wc n sn ss xn xs late urg B14 B15 B16 y1 y2 HR HNn HE HU k1 hlate hurg H16 H16' HST1 hst2 (hc6 _ _ HJ15.out) hJ16 hF6 hB6 _ _ _ _ _ _ _ _ _ _ _ _ _ _ _ _ _ _ _ _ _ _ _ _ _ _ _ _ _ _ _ _ _ _ _ _ _ _ _ _ _ _ _ _ _ _ _ _ _ _ _ _ _ _ _ _ _ _ _ _ _ _ _ _ _ _ _ _ _ _ _ _ _ _ _ _ _ _ _ _ _ _ _ _ _ _ _ _ _ _ _ _ _ _ _ _ _ _ _ _ _ _ _ _ _ _ _ _ _ _ _ _ _ _ _ _ _ _ _ _ _ _ _ _ _ _ _ _ _ _ _ _ _ _ _ _ _ _ _ _ _ _ _ _ _ _ _ _ _ _ _ _ _ _ _ _ _ _ _ _ _ _ _ _ _ _ _ _ _ _ _ _ _ _ _ _ _ _ _ _ _ _ _ _ _ _ _ _ _ _ _ _ _ _ _ _ _ _ _ _ _ _ _ _ _ _ _ _ _ _ _ _ )
end Go.Proofs.Qxb6604397a
