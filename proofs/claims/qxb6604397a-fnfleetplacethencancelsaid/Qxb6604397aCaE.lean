/-
  Seat b6604397a. FnFleetPlaceThenCancel (6): what follows the two placements (in a declaration of its own).
-/
import Derived.Test.Qxb6604397aCaD
namespace Go.Proofs.Qxb6604397a
open Go.RowKit

set_option maxRecDepth 1000000 in
set_option maxHeartbeats 0 in
/-- Behind the two placements. -/
theorem rest11 (r : Nat) (e l d s : Int) (u : Nat) (w wc : World) (n : Nat) {sg : Bool} {m : Nat} {i : Int} (sn ss xn xs : Int) (late urg : Bool) (B14 B15 B16 : Nat) (y1 y2 : SD)
    (HR : Hid (r < 3)) (HNn : Hid (n = w.heap.size)) (HE : Hid (In61 e ∧ In61 l ∧ In61 d ∧ In61 s)) (HU : Hid (Fin64 u sg m i)) (k1 : FloatKind.f64.format.order u u = some Ordering.eq) (hlate : decide (l < s + d) = late) (hurg : decide (l - e - d = 0) = urg)
    (H16 : Hid (∀ W : World, Calls Try.prog 16 #[.agg #[.int .u64 sn, .int .i64 ss, .pointer none]] W fun q w' => q = .returned (.int .i64 s) ∧ Below W.heap.size W w'))
    (H16' : Hid (∀ W : World, Calls Try.prog 16 #[.agg #[.int .u64 xn, .int .i64 xs, .pointer none]] W fun q w' => q = .returned (.int .i64 (s + d)) ∧ Below W.heap.size W w'))
    (HST1 : Hid (StepSD SD.nil y1 s d u urg)) (hst2 : StepSD (upd (fun _ => SD.nil) r y1 r) y2 s d (Op.negFloat .f64 u) urg) (hJ15' : Hold n (upd (upd (fun _ => SD.nil) r y1) r y2) wc B15 (.cells #[.int .i64 r, .int .u64 sn, .int .i64 ss, .pointer none, .int .u64 xn, .int .i64 xs, .pointer none, .bool late] 42 (0, 0))) (hJ16 : Hold n (upd (upd (fun _ => SD.nil) r y1) r y2) wc B16 (.cells #[.int .i64 r, .int .u64 sn, .int .i64 ss, .pointer none, .int .u64 xn, .int .i64 xs, .pointer none, .bool late] 42 (0, 0))) (hF6 : FleetSt n wc (upd (upd (fun _ => SD.nil) r y1) r y2)) (hB6 : Below n w wc)
    (u27 u28 u29 u30 u31 u32 u33 u34 u35 u36 u37 u38 u39 u40 u41 u42 u43 u44 u45 u46 u47 u48 u49 u50 u51 u52 u53 u54 u55 u56 u57 u58 u59 u60 u61 u62 u63 u64 u65 u66 u67 u68 u69 u70 u71 u72 u73 u74 u75 u76 u77 u78 u79 u80 u81 u82 u83 u84 u85 u86 u87 u88 u89 u90 u91 u92 u93 u94 u95 u96 u97 u98 u99 u100 u101 u102 u103 u104 u105 u106 u107 u108 u109 u110 u111 u112 u113 u114 u115 u116 u117 u118 u119 u120 u121 u122 u123 u124 u125 u126 u127 u128 u129 u130 u131 u132 u133 u134 u135 u136 u137 u138 u139 u140 u141 u142 u143 u144 u145 u146 u147 u148 u149 u150 u151 u152 u153 u154 u155 u156 u157 u158 u159 u160 u161 u162 u163 u164 u165 u166 u167 u168 u169 u170 u171 u172 u173 u174 u175 u176 u177 u178 u179 u180 u181 u182 u183 u184 u185 u186 u187 u188 u189 u190 u191 u192 u193 u194 u195 u196 u197 u198 u199 u200 u201 u202 u203 u204 u205 u206 u207 u208 u209 u210 u211 u212 u213 u214 u215 u216 u217 u218 u219 u220 u221 u222 u223 u224 u225 u226 u227 u228 u229 u230 u231 u232 u233 u234 u235 u236 u237 u238 : Value) :
    Code.wp Try.prog tail11 (bodyPost Try.prog Try.f6 fun q w' => q = .returned (.bool true) ∧ Below w.heap.size w w') ⟨#[.int .i64 r, .int .i64 e, .int .i64 l, .int .i64 d, .int .i64 s, .float .f64 u, undef, undef, undef, undef, undef, undef, .bool false, .pointer (some ⟨n + 1 + 1 + 1 + 1, 0, none⟩), .pointer (some ⟨B14, 0, none⟩), .pointer (some ⟨B15, 0, none⟩), .pointer (some ⟨B16, 0, none⟩), undef, undef, undef, undef, undef, undef, undef, undef, undef, undef, u27, u28, u29, u30, u31, u32, u33, u34, u35, u36, u37, u38, u39, u40, u41, u42, u43, u44, u45, u46, u47, u48, u49, u50, u51, u52, u53, u54, u55, u56, u57, u58, u59, u60, u61, u62, u63, u64, u65, u66, u67, u68, u69, u70, u71, u72, u73, u74, u75, u76, u77, u78, u79, u80, u81, u82, u83, u84, u85, u86, u87, u88, u89, u90, u91, u92, u93, u94, u95, u96, u97, u98, u99, u100, u101, u102, u103, u104, u105, u106, u107, u108, u109, u110, u111, u112, u113, u114, u115, u116, u117, u118, u119, u120, u121, u122, u123, u124, u125, u126, u127, u128, u129, u130, u131, u132, u133, u134, u135, u136, u137, u138, u139, u140, u141, u142, u143, u144, u145, u146, u147, u148, u149, u150, u151, u152, u153, u154, u155, u156, u157, u158, u159, u160, u161, u162, u163, u164, u165, u166, u167, u168, u169, u170, u171, u172, u173, u174, u175, u176, u177, u178, u179, u180, u181, u182, u183, u184, u185, u186, u187, u188, u189, u190, u191, u192, u193, u194, u195, u196, u197, u198, u199, u200, u201, u202, u203, u204, u205, u206, u207, u208, u209, u210, u211, u212, u213, u214, u215, u216, u217, u218, u219, u220, u221, u222, u223, u224, u225, u226, u227, u228, u229, u230, u231, u232, u233, u234, u235, u236, u237, u238], []⟩ wc := by
  conv => arg 2; whnf
  have hr3 := HR.out
  have hx1 : upd (fun _ => SD.nil) r y1 r = y1 := if_pos rfl
  have hst2' : StepSD y1 y2 s d (u ^^^ 2 ^ 63) urg := by rw [hx1] at hst2; exact hst2
  have hC := cancelled HU.out HST1.out hst2'
  have hS : Sched wc (n + r) y2.tv y2.uv y2.gv y2.ts y2.us y2.gs y2.pk y2.rc := by
    have := hF6.s r hr3
    rw [show upd (upd (fun _ => SD.nil) r y1) r y2 r = y2 from if_pos rfl] at this
    exact this
  have hSq : ∀ q, q < 3 → q ≠ r → Sched wc (n + q) nilS nilS nilS [] [] [] 0 0 := by
    intro q h1 h2
    have := hF6.s q h1
    rw [show upd (upd (fun _ => SD.nil) r y1) r y2 q = SD.nil from by unfold upd; rw [if_neg h2, if_neg h2]] at this
    exact this
  obtain ⟨N6, hN6⟩ : ∃ N, N = wc.heap.size := ⟨_, rfl⟩
  have HD := hid (show ∀ W : World, Below N6 wc W → Flt W (n + 1 + 1 + 1 + 1) (n + 1 + 1 + 1) (fleetPs n) ∧ Sched W (n + r) y2.tv y2.uv y2.gv y2.ts y2.us y2.gs y2.pk y2.rc ∧ (∀ q, q < 3 → q ≠ r → Sched W (n + q) nilS nilS nilS [] [] [] 0 0) from fun W hW => by
    rw [hN6] at hW
    exact ⟨(hF6.below hW).f, hS.below hW (Nat.le_refl _), fun q h1 h2 => (hSq q h1 h2).below hW (Nat.le_refl _)⟩)
  have HCl := hid (show ∀ W : World, Below N6 wc W →
      (W.cell? ⟨B15, 0, none⟩ = some (.int .i64 r) ∧ W.cell? ⟨B15, 1, none⟩ = some (.int .u64 sn) ∧ W.cell? ⟨B15, 2, none⟩ = some (.int .i64 ss) ∧ W.cell? ⟨B15, 3, none⟩ = some (.pointer none) ∧ W.cell? ⟨B15, 4, none⟩ = some (.int .u64 xn) ∧ W.cell? ⟨B15, 5, none⟩ = some (.int .i64 xs) ∧ W.cell? ⟨B15, 6, none⟩ = some (.pointer none) ∧ W.cell? ⟨B15, 7, none⟩ = some (.bool late)) ∧
      (W.cell? ⟨B16, 0, none⟩ = some (.int .i64 r) ∧ W.cell? ⟨B16, 1, none⟩ = some (.int .u64 sn) ∧ W.cell? ⟨B16, 2, none⟩ = some (.int .i64 ss) ∧ W.cell? ⟨B16, 3, none⟩ = some (.pointer none) ∧ W.cell? ⟨B16, 4, none⟩ = some (.int .u64 xn) ∧ W.cell? ⟨B16, 5, none⟩ = some (.int .i64 xs) ∧ W.cell? ⟨B16, 6, none⟩ = some (.pointer none) ∧ W.cell? ⟨B16, 7, none⟩ = some (.bool late)) from fun W hW => by
    rw [hN6] at hW
    obtain ⟨q0, q1, q2, q3, q4, q5, q6, q7, -⟩ := row8 (hJ15'.below hW).at_
    obtain ⟨p0, p1, p2, p3, p4, p5, p6, p7, -⟩ := row8 (hJ16.below hW).at_
    exact ⟨⟨q0, q1, q2, q3, q4, q5, q6, q7⟩, p0, p1, p2, p3, p4, p5, p6, p7⟩)
  have H16a := hid (show ∀ W : World, Below N6 wc W → Calls Try.prog 16 #[.agg #[.int .u64 sn, .int .i64 ss, .pointer none]] W fun q w' => q = .returned (.int .i64 s) ∧ Below N6 wc w' from fun W hW => by
    refine (H16.out W).mono ?_
    rintro q w' ⟨rfl, hb⟩
    exact ⟨rfl, hW.trans (hb.mono (by have := hW.size; omega))⟩)
  have H16b := hid (show ∀ W : World, Below N6 wc W → Calls Try.prog 16 #[.agg #[.int .u64 xn, .int .i64 xs, .pointer none]] W fun q w' => q = .returned (.int .i64 (s + d)) ∧ Below N6 wc w' from fun W hW => by
    refine (H16'.out W).mono ?_
    rintro q w' ⟨rfl, hb⟩
    exact ⟨rfl, hW.trans (hb.mono (by have := hW.size; omega))⟩)
  have HB6 := hid hB6
  have HN6 := hid (And.intro hN6 (show n ≤ N6 from by have := hF6.flt_lt; omega))
  have HCC := hid hC
  have hw1 : IntKind.i64.wrap (s + d) = s + d := by
    have h1 := HE.out.2.2.1; have h2 := HE.out.2.2.2
    unfold In61 at h1 h2
    simp only [IntKind.wrap, IntKind.bits, IntKind.signed]; simp; omega
  have b0 : Below N6 wc wc := Below.refl _ _
  obtain ⟨⟨i0, i1, i2, i3, i4, i5, i6, i7⟩, j0, j1, j2, j3, j4, j5, j6, j7⟩ := HCl.out wc b0
  have HLt := hid hlate
  obtain ⟨L, hL⟩ : ∃ L, L = y2.ts.length := ⟨_, rfl⟩
  have hmem : s ∈ y2.ts := (hC.mem s).2 (.inl rfl)
  have hLp : 0 < L := by rw [hL]; exact List.length_pos_of_mem hmem
  have hL2 : L ≤ 4 := by
    have h1 : y2.ts.length ≤ y1.ts.length + 2 := hst2'.len
    have h2 : y1.ts.length ≤ 0 + 2 := HST1.out.len
    omega
  have own_form : ∀ {ty : TypeId} {sz : Nat} {v : Value} {k : Nat} {xs : List Value}, wc.ownsRow 0 ty sz v k xs → k = L → ∃ g c, v = .slice (some ⟨g, 0, none⟩) L c := by
    intro ty sz v k xs ho hk
    rcases ho.2 with ⟨_, h0⟩ | ⟨g, cap, cur, rfl, _⟩
    · omega
    · exact ⟨g, cap, by rw [hk]⟩
  obtain ⟨gt, ct, htv⟩ := own_form hS.t hL.symm
  obtain ⟨gu, cu, huv⟩ := own_form hS.u (hC.lenU.trans hL.symm)
  obtain ⟨gg, cg, hgv⟩ := own_form hS.g (hC.lenG.trans hL.symm)
  clear own_form hmem
  have H19 := hid (show ∀ W : World, Below N6 wc W → Calls Try.prog 19 #[.pointer (some ⟨n + 1 + 1 + 1 + 1, 0, none⟩), .int .i64 r] W fun q w' => q = .returned (.slice (some ⟨gt, 0, none⟩) L ct) ∧ w' = W from fun W hW => by
    obtain ⟨q1, q2, _⟩ := HD.out W hW
    rw [← htv]; exact times19 q1 HR.out (fleetPs_at n HR.out) q2)
  have H20 := hid (show ∀ W : World, Below N6 wc W → Calls Try.prog 20 #[.pointer (some ⟨n + 1 + 1 + 1 + 1, 0, none⟩), .int .i64 r] W fun q w' => q = .returned (.slice (some ⟨gu, 0, none⟩) L cu) ∧ w' = W from fun W hW => by
    obtain ⟨q1, q2, _⟩ := HD.out W hW
    rw [← huv]; exact used20 q1 HR.out (fleetPs_at n HR.out) q2)
  have H21 := hid (show ∀ W : World, Below N6 wc W → Calls Try.prog 21 #[.pointer (some ⟨n + 1 + 1 + 1 + 1, 0, none⟩), .int .i64 r] W fun q w' => q = .returned (.slice (some ⟨gg, 0, none⟩) L cg) ∧ w' = W from fun W hW => by
    obtain ⟨q1, q2, _⟩ := HD.out W hW
    rw [← hgv]; exact urgent21 q1 HR.out (fleetPs_at n HR.out) q2)
  have H22 := hid (show ∀ W : World, Below N6 wc W → Calls Try.prog 22 #[.pointer (some ⟨n + 1 + 1 + 1 + 1, 0, none⟩), .int .i64 r] W fun q w' => q = .returned (.float .f64 y2.pk) ∧ w' = W from fun W hW => by
    obtain ⟨q1, q2, _⟩ := HD.out W hW
    exact peak22 q1 HR.out (fleetPs_at n HR.out) q2)
  have H23 := hid (show ∀ W : World, Below N6 wc W → Calls Try.prog 23 #[.pointer (some ⟨n + 1 + 1 + 1 + 1, 0, none⟩), .int .i64 r] W fun q w' => q = .returned (.int .i64 y2.rc) ∧ w' = W from fun W hW => by
    obtain ⟨q1, q2, _⟩ := HD.out W hW
    exact reach23 q1 HR.out (fleetPs_at n HR.out) q2)
  have H24 := hid (show ∀ (W : World) (q : Nat), Below N6 wc W → q < 3 → q ≠ r → Calls Try.prog 24 #[.pointer (some ⟨n + 1 + 1 + 1 + 1, 0, none⟩), .int .i64 q] W fun z w' => z = .returned (.bool true) ∧ w' = W from fun W q hW h1 h2 => by
    obtain ⟨q1, _, q3⟩ := HD.out W hW
    exact untouched24 q1 h1 (fleetPs_at n h1) (q3 q h1 h2))
  have H18a := hid (show ∀ (W : World) (v : Value), Below N6 wc W → (∀ k, v.ownBlock = some k → N6 ≤ k) → W.ownsRow 0 2 1 v 0 [] → Calls Try.prog 18 #[v, .int .i64 s] W fun q w' => ∃ (i : Nat) (f : Bool) (v : Value), q = .returned v ∧ Found [] 0 s i f ∧ w'.ownsRow 0 2 1 v (insT f i s []).length (iRow (insT f i s [])) ∧ (∀ k, v.ownBlock = some k → N6 ≤ k) ∧ Below N6 wc w' from fun W v hW hv ho => by
    refine (ins18 v [] s W (Nat.zero_le _) (fun i j _ h => absurd h (Nat.not_lt_zero _)) ho).mono ?_
    rintro q w' ⟨i, f, v', rfl, a1, a2, a3, a4⟩
    have hsz := hW.size
    refine ⟨i, f, v', rfl, a1, a2, fun k hk => ?_, ?_⟩
    · rcases a3 k hk with q | q
      · exact hv k q
      · have := HN6.out.1; omega
    · exact hW.trans ⟨a4.os, a4.tape, a4.output, a4.size, fun k hk => a4.block k (by have := HN6.out.1; omega) (fun q => by have := hv k q; omega)⟩)
  have H18b := hid (show ∀ (W : World) (v : Value) (i : Nat) (f : Bool), Below N6 wc W → (∀ k, v.ownBlock = some k → N6 ≤ k) → Found [] 0 s i f → W.ownsRow 0 2 1 v (insT f i s []).length (iRow (insT f i s [])) →
      Calls Try.prog 18 #[v, .int .i64 (s + d)] W fun q w' => ∃ gw cw, q = .returned (.slice (some ⟨gw, 0, none⟩) L cw) ∧ w'.ownsRow 0 2 1 (.slice (some ⟨gw, 0, none⟩) L cw) L (iRow y2.ts) ∧ Below N6 wc w' from fun W v i f hW hv hf ho => by
    have hso : Sorted (insT f i s []) := Found.sorted (ts := []) hf (fun i j _ h => absurd h (Nat.not_lt_zero _))
    refine (ins18 v _ (s + d) W (by rw [length_insT (ts := []) hf.le]; split <;> simp) hso ho).mono ?_
    rintro q w' ⟨i', f', v', rfl, a1, a2, a3, a4⟩
    have hsz := hW.size
    have heq : insT f' i' (s + d) (insT f i s []) = y2.ts := by
      refine sorted_ext (a1.sorted hso) HCC.out.sorted fun x => ?_
      rw [mem_insT a1, mem_insT (ts := []) hf, HCC.out.mem]
      simp only [List.not_mem_nil, or_false]
      exact ⟨fun h => h.symm, fun h => h.symm⟩
    rw [heq, ← hL] at a2
    have hgw : ∃ gw cw, v' = .slice (some ⟨gw, 0, none⟩) L cw := by
      rcases a2.2 with ⟨_, h0⟩ | ⟨g, cap, cur, rfl, _⟩
      · omega
      · exact ⟨g, cap, rfl⟩
    obtain ⟨gw, cw, rfl⟩ := hgw
    refine ⟨gw, cw, rfl, a2, ?_⟩
    exact hW.trans ⟨a4.os, a4.tape, a4.output, a4.size, fun k hk => a4.block k (by have := HN6.out.1; omega) (fun q => by have := hv k q; omega)⟩)
  have HL := hid (And.intro hL (And.intro hLp hL2))
  have HV := hid (And.intro htv (And.intro huv hgv))
  clear hL hLp hL2 htv huv hgv
  clear hst2 hst2' hC hS hSq hJ15' hJ16 hF6 hN6 hB6 hx1 hr3 H16 H16'
  go_upto_region 17 with (first
    | (go_at_call_has 16 (sn); refine (H16a.out _ b0).mono ?_; rintro q w7 ⟨rfl, b0⟩; obtain ⟨⟨i0, i1, i2, i3, i4, i5, i6, i7⟩, j0, j1, j2, j3, j4, j5, j6, j7⟩ := HCl.out _ b0)
    | (go_at_call_has 16 (xn); refine (H16b.out _ b0).mono ?_; rintro q w7 ⟨rfl, b0⟩; obtain ⟨⟨i0, i1, i2, i3, i4, i5, i6, i7⟩, j0, j1, j2, j3, j4, j5, j6, j7⟩ := HCl.out _ b0))
  clear i0 i1 i2 i3 i4 i5 i6 i7 j0 j1 j2 j3 j4 j5 j6 j7 HCl H16a H16b
  obtain ⟨ti, hti, hz0, hz1, hz2⟩ := info_parts info2
  obtain ⟨w7m, hmk, hown7, hgr7⟩ := run_make_own (P := Try.prog) w7 0 51 2 ti (.int .i64 0) 1 Try.underlying51 hti hz0 hz1 .i64 .i64 2 (by rw [hz2]; decide) (by decide) (Nat.zero_le _)
  replace hmk : (Instr.makeSlice 51 (.int .i64 0) (.int .i64 2)).run Try.prog w7 = .ok (.slice (some ⟨w7.heap.size, 0, none⟩) 0 2) w7m := hmk
  have b7 : Below N6 wc w7m := b0.trans ⟨hgr7.os, hgr7.tape, hgr7.output, hgr7.size, fun k hk => hgr7.block k (by have := b0.size; have := HN6.out.1; omega) (fun h => by cases h)⟩
  have HO7 := hid hown7
  have HV7 := hid (show ∀ k, (Value.slice (some ⟨w7.heap.size, 0, none⟩) 0 2).ownBlock = some k → N6 ≤ k from fun k hk => by have : w7.heap.size = k := Option.some.inj hk; have := b0.size; have := HN6.out.1; omega)
  clear hti hz0 hz1 hz2 hown7 hgr7
  go_upto_region 21 with (first
    | (go_at_call_has 18 (s + d); refine (H18b.out _ v8 i8 f8 b8 hv8 hf8 ho8).mono ?_; rintro q w9 ⟨gw, cw, rfl, o9, b9⟩)
    | (go_at_call_has 18 (s); refine (H18a.out _ _ b7 HV7.out HO7.out).mono ?_; rintro q w8 ⟨i8, f8, v8, rfl, hf8, ho8, hv8, b8⟩)
    | (go_at_call 19; refine (H19.out _ b9).mono ?_; rintro q wx ⟨rfl, hw⟩; subst wx)
    | (go_at_call 20; refine (H20.out _ b9).mono ?_; rintro q wx ⟨rfl, hw⟩; subst wx)
    | (go_at_call 21; refine (H21.out _ b9).mono ?_; rintro q wx ⟨rfl, hw⟩; subst wx))
  have HRow := hid (show ∀ (W : World) (k : Nat), Below w9.heap.size w9 W → k < L →
      W.cell? ⟨gt, k * 3, none⟩ = some (.int .u64 (y2.ts.getD k 0 % 1000000000)) ∧ W.cell? ⟨gt, k * 3 + 1, none⟩ = some (.int .i64 (y2.ts.getD k 0 / 1000000000)) ∧ W.cell? ⟨gt, k * 3 + 2, none⟩ = some (.pointer none) ∧
      W.cell? ⟨gw, k, none⟩ = some (.int .i64 (y2.ts.getD k 0)) ∧ W.cell? ⟨gu, k, none⟩ = some (.float .f64 0) ∧ W.cell? ⟨gg, k, none⟩ = some (.float .f64 0) from fun W k hW hk => by
    have hL := HL.out.1
    have hWN : Below N6 wc W := b9.trans (hW.mono (by have := b9.size; have := HN6.out.1; omega))
    obtain ⟨-, q2, -⟩ := HD.out W hWN
    have qt := q2.t
    have qu := q2.u
    have qg := q2.g
    rw [HV.out.1, ← hL] at qt
    rw [HV.out.2.1] at qu
    rw [HV.out.2.2] at qg
    have rt := (rowT_of_owns qt hL.symm).2 k hk
    rw [Nat.zero_add] at rt
    obtain ⟨r0, r1, r2⟩ := rt
    have ow := owns_of_block o9 fun k' hk' => hW.block k' (o9.lt k' hk').2
    have ru := (rowcell qu (HCC.out.lenU.trans hL.symm) hk).1
    have rg := (rowcell qg (HCC.out.lenG.trans hL.symm) hk).1
    rw [HCC.out.us k (by omega)] at ru
    rw [HCC.out.gs k (by omega)] at rg
    exact ⟨r0, r1, r2, (icell ow rfl hL.symm hk).1, ru, rg⟩)
  have H16t := hid (show ∀ (k : Nat) (W : World), k < L → Calls Try.prog 16 #[.agg #[.int .u64 (y2.ts.getD k 0 % 1000000000), .int .i64 (y2.ts.getD k 0 / 1000000000), .pointer none]] W fun q w' => q = .returned (.int .i64 (y2.ts.getD k 0)) ∧ Below W.heap.size W w' from fun k W hk => by
    have hm := (HCC.out.mem (y2.ts.getD k 0)).1 (mem_getD.2 ⟨k, by have := HL.out.1; omega, rfl⟩)
    have h1 := HE.out.2.2.1; have h2 := HE.out.2.2.2
    unfold In61 at h1 h2
    have := ns16 (y2.ts.getD k 0) W (by omega) (by omega)
    rw [tm_cells] at this
    exact this)
  have HO9 := hid o9
  have hz : FloatKind.f64.format.order 0 0 = some Ordering.eq := order_zero_zero
  clear o9 ho8 hf8 hv8 b8 H18a H18b H19 H20 H21 HO7 HV7 hmk
  go_upto_block 0 with fail
  go_cut [] (fun W => Below N6 wc W)
  case rest =>
    rename_i K hK
    exact hK _ _ (rest28 r e l d s u w _ _ n N6 urg y2 HNn HE HU k1 hurg HB6 HN6 HCC hz hcut H22 H23 H24 _ _ _ _ _ _ _ _ _ _ _ _ _ _ _ _ _ _ _ _ _ _ _ _ _ _ _ _ _ _ _ _ _ _ _ _ _ _ _ _ _ _ _ _ _ _ _ _ _ _ _ _ _ _ _ _ _ _ _ _ _ _ _ _ _ _ _ _ _ _ _ _ _ _ _ _ _ _ _ _ _ _ _ _ _ _ _ _ _ _ _ _ _ _ _ _ _ _ _ _ _ _ _ _ _ _ _ _ _ _ _ _ _ _ _ _ _ _ _ _ _ _ _ _ _ _ _ _ _ _ _ _ _ _ _ _ _ _ _ _ _ _ _ _ _ _ _ _ _ _ _ _ _ _ _ _ _ _ _ _ _ _ _ _ _ _ _ _ _ _ _ _ _ _ _ _ _ _ _ _ _ _ _ _ _ _ _ _ _ _ _ _ _ _ _ _ _ _ _ _ _ _ _ _ _ _ _ _ _ _ _ _ _ _ _ _ _ _ _ _ _ _ _ _ _ _ _ _ _ _ _ )
  case first =>
    go_wp2
    go_loopw [23] (fun x wr => CountTo L w9 x wr) (fun x _ => L - (intOf x).toNat)
    case atStart => exact ⟨0, rfl, Nat.zero_le _, Below.refl _ _⟩
    case round =>
      obtain ⟨k, rfl, hkL, hbr⟩ := hrel
      by_cases hk : k < L
      · have HK0 := hid (show ∀ W : World, Below wr.drew.heap.size wr.drew W → Below w9.heap.size w9 W from fun W hb => hbr.drew.trans (hb.mono (by have := hbr.size; simpa using this)))
        have HK1 := hid (fun W hb => HRow.out W k (HK0.out W hb) hk)
        have HCt := hid (fun W => H16t.out k W hk)
        obtain ⟨a0, a1, a2, a3, a4, a5⟩ := HRow.out wr k hbr hk
        have hL4 := HL.out.2.2
        have hkI : (k : Int) < L := by omega
        have hwk : IntKind.i64.wrap ((k : Int) + 1) = k + 1 := by
          simp only [IntKind.wrap, IntKind.bits, IntKind.signed]; simp; omega
        clear HRow H16t
        generalize y2.ts.getD k 0 = t at *
        generalize t % 1000000000 = tn at *
        generalize t / 1000000000 = tsec at *
        go_wp2
        go_region_held3 (fun W => W.cell? ⟨gt, k * 3, none⟩ = some (.int .u64 tn) ∧ W.cell? ⟨gt, k * 3 + 1, none⟩ = some (.int .i64 tsec) ∧ W.cell? ⟨gt, k * 3 + 2, none⟩ = some (.pointer none) ∧ W.cell? ⟨gw, k, none⟩ = some (.int .i64 t) ∧ W.cell? ⟨gu, k, none⟩ = some (.float .f64 0) ∧ W.cell? ⟨gg, k, none⟩ = some (.float .f64 0)) (first | (with_reducible exact HK1.out _ hb10) | go_keep)
          ((go_at_call 16; refine (HCt.out _).mono ?_; rintro q w10 ⟨rfl, hb10⟩))
        go_wp2
        go_roundw
        case rel => exact ⟨k + 1, by go_num, by omega, HK0.out _ hb10⟩
        case measure => simp [intOf]; omega
      · have hkI : ¬ (k : Int) < L := by omega
        have bN : Below N6 wc wr := b9.trans (hbr.mono (by have := b9.size; have := HN6.out.1; omega))
        clear HRow H16t
        go_wp2
        go_meet
        exact bN
end Go.Proofs.Qxb6604397a
