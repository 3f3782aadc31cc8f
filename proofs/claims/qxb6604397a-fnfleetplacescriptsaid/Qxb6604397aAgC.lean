/-
  Seat b6604397a. zzRegionAgrees (17): what follows the gathering of the points (in a declaration of its own).
-/
import Derived.Test.Qxb6604397aAgA
import Derived.Laws.MakeOwn
import Derived.Deep.CutRange
import Derived.Deep.CutBlock
import Derived.Deep.DeepCutAuto
namespace Go.Proofs.Qxb6604397a
open Go.RowKit

def headIs (id : Nat) : Code → Bool
  | .region j _ _ => j == id
  | .seq a _ => headIs id a
  | _ => false

/-- What stands from region id on. -/
def tailFrom (id : Nat) : Code → Option Code
  | .seq a b => if headIs id a then some (.seq a b) else tailFrom id b
  | _ => none

noncomputable def tail13 : Code := (Try.f17.body.bind (tailFrom 13)).getD .skip

/-- The second loop's round. -/
def Scan (J : List PJob) (ts : List Int) (w9 : World) (x15 x16 : Value) (wr : World) : Prop :=
  ∃ i p : Nat, x16 = .int .i64 i ∧ i ≤ ts.length ∧ x15 = .float .f64 p ∧ PeakOf (fun v => ∃ i', i' < i ∧ SumsAt J (ts.getD i' 0) v) p ∧ Below w9.heap.size w9 wr

/-- The third loop's round, at one point t. -/
structure ScanAt (r : Int) (cs : List PC) (t : Int) (V : Nat → Prop) (w9 : World) (k p a b : Nat) (wr : World) : Prop where
  u : FSum 0 (unitsAt (fun _ => true) (jobsOf r (cs.take k)) t) a
  g : FSum 0 (unitsAt urgQ (jobsOf r (cs.take k)) t) b
  p : PeakOf (fun v => V v ∨ SumsAt (jobsOf r (cs.take k)) t v) p
  w : Below w9.heap.size w9 wr

def ScanIn (r : Int) (cs : List PC) (t : Int) (V : Nat → Prop) (w9 : World) (x15 x17 x18 x19 : Value) (wr : World) : Prop :=
  ∃ k p a b : Nat, x19 = .int .i64 k ∧ k ≤ cs.length ∧ x15 = .float .f64 p ∧ x17 = .float .f64 a ∧ x18 = .float .f64 b ∧ ScanAt r cs t V w9 k p a b wr

section
variable {r : Int} {cs : List PC} {t : Int} {V : Nat → Prop} {w9 wr wr' : World} {k p a b : Nat} {c : PC}

theorem ScanAt.skip (h : ScanAt r cs t V w9 k p a b wr) (hk : k < cs.length) (hc : c = cs.getD k pc0) (hr : c.r ≠ r) (hb : Below w9.heap.size w9 wr') : ScanAt r cs t V w9 (k + 1) p a b wr' := by
  have e : jobsOf r (cs.take (k + 1)) = jobsOf r (cs.take k) := by rw [jobsOf_succ r cs hk, ← hc, if_neg hr, List.append_nil]
  exact ⟨e ▸ h.u, e ▸ h.g, e ▸ h.p, hb⟩

theorem ScanAt.off (h : ScanAt r cs t V w9 k p a b wr) (hk : k < cs.length) (hc : c = cs.getD k pc0) (hr : c.r = r) (hcov : ¬ (c.s ≤ t ∧ t < c.s + c.d)) (hb : Below w9.heap.size w9 wr') : ScanAt r cs t V w9 (k + 1) p a b wr' := by
  have e : jobsOf r (cs.take (k + 1)) = jobsOf r (cs.take k) ++ [jobOf c] := by rw [jobsOf_succ r cs hk, ← hc, if_pos hr]
  have hf : (jobOf c).cov t = false := by unfold PJob.cov; exact decide_eq_false hcov
  refine ⟨?_, ?_, ?_, hb⟩
  · rw [e, unitsAt_snoc, hf]; simpa using h.u
  · rw [e, unitsAt_snoc, hf]; simpa using h.g
  · rw [e]; exact h.p.congr fun v => or_congr Iff.rfl (SumsAt.off (by rw [hf]; rfl)).symm

theorem ScanAt.plain {a' : Nat} (h : ScanAt r cs t V w9 k p a b wr) (hk : k < cs.length) (hc : c = cs.getD k pc0) (hr : c.r = r) (hcov : c.s ≤ t ∧ t < c.s + c.d) (hu : ¬ c.l - c.e = c.d) (ha : FAdd a c.u a') (hb : Below w9.heap.size w9 wr') : ScanAt r cs t V w9 (k + 1) p a' b wr' := by
  have e : jobsOf r (cs.take (k + 1)) = jobsOf r (cs.take k) ++ [jobOf c] := by rw [jobsOf_succ r cs hk, ← hc, if_pos hr]
  have hf : (jobOf c).cov t = true := by unfold PJob.cov; exact decide_eq_true hcov
  have hq : urgQ (jobOf c) = false := decide_eq_false hu
  refine ⟨?_, ?_, ?_, hb⟩
  · rw [e, unitsAt_snoc, hf]; exact h.u.snoc ha
  · rw [e, unitsAt_snoc, hf, hq]; simpa using h.g
  · rw [e]; exact h.p.congr fun v => or_congr Iff.rfl (SumsAt.off (by rw [hf, hq]; rfl)).symm

theorem ScanAt.pressing {a' b' p' : Nat} (h : ScanAt r cs t V w9 k p a b wr) (hk : k < cs.length) (hc : c = cs.getD k pc0) (hr : c.r = r) (hcov : c.s ≤ t ∧ t < c.s + c.d) (hu : c.l - c.e = c.d) (ha : FAdd a c.u a') (hg : FAdd b c.u b') (hp : FMax p b' p') (hb : Below w9.heap.size w9 wr') : ScanAt r cs t V w9 (k + 1) p' a' b' wr' := by
  have e : jobsOf r (cs.take (k + 1)) = jobsOf r (cs.take k) ++ [jobOf c] := by rw [jobsOf_succ r cs hk, ← hc, if_pos hr]
  have hf : (jobOf c).cov t = true := by unfold PJob.cov; exact decide_eq_true hcov
  have hq : urgQ (jobOf c) = true := decide_eq_true hu
  have hs := h.g.snoc hg
  refine ⟨?_, ?_, ?_, hb⟩
  · rw [e, unitsAt_snoc, hf]; exact h.u.snoc ha
  · rw [e, unitsAt_snoc, hf, hq]; exact hs
  · rw [e]
    refine (h.p.max hp).congr fun v => ?_
    rw [SumsAt.snoc (j := jobOf c) (by rw [hf, hq]; rfl) hs, or_assoc]
end

set_option maxRecDepth 1000000 in
set_option maxHeartbeats 0 in
/-- Behind the gathering of the points. -/
theorem rest13 (fn r : Nat) (x : Nat → SD) (cs : List PC) (pa : Option Addr) (cap n N0 : Nat) (W0 w9 : World) (v : Value) (xs : List Int)
    (HH : Hid (FleetSt fn W0 x ∧ r < 3 ∧ cs.length ≤ 1024 ∧ (∀ c ∈ cs, InB c) ∧ (0 < cs.length → ∃ cb, pa = some ⟨cb, 0, none⟩ ∧ CRow W0 cb cs) ∧ Inv (jobsOf r cs) (x r).ts (x r).us (x r).gs (x r).rc ∧ PeakOf (Vals (jobsOf r cs)) (x r).pk ∧ n = cs.length ∧ N0 = W0.heap.size))
    (HP : Hid (Pts r cs N0 W0 n v xs w9))
    (u3 u4 u5 u6 u9 u10 u11 u12 u13 u14 u15 u16 u17 u18 u19 u20 u21 u22 u23 u24 u25 u26 u27 u28 u29 u30 u31 u32 u33 u34 u35 u36 u37 u38 u39 u40 u41 u42 u43 u44 u45 u46 u47 u48 u49 u50 u51 u52 u53 u54 u55 u56 u57 u58 u59 u60 u61 u62 u63 u64 u65 u66 u67 u68 u69 u70 u71 u72 u73 u74 u75 u76 u77 u78 u79 u80 u81 u82 u83 u84 u85 u86 u87 u88 u89 u90 u91 u92 u93 u94 u95 u96 u97 u98 u99 u100 u101 u102 u103 u104 u105 u106 u107 u108 u109 u110 u111 u112 u113 u114 u115 u116 u117 u118 u119 u120 u121 u122 u123 u124 u125 u126 u127 u128 u129 u130 u131 u132 u133 u134 u135 u136 u137 u138 u139 u140 u141 u142 u143 u144 u145 u146 u147 u148 u149 u150 u151 u152 u153 u154 u155 u156 u157 u158 u159 u160 u161 u162 u163 u164 u165 u166 u167 u168 u169 u170 u171 u172 u173 u174 u175 u176 : Value) :
    Code.wp Try.prog tail13 (bodyPost Try.prog Try.f17 fun q w' => q = .returned (.bool true) ∧ Below W0.heap.size W0 w') ⟨#[.pointer (some ⟨fn + 1 + 1 + 1 + 1, 0, none⟩), .int .i64 r, .slice pa n cap, u3, u4, u5, u6, v, .int .i64 (reach (jobsOf r cs)), u9, u10, u11, u12, u13, u14, u15, u16, u17, u18, u19, u20, u21, u22, u23, u24, u25, u26, u27, u28, u29, u30, u31, u32, u33, u34, u35, u36, u37, u38, u39, u40, u41, u42, u43, u44, u45, u46, u47, u48, u49, u50, u51, u52, u53, u54, u55, u56, u57, u58, u59, u60, u61, u62, u63, u64, u65, u66, u67, u68, u69, u70, u71, u72, u73, u74, u75, u76, u77, u78, u79, u80, u81, u82, u83, u84, u85, u86, u87, u88, u89, u90, u91, u92, u93, u94, u95, u96, u97, u98, u99, u100, u101, u102, u103, u104, u105, u106, u107, u108, u109, u110, u111, u112, u113, u114, u115, u116, u117, u118, u119, u120, u121, u122, u123, u124, u125, u126, u127, u128, u129, u130, u131, u132, u133, u134, u135, u136, u137, u138, u139, u140, u141, u142, u143, u144, u145, u146, u147, u148, u149, u150, u151, u152, u153, u154, u155, u156, u157, u158, u159, u160, u161, u162, u163, u164, u165, u166, u167, u168, u169, u170, u171, u172, u173, u174, u175, u176], []⟩ w9 := by
  conv => arg 2; whnf
  obtain ⟨hst, hr, hcs, hin, hrow, hI, hpk, hn, hN0⟩ := HH.out
  have hP := HP.out
  have hxs : xs = (x r).ts := by
    refine sorted_ext hP.sorted hI.sorted fun z => ?_
    rw [hP.mem, hI.mem, hn, jobsOf_all]
  subst hxs
  obtain ⟨L, hL⟩ : ∃ L, L = (x r).ts.length := ⟨_, rfl⟩
  have hL2 : L ≤ 2048 := by have := hP.len; omega
  have hS := hst.s r hr
  unfold SD.ok at hS
  have form : ∀ {W : World} {ty : TypeId} {sz : Nat} {v : Value} {k : Nat} {ys : List Value}, W.ownsRow 0 ty sz v k ys → k = L → ∃ g c, v = .slice g L c ∧ (0 < L → ∃ b, g = some ⟨b, 0, none⟩) := by
    intro W ty sz v k ys ho hk
    rcases ho.2 with ⟨rfl, h0⟩ | ⟨g, cap, cur, rfl, _⟩
    · exact ⟨none, 0, by rw [← hk, h0], fun h => by omega⟩
    · exact ⟨_, cap, by rw [hk], fun _ => ⟨g, rfl⟩⟩
  obtain ⟨gt, ct, htv, htp⟩ := form hS.t hL.symm
  obtain ⟨gu, cu, huv, hup⟩ := form hS.u (hI.lenU.trans hL.symm)
  obtain ⟨gg, cg, hgv, hgp⟩ := form hS.g (hI.lenG.trans hL.symm)
  obtain ⟨gp, cp, hpv, hpp⟩ := form hP.own hL.symm
  subst hpv
  have hNw : N0 ≤ w9.heap.size := by have := hP.b.size; omega
  have HD := hid (show ∀ W : World, Below w9.heap.size w9 W → FleetSt fn W x ∧ Sched W (fn + r) (.slice gt L ct) (.slice gu L cu) (.slice gg L cg) (x r).ts (x r).us (x r).gs (x r).pk (x r).rc from fun W hW => by
    have hb : Below N0 W0 W := hP.b.trans (hW.mono hNw)
    rw [hN0] at hb
    have := hst.below hb
    have h2 := this.s r hr
    unfold SD.ok at h2
    rw [htv, huv, hgv] at h2
    exact ⟨this, h2⟩)
  have H19 := hid (show ∀ W : World, Below w9.heap.size w9 W → Calls Try.prog 19 #[.pointer (some ⟨fn + 1 + 1 + 1 + 1, 0, none⟩), .int .i64 r] W fun q w' => q = .returned (.slice gt L ct) ∧ w' = W from fun W hW => times19 (HD.out W hW).1.f hr (fleetPs_at fn hr) (HD.out W hW).2)
  have H20 := hid (show ∀ W : World, Below w9.heap.size w9 W → Calls Try.prog 20 #[.pointer (some ⟨fn + 1 + 1 + 1 + 1, 0, none⟩), .int .i64 r] W fun q w' => q = .returned (.slice gu L cu) ∧ w' = W from fun W hW => used20 (HD.out W hW).1.f hr (fleetPs_at fn hr) (HD.out W hW).2)
  have H21 := hid (show ∀ W : World, Below w9.heap.size w9 W → Calls Try.prog 21 #[.pointer (some ⟨fn + 1 + 1 + 1 + 1, 0, none⟩), .int .i64 r] W fun q w' => q = .returned (.slice gg L cg) ∧ w' = W from fun W hW => urgent21 (HD.out W hW).1.f hr (fleetPs_at fn hr) (HD.out W hW).2)
  have H22 := hid (show ∀ W : World, Below w9.heap.size w9 W → Calls Try.prog 22 #[.pointer (some ⟨fn + 1 + 1 + 1 + 1, 0, none⟩), .int .i64 r] W fun q w' => q = .returned (.float .f64 (x r).pk) ∧ w' = W from fun W hW => peak22 (HD.out W hW).1.f hr (fleetPs_at fn hr) (HD.out W hW).2)
  have H23 := hid (show ∀ W : World, Below w9.heap.size w9 W → Calls Try.prog 23 #[.pointer (some ⟨fn + 1 + 1 + 1 + 1, 0, none⟩), .int .i64 r] W fun q w' => q = .returned (.int .i64 (reach (jobsOf r cs))) ∧ w' = W from fun W hW => by
    have := reach23 (HD.out W hW).1.f hr (fleetPs_at fn hr) (HD.out W hW).2
    rw [hI.r] at this
    exact this)
  have b9 : Below w9.heap.size w9 w9 := Below.refl _ _
  have HF := hid (And.intro htp (And.intro hup (And.intro hgp hpp)))
  have HL := hid (And.intro hL hL2)
  clear form hst hr hcs hin hrow hI hpk hn hN0 hP hS htv huv hgv htp hup hgp hpp hL
  go_upto_block 3 with (first
    | (go_at_call 19; refine (H19.out _ b9).mono ?_; rintro q wx ⟨rfl, hw⟩; subst wx)
    | (go_at_call 20; refine (H20.out _ b9).mono ?_; rintro q wx ⟨rfl, hw⟩; subst wx)
    | (go_at_call 21; refine (H21.out _ b9).mono ?_; rintro q wx ⟨rfl, hw⟩; subst wx))
  go_loopw [15, 16] (fun x15 x16 wr => Scan (jobsOf r cs) (x r).ts w9 x15 x16 wr) (fun _ x16 _ => L - (intOf x16).toNat)
  case atStart => exact ⟨0, 0, rfl, Nat.zero_le _, rfl, PeakOf.zero.congr fun v => ⟨fun h => h.elim, fun ⟨i', h, _⟩ => absurd h (Nat.not_lt_zero _)⟩, b9⟩
  case round =>
    obtain ⟨i, p, rfl, hiL, rfl, hpk, hbr⟩ := hrel
    obtain ⟨hst, hr, hcs, hin, hrow, hI, hpkx, hn, hN0⟩ := HH.out
    have hL := HL.out.1
    have hP := HP.out
    by_cases hi : i < L
    · obtain ⟨htp, hup, hgp, hpp⟩ := HF.out
      obtain ⟨bt, rfl⟩ := htp (by omega)
      obtain ⟨bu, rfl⟩ := hup (by omega)
      obtain ⟨bg, rfl⟩ := hgp (by omega)
      obtain ⟨bp, rfl⟩ := hpp (by omega)
      have HRow := hid (show ∀ W : World, Below w9.heap.size w9 W →
          (W.cell? ⟨bt, i * 3, none⟩ = some (.int .u64 ((x r).ts.getD i 0 % 1000000000)) ∧ W.cell? ⟨bt, i * 3 + 1, none⟩ = some (.int .i64 ((x r).ts.getD i 0 / 1000000000)) ∧ W.cell? ⟨bt, i * 3 + 2, none⟩ = some (.pointer none) ∧ W.cell? ⟨bp, i, none⟩ = some (.int .i64 ((x r).ts.getD i 0))) ∧
          W.cell? ⟨bu, i, none⟩ = some (.float .f64 ((x r).us.getD i 0)) ∧ W.cell? ⟨bg, i, none⟩ = some (.float .f64 ((x r).gs.getD i 0)) from fun W hW => by
        have q2 := (HD.out W hW).2
        have qt := q2.t
        rw [← hL] at qt
        have rt := (rowT_of_owns qt hL.symm).2 i hi
        rw [Nat.zero_add] at rt
        obtain ⟨r0, r1, r2⟩ := rt
        have ow := owns_of_block hP.own fun k' hk' => hW.block k' (hP.own.lt k' hk').2
        exact ⟨⟨r0, r1, r2, (icell ow hL.symm hL.symm hi).1⟩, (rowcell q2.u (hI.lenU.trans hL.symm) hi).1, (rowcell q2.g (hI.lenG.trans hL.symm) hi).1⟩)
      have HCt := hid (show ∀ W : World, Calls Try.prog 16 #[.agg #[.int .u64 ((x r).ts.getD i 0 % 1000000000), .int .i64 ((x r).ts.getD i 0 / 1000000000), .pointer none]] W fun q w' => q = .returned (.int .i64 ((x r).ts.getD i 0)) ∧ Below W.heap.size W w' from fun W => by
        obtain ⟨j, hj, hz⟩ := (hI.mem ((x r).ts.getD i 0)).1 (mem_getD.2 ⟨i, by omega, rfl⟩)
        obtain ⟨c, hc, _, rfl⟩ := mem_jobsOf hj
        have h1 := (hin c hc).s
        have h2 := (hin c hc).d
        unfold In61 at h1 h2
        have e1 : (jobOf c).s = c.s := rfl
        have e2 : (jobOf c).d = c.d := rfl
        rw [e1, e2] at hz
        have := ns16 ((x r).ts.getD i 0) W (by omega) (by omega)
        rw [tm_cells] at this
        exact this)
      have HB := hid (show ∀ W : World, Below wr.drew.heap.size wr.drew W → Below w9.heap.size w9 W from fun W hb => hbr.drew.trans (hb.mono (by have := hbr.size; simpa using this)))
      obtain ⟨⟨a0, a1, a2, a3⟩, a4, a5⟩ := HRow.out wr hbr
      have hiI : (i : Int) < L := by omega
      have hL2 := HL.out.2
      have hwi : IntKind.i64.wrap ((i : Int) + 1) = i + 1 := wrap_i64 (by omega) (by omega)
      have HSu := hid (hI.u i (by omega))
      have HSg := hid (hI.g i (by omega))
      have HPk := hid hpk
      obtain ⟨t, ht⟩ : ∃ t, t = (x r).ts.getD i 0 := ⟨_, rfl⟩
      have HT := hid ht
      obtain ⟨au, hau⟩ : ∃ z, z = (x r).us.getD i 0 := ⟨_, rfl⟩
      obtain ⟨ag, hag⟩ : ∃ z, z = (x r).gs.getD i 0 := ⟨_, rfl⟩
      rw [← ht] at HRow HCt HSu HSg a0 a1 a3
      rw [← hau] at HRow HSu a4
      rw [← hag] at HRow HSg a5
      clear ht hau hag hst hr hcs hin hrow hI hpkx hn hN0 hP hpk hL
      generalize t % 1000000000 = tn at *
      generalize t / 1000000000 = tsec at *
      go_wp2
      go_region_held3 (fun W => W.cell? ⟨bt, i * 3, none⟩ = some (.int .u64 tn) ∧ W.cell? ⟨bt, i * 3 + 1, none⟩ = some (.int .i64 tsec) ∧ W.cell? ⟨bt, i * 3 + 2, none⟩ = some (.pointer none) ∧ W.cell? ⟨bp, i, none⟩ = some (.int .i64 t)) (first | (with_reducible exact (HRow.out _ (HB.out _ hb10)).1) | go_keep)
        ((go_at_call 16; refine (HCt.out _).mono ?_; rintro q w10 ⟨rfl, hb10⟩))
      have hb0 := HB.out _ hb10
      have HB0 := hid hb0
      clear a0 a1 a2 a3 a4 a5
      go_wp2
      go_loopw [15, 17, 18, 19] (fun x15 x17 x18 x19 wr => ScanIn r cs t (fun v => ∃ i', i' < i ∧ SumsAt (jobsOf r cs) ((x r).ts.getD i' 0) v) w9 x15 x17 x18 x19 wr) (fun _ _ _ x19 _ => n - (intOf x19).toNat)
      case atStart =>
        exact ⟨0, p, 0, 0, rfl, Nat.zero_le _, rfl, rfl, rfl, ⟨.nil 0, .nil 0, HPk.out.congr fun v => ⟨.inl, fun h => h.elim id (fun ⟨l, _, h1, h2, _⟩ => absurd (List.prefix_nil.1 h2) h1)⟩, HB0.out⟩⟩
      case round =>
        obtain ⟨k, p', a, b, rfl, hkn, rfl, rfl, rfl, hSc⟩ := hrel
        obtain ⟨hst, hr, hcs, hin, hrow, hI, hpkx, hn, hN0⟩ := HH.out
        have hP := HP.out
        by_cases hk : k < n
        · obtain ⟨cb, rfl, hcr⟩ := hrow (by omega)
          have hcw : CRow wr cb cs := hcr.below (hN0 ▸ hP.b.trans (hSc.w.mono hNw))
          obtain ⟨g0, g1, g2, g3, g4, g5⟩ := hcw.c k (by omega)
          have hcm : cs.getD k pc0 ∈ cs := by
            have : cs.getD k pc0 = cs[k]'(by omega) := by simp [show k < cs.length by omega]
            rw [this]; exact List.getElem_mem _
          have hib := hin _ hcm
          have hkI : (k : Int) < n := by omega
          have hwk : IntKind.i64.wrap ((k : Int) + 1) = k + 1 := wrap_i64 (by omega) (by omega)
          obtain ⟨c, hc⟩ : ∃ c, c = cs.getD k pc0 := ⟨_, rfl⟩
          rw [← hc] at g0 g1 g2 g3 g4 g5 hib
          have HC := hid hc
          have HK := hid (show k < cs.length by omega)
          have HSc := hid hSc
          have h1 := hib.s
          have h2 := hib.d
          unfold In61 at h1 h2
          have hwe : IntKind.i64.wrap (c.s + c.d) = c.s + c.d := wrap_i64 (by omega) (by omega)
          have HU := hid (fun W => urgent29 c.r c.e c.l c.d c.s c.u W hib.e hib.l)
          have hsf := store5 (P := Try.prog) wr (.int .i64 c.r) (.int .i64 c.e) (.int .i64 c.l) (.int .i64 c.d) (.int .i64 c.s) c.u
          have hw9 : w9.heap.size ≤ wr.heap.size := hSc.w.size
          clear hc hcm hcw hcr hst hr hcs hin hrow hI hpkx hn hN0 hP hSc hib h1 h2 hb0 hb10
          by_cases hreg : c.r = r
          · have hrb : (c.r != (r : Int)) = false := by simp; exact hreg
            have HReg := hid hreg
            obtain ⟨Wc, hWc⟩ : ∃ W, W = wr.alloc (.cells #[.int .i64 c.r, .int .i64 c.e, .int .i64 c.l, .int .i64 c.d, .int .i64 c.s, .float .f64 c.u] 34) := ⟨_, rfl⟩
            have hhc : Wc.heap[wr.heap.size]? = some (.cells #[.int .i64 c.r, .int .i64 c.e, .int .i64 c.l, .int .i64 c.d, .int .i64 c.s, .float .f64 c.u] 34 (0, 0)) := by rw [hWc]; exact heap_alloc_new _ _
            have hbc : Below w9.heap.size w9 Wc := by rw [hWc]; exact HSc.out.w.alloc hw9 _
            have hszc : wr.heap.size < Wc.heap.size := by rw [hWc]; simp
            obtain ⟨g6, g7, g8, g9, g10, g11⟩ := row6 hhc
            have g12 : Wc.cell? ⟨bp, i, none⟩ = some (.int .i64 t) := (HRow.out Wc hbc).1.2.2.2
            have HCl := hid (show ∀ W : World, Below Wc.heap.size Wc W → (W.cell? ⟨wr.heap.size, 0, none⟩ = some (.int .i64 c.r) ∧ W.cell? ⟨wr.heap.size, 1, none⟩ = some (.int .i64 c.e) ∧ W.cell? ⟨wr.heap.size, 2, none⟩ = some (.int .i64 c.l) ∧ W.cell? ⟨wr.heap.size, 3, none⟩ = some (.int .i64 c.d) ∧ W.cell? ⟨wr.heap.size, 4, none⟩ = some (.int .i64 c.s) ∧ W.cell? ⟨wr.heap.size, 5, none⟩ = some (.float .f64 c.u)) ∧ Below w9.heap.size w9 W from fun W hW =>
              ⟨row6 ((hW.block _ hszc).trans hhc), hbc.trans (hW.mono (Nat.le_trans hw9 (Nat.le_of_lt hszc)))⟩)
            clear hreg hhc hbc
            go_upto_region 30 with fail
            rw [← hWc]
            clear hWc hsf g0 g1 g2 g3 g4 g5
            by_cases hle : c.s ≤ t
            · by_cases hlt : t < c.s + c.d
              · go_quiet (fail)
                have hbW : Below Wc.heap.size Wc (Wc.drewN nq) := below_drewN (Below.refl _ _) nq
                obtain ⟨⟨e0, e1, e2, e3, e4, e5⟩, -⟩ := HCl.out _ hbW
                clear g6 g7 g8 g9 g10 g11 g12
                generalize Wc.drewN nq = W at hbW e0 e1 e2 e3 e4 e5 ⊢
                obtain ⟨a', wA, ha', hwA, hrunA⟩ := run_fadd (P := Try.prog) W 22 a c.u
                have hbA : Below Wc.heap.size Wc wA := by
                  rcases hwA with rfl | rfl
                  · exact hbW
                  · exact hbW.drew
                obtain ⟨⟨f0, f1, f2, f3, f4, f5⟩, -⟩ := HCl.out _ hbA
                have HA' := hid ha'
                have HCov := hid (And.intro hle hlt)
                have HBA := hid hbA
                clear hbW ha' hwA hbA
                by_cases hu : c.l - c.e = c.d
                · have HUt := hid hu
                  have hud : decide (c.l - c.e = c.d) = true := decide_eq_true hu
                  clear hu
                  rw [hud] at HU
                  go_upto_region 33 with (first
                    | (go_at_call 29; refine (HU.out _).mono ?_; rintro q w5 ⟨rfl, hb5⟩))
                  have hb5' : Below Wc.heap.size Wc w5 := HBA.out.trans (hb5.mono HBA.out.size)
                  obtain ⟨⟨m0, m1, m2, m3, m4, m5⟩, -⟩ := HCl.out _ hb5'
                  obtain ⟨b', wB, hb', hwB, hrunB⟩ := run_fadd (P := Try.prog) w5 22 b c.u
                  have hbB : Below Wc.heap.size Wc wB := by
                    rcases hwB with rfl | rfl
                    · exact hb5'
                    · exact hb5'.drew
                  have HB' := hid hb'
                  have HBB := hid (HCl.out _ hbB).2
                  have HBBd := hid (HCl.out _ hbB.drew).2
                  clear hb5 hb5' hb' hwB hbB
                  cases ho : Ieee.double.order p' b' with
                  | none =>
                    obtain ⟨mx, hm, hmax⟩ := run_fmax_nan (P := Try.prog) #[22, 22] 22 p' b' ho
                    have HM := hid hm
                    clear ho hm
                    go_wp2
                    go_roundw
                    case rel => exact ⟨k + 1, _, a', b', by go_num, HK.out, rfl, rfl, rfl, HSc.out.pressing HK.out HC.out HReg.out HCov.out HUt.out HA'.out HB'.out (HM.out _) HBBd.out⟩
                    case measure => simp [intOf]; omega
                  | some o =>
                    obtain ⟨mx, hm, hmax⟩ := run_fmax (P := Try.prog) #[22, 22] 22 p' b' (by rw [ho]; intro h; cases h)
                    have HM := hid hm
                    clear ho hm
                    go_wp2
                    go_roundw
                    case rel => exact ⟨k + 1, _, a', b', by go_num, HK.out, rfl, rfl, rfl, HSc.out.pressing HK.out HC.out HReg.out HCov.out HUt.out HA'.out HB'.out HM.out HBB.out⟩
                    case measure => simp [intOf]; omega
                · have HUt := hid hu
                  have hud : decide (c.l - c.e = c.d) = false := decide_eq_false hu
                  clear hu
                  rw [hud] at HU
                  have HFin := hid (show ∀ w5, Below wA.heap.size wA w5 → Below w9.heap.size w9 w5 from fun w5 hb5 => (HCl.out _ (HBA.out.trans (hb5.mono HBA.out.size))).2)
                  go_wp2_with (first
                    | (go_at_call 29; refine (HU.out _).mono ?_; rintro q w5 ⟨rfl, hb5⟩))
                  go_roundw
                  case rel => exact ⟨k + 1, p', a', b, by go_num, HK.out, rfl, rfl, rfl, HSc.out.plain HK.out HC.out HReg.out HCov.out HUt.out HA'.out (HFin.out _ hb5)⟩
                  case measure => simp [intOf]; omega
              · go_quiet (fail)
                go_wp2
                have HWq := hid (HCl.out _ (below_drewN (Below.refl Wc.heap.size Wc) nq)).2
                go_roundw
                case rel => exact ⟨k + 1, p', a, b, by go_num, HK.out, rfl, rfl, rfl, HSc.out.off HK.out HC.out HReg.out (fun h => hlt h.2) HWq.out⟩
                case measure => simp [intOf]; omega
            · go_quiet (fail)
              go_wp2
              have HWq := hid (HCl.out _ (below_drewN (Below.refl Wc.heap.size Wc) nq)).2
              go_roundw
              case rel => exact ⟨k + 1, p', a, b, by go_num, HK.out, rfl, rfl, rfl, HSc.out.off HK.out HC.out HReg.out (fun h => hle h.1) HWq.out⟩
              case measure => simp [intOf]; omega
          · have hrb : (c.r != (r : Int)) = true := by simp; exact hreg
            have HReg := hid hreg
            go_wp2
            go_roundw
            case rel =>
              have hS' := HSc.out.skip HK.out HC.out HReg.out (HSc.out.w.alloc hw9 (.cells #[.int .i64 c.r, .int .i64 c.e, .int .i64 c.l, .int .i64 c.d, .int .i64 c.s, .float .f64 c.u] 34))
              exact ⟨k + 1, p', a, b, by go_num, HK.out, rfl, rfl, rfl, hS'⟩
            case measure => simp [intOf]; omega
        · have hkn2 : k = n := by omega
          have hkI : ¬ (k : Int) < n := by omega
          have hu := hSc.u
          have hg := hSc.g
          have hp := hSc.p
          rw [hkn2, hn, jobsOf_all] at hu hg hp
          have HS1 := hid (fun W => sameF30 au a W)
          have HS2 := hid (fun W => sameF30 ag b W)
          have e1 : sameF au a = true := sameF_of_same (HSu.out.same (Same.refl 0) hu)
          have e2 : sameF ag b = true := sameF_of_same (HSg.out.same (Same.refl 0) hg)
          obtain ⟨-, a4, a5⟩ := HRow.out _ hSc.w
          have HPn := hid hp
          have HWn := hid hSc.w
          clear hst hr hcs hin hrow hI hpkx hn hN0 hP hu hg hp hSc hb0 hb10 hkn2
          go_wp2_with (first
            | (go_at_call_has 30 (au); refine (HS1.out _).mono ?_; rintro q wx ⟨rfl, hw⟩; subst wx)
            | (go_at_call_has 30 (ag); refine (HS2.out _).mono ?_; rintro q wx ⟨rfl, hw⟩; subst wx))
          go_roundw
          case rel =>
            have hpeak : PeakOf (fun v => ∃ i', i' < i + 1 ∧ SumsAt (jobsOf r cs) ((x r).ts.getD i' 0) v) p' := by
              refine HPn.out.congr fun v => ⟨?_, ?_⟩
              · rintro (⟨i', h1, h2⟩ | h)
                · exact ⟨i', by omega, h2⟩
                · exact ⟨i, by omega, by rw [← HT.out]; exact h⟩
              · rintro ⟨i', h1, h2⟩
                by_cases e : i' = i
                · subst e; rw [← HT.out] at h2; exact .inr h2
                · exact .inl ⟨i', by omega, h2⟩
            have hle : i + 1 ≤ (x r).ts.length := by have := HL.out.1; omega
            exact ⟨i + 1, p', by go_num, hle, rfl, hpeak, HWn.out⟩
          case measure => simp [intOf]; omega
    · have hie : i = (x r).ts.length := by omega
      have hiI : ¬ (i : Int) < L := by omega
      have hpk2 : PeakOf (Vals (jobsOf r cs)) p := hpk.congr fun v => by
        rw [hie]; exact vals_points hI.sorted hI.ends v
      have e1 : sameF (x r).pk p = true := sameF_of_peak hpkx hpk2
      have HS := hid (fun W => sameF30 (x r).pk p W)
      have HN := hid (show Below W0.heap.size W0 wr from by rw [← hN0]; exact hP.b.trans (hbr.mono hNw))
      clear hst hr hcs hin hrow hI hpkx hn hN0 hP hpk hpk2 hie hL
      go_wp2_with (first
        | (go_at_call 22; refine (H22.out _ hbr).mono ?_; rintro q wx ⟨rfl, hw⟩; subst wx)
        | (go_at_call 23; refine (H23.out _ hbr).mono ?_; rintro q wx ⟨rfl, hw⟩; subst wx)
        | (go_at_call 30; refine (HS.out _).mono ?_; rintro q wx ⟨rfl, hw⟩; subst wx))
      go_ret
      exact ⟨rfl, HN.out⟩
end Go.Proofs.Qxb6604397a
