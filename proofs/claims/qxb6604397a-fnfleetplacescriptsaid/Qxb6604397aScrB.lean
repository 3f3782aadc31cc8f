/-
  Seat b6604397a. FnFleetPlaceScript (5): the placements (in a declaration of its own).
-/
import Derived.Test.Qxb6604397aScrA
namespace Go.Proofs.Qxb6604397a
open Go.RowKit

noncomputable def tail20 : Code := (Try.f5.body.bind (tailFrom 20)).getD .skip

/-- What the loop of the placements knows at a round. -/
structure RoundP (w wc : World) (fn : Nat) (cs : List PC) (i : Nat) (x : Nat → SD) (wr : World) : Prop where
  st : FleetSt fn wr x
  sd : Stands cs i x
  len : ∀ q, q < 3 → (x q).ts.length ≤ 2 * i
  b : Below fn wc wr

def Placing (w wc : World) (fn : Nat) (cs : List PC) (x8 : Value) (wr : World) : Prop := ∃ (i : Nat) (x : Nat → SD), x8 = .int .i64 i ∧ i ≤ cs.length ∧ RoundP w wc fn cs i x wr

theorem stands_nil (cs : List PC) : Stands cs 0 (fun _ => SD.nil) := fun q _ => by
  rw [List.take_zero, jobsOf_nil]
  exact ⟨Inv.nil, PeakOf.zero.congr fun v => ⟨fun h => h.elim, fun ⟨z, l, _, h1, h2, _⟩ => h1 (List.prefix_nil.1 h2)⟩⟩

theorem stands_step {cs : List PC} {i r : Nat} {x : Nat → SD} {y : SD} {c : PC} (h : Stands cs i x) (hi : i < cs.length) (hc : c = cs.getD i pc0) (hr : c.r = r) (hr3 : r < 3) (hs : StepSD (x r) y c.s c.d c.u (decide (c.l - c.e - c.d = 0))) : Stands cs (i + 1) (upd x r y) := by
  intro q hq
  have hu : decide (c.l - c.e - c.d = 0) = decide (c.l - c.e = c.d) := decide_eq_decide.2 (by omega)
  rw [hu] at hs
  rw [jobsOf_succ _ cs hi, ← hc]
  unfold upd
  by_cases e : q = r
  · subst e
    rw [if_pos rfl, if_pos hr]
    exact ⟨hs.inv (h q hq).1, peak_step (h q hq).1 hs (h q hq).2⟩
  · rw [if_neg e, if_neg (show ¬ c.r = (q : Int) by omega), List.append_nil]
    exact h q hq

/-- Block B holds o. -/
def HoldE (B : Nat) (o : Obj) (W : World) : Prop := B < W.heap.size ∧ W.heap[B]? = some o

theorem Hold.e {fn : Nat} {x : Nat → SD} {W : World} {B : Nat} {o : Obj} (h : Hold fn x W B o) : HoldE B o W := ⟨h.lt, h.at_⟩
theorem HoldE.drew {B : Nat} {o : Obj} {W : World} (h : HoldE B o W) : HoldE B o W.drew := h
theorem HoldE.alloc {B : Nat} {o : Obj} {W : World} (h : HoldE B o W) (o' : Obj) : HoldE B o (W.alloc o') := ⟨by have := h.1; simp; omega, (heap_alloc_old W o' h.1).trans h.2⟩
theorem HoldE.set {B : Nat} {o : Obj} {W : World} (h : HoldE B o W) {g j : Nat} (hg : B ≠ g) (v : Value) : HoldE B o (W.setCell ⟨g, j, none⟩ v) := ⟨by have := h.1; simpa using this, (heap_setCell_other W ⟨g, j, none⟩ B v hg).trans h.2⟩

set_option maxRecDepth 1000000 in
set_option maxHeartbeats 0 in
theorem rest20 (n cap : Nat) (pa : Option Addr) (cs : List PC) (w wk : World) (HS : Hid (Copy wk pa cs ∧ n = cs.length ∧ Below w.heap.size w wk))
    (u1 u2 u3 u4 u5 u6 u7 u8 u9 u10 u11 u12 u13 u14 u15 u16 u17 u18 u19 u20 u21 u22 u23 u24 u25 u26 u27 u28 u29 u30 u31 u32 u33 u34 u35 u36 u37 u38 u39 u40 u41 u42 u43 u44 u45 u46 u47 u48 u49 u50 u51 u52 u53 u54 u55 u56 u57 u58 u59 u60 u61 u62 u63 u64 u65 u66 u67 u68 u69 u70 u71 u72 u73 u74 u75 u76 u77 u78 u79 u80 u81 u82 u83 u84 u85 u86 u87 u88 u89 u90 u91 u92 u93 u94 u95 u96 u97 u98 u99 u100 u101 u102 u103 u104 u105 u106 u107 u108 u109 u110 u111 u112 u113 u114 u115 u116 u117 u118 u119 u120 u121 u122 u123 u124 u125 u126 u127 u128 u129 u130 u131 u132 u133 u134 u135 u136 u137 u138 u139 u140 u141 u142 u143 u144 u145 u146 u147 : Value) :
    Code.wp Try.prog tail20 (bodyPost Try.prog Try.f5 fun q w' => q = .returned (.bool true) ∧ Below w.heap.size w w') ⟨#[.slice pa n cap, u1, u2, u3, u4, u5, u6, u7, u8, u9, u10, u11, u12, u13, u14, u15, u16, u17, u18, u19, u20, u21, u22, u23, u24, u25, u26, u27, u28, u29, u30, u31, u32, u33, u34, u35, u36, u37, u38, u39, u40, u41, u42, u43, u44, u45, u46, u47, u48, u49, u50, u51, u52, u53, u54, u55, u56, u57, u58, u59, u60, u61, u62, u63, u64, u65, u66, u67, u68, u69, u70, u71, u72, u73, u74, u75, u76, u77, u78, u79, u80, u81, u82, u83, u84, u85, u86, u87, u88, u89, u90, u91, u92, u93, u94, u95, u96, u97, u98, u99, u100, u101, u102, u103, u104, u105, u106, u107, u108, u109, u110, u111, u112, u113, u114, u115, u116, u117, u118, u119, u120, u121, u122, u123, u124, u125, u126, u127, u128, u129, u130, u131, u132, u133, u134, u135, u136, u137, u138, u139, u140, u141, u142, u143, u144, u145, u146, u147], []⟩ wk := by
  conv => arg 2; whnf
  obtain ⟨fn, hfn⟩ : ∃ n, n = wk.heap.size := ⟨_, rfl⟩
  have H12 := hid (show Calls Try.prog 12 #[] wk fun q w' => q = .returned (.pointer (some ⟨fn + 1 + 1 + 1 + 1, 0, none⟩)) ∧ FleetSt fn w' (fun _ => SD.nil) ∧ Below fn wk w' from by
    rw [hfn]
    refine (fleet12 wk).mono ?_
    rintro q w' ⟨rfl, hf⟩
    exact ⟨rfl, FleetSt.fresh hf, hf.b⟩)
  have HFN := hid hfn
  clear hfn
  go_upto_block 4 with (first
    | (go_at_call 12; refine H12.out.mono ?_; rintro q w1 ⟨rfl, hf1, hb1⟩))
  have HR1 := hid (show RoundP w wk fn cs 0 (fun _ => SD.nil) w1 from ⟨hf1, stands_nil cs, fun q _ => Nat.zero_le _, hb1⟩)
  clear hf1 hb1
  go_cut [] (fun W => Placing w wk fn cs (.int .i64 cs.length) W)
  case rest =>
    obtain ⟨i, x, hi, hin, hR⟩ := hcut
    have hin' : i = cs.length := by
      injection hi with _ hi; omega
    subst hin'
    rename_i K hK
    exact hK _ _ (rest29 fn n cap pa cs x w _ (hid (by
      obtain ⟨h1, h2, h3⟩ := HS.out
      have hfn := HFN.out
      have hb := hR.b
      rw [hfn] at hb
      exact ⟨hR.st, h1.below hb, hR.sd, h2, h3.trans (hb.mono h3.size), by have := h3.size; omega⟩)) _ _ _ _ _ _ _ _ _ _ _ _ _ _ _ _ _ _ _ _ _ _ _ _ _ _ _ _ _ _ _ _ _ _ _ _ _ _ _ _ _ _ _ _ _ _ _ _ _ _ _ _ _ _ _ _ _ _ _ _ _ _ _ _ _ _ _ _ _ _ _ _ _ _ _ _ _ _ _ _ _ _ _ _ _ _ _ _ _ _ _ _ _ _ _ _ _ _ _ _ _ _ _ _ _ _ _ _ _ _ _ _ _ _ _ _ _ _ _ _ _ _ _ _ _ _ _ _ _ _ _ _ _ _ _ _ _ _ _ _ _ _ _ _ _ _ )
  case first =>
    go_wp2
    go_loopw [8] (fun x8 wr => Placing w wk fn cs x8 wr) (fun x8 _ => n - (intOf x8).toNat)
    case atStart => exact ⟨0, _, rfl, Nat.zero_le _, HR1.out⟩
    case round =>
      obtain ⟨i, x, rfl, hin, hR⟩ := hrel
      obtain ⟨hcp, hn, hbw⟩ := HS.out
      have hfn := HFN.out
      by_cases hi : i < n
      · have hcw : Copy wr pa cs := hcp.below (hfn ▸ hR.b)
        obtain ⟨cb, rfl, hcr⟩ := hcw.row (by omega)
        obtain ⟨g0, g1, g2, g3, g4, g5⟩ := hcr.c i (by omega)
        have hcm : cs.getD i pc0 ∈ cs := by
          have : cs.getD i pc0 = cs[i]'(by omega) := by simp [show i < cs.length by omega]
          rw [this]; exact List.getElem_mem _
        obtain ⟨hib, hr0, hr3⟩ := hcw.good _ hcm
        obtain ⟨c, hc⟩ : ∃ c, c = cs.getD i pc0 := ⟨_, rfl⟩
        rw [← hc] at g0 g1 g2 g3 g4 g5 hib hr0 hr3
        obtain ⟨r, hr⟩ : ∃ r : Nat, c.r = r := ⟨c.r.toNat, by omega⟩
        have hrn : r < 3 := by omega
        rw [hr] at g0
        have hiI : (i : Int) < n := by omega
        have hlen := hcp.len
        have hwi : IntKind.i64.wrap ((i : Int) + 1) = i + 1 := wrap_i64 (by omega) (by omega)
        have HIn := hid (And.intro (show i < cs.length by omega) (And.intro hc (And.intro hr hrn)))
        have HRo := hid hR
        have HR := hid hrn
        have hsd := (hR.sd r hrn).1
        have hln := hR.len r hrn
        have e1 := hib.s
        have e2 := hib.d
        unfold In61 at e1 e2
        have hwe : IntKind.i64.wrap (c.s + c.d) = c.s + c.d := wrap_i64 (by omega) (by omega)
        have H14 := hid (show ∀ W : World, Calls Try.prog 14 #[.int .i64 c.e, .int .i64 c.l, .int .i64 c.d] W fun q w' => q = .returned (.agg #[.int .u64 (c.e % 1000000000), .int .i64 (c.e / 1000000000), .pointer none, .int .u64 (c.l % 1000000000), .int .i64 (c.l / 1000000000), .pointer none, .int .i64 c.d]) ∧ Below W.heap.size W w' from fun W => job14 c.e c.l c.d W hib.e hib.l)
        have H15 := hid (show ∀ W : World, Calls Try.prog 15 #[.int .i64 c.s] W fun q w' => q = .returned (.agg #[.int .u64 (c.s % 1000000000), .int .i64 (c.s / 1000000000), .pointer none]) ∧ Below W.heap.size W w' from fun W => by
          have := at15 c.s W (by omega) (by omega)
          rw [tm_cells] at this
          exact this)
        have H13 := hid (show ∀ W : World, FleetSt fn W x → Calls Try.prog 13 #[.pointer (some ⟨fn + 1 + 1 + 1 + 1, 0, none⟩), .int .i64 r, .agg #[.int .u64 (c.e % 1000000000), .int .i64 (c.e / 1000000000), .pointer none, .int .u64 (c.l % 1000000000), .int .i64 (c.l / 1000000000), .pointer none, .int .i64 c.d], .agg #[.int .u64 (c.s % 1000000000), .int .i64 (c.s / 1000000000), .pointer none], .float .f64 c.u] W
            fun q w' => q = .returned (.agg #[.int .i64 r, .int .u64 (c.s % 1000000000), .int .i64 (c.s / 1000000000), .pointer none, .int .u64 ((c.s + c.d) % 1000000000), .int .i64 ((c.s + c.d) / 1000000000), .pointer none, .bool (decide (c.l < c.s + c.d))]) ∧ ∃ y, PlaceF fn W x r c.s c.d c.u (decide (c.l - c.e - c.d = 0)) w' y from fun W hx => by
          have := placeF hx hrn (u := c.u) (by omega) hsd.sorted hsd.lenU hsd.lenG hib.e hib.l hib.d hib.s
          rw [tm_cells] at this
          exact this)
        have H16 := hid (show ∀ W : World, Calls Try.prog 16 #[.agg #[.int .u64 (c.s % 1000000000), .int .i64 (c.s / 1000000000), .pointer none]] W fun q w' => q = .returned (.int .i64 c.s) ∧ Below W.heap.size W w' from fun W => by
          have := ns16 c.s W (by omega) (by omega)
          rw [tm_cells] at this
          exact this)
        have H16' := hid (show ∀ W : World, Calls Try.prog 16 #[.agg #[.int .u64 ((c.s + c.d) % 1000000000), .int .i64 ((c.s + c.d) / 1000000000), .pointer none]] W fun q w' => q = .returned (.int .i64 (c.s + c.d)) ∧ Below W.heap.size W w' from fun W => by
          have := ns16 (c.s + c.d) W (by omega) (by omega)
          rw [tm_cells] at this
          exact this)
        have hsf := store5 (P := Try.prog) wr (.int .i64 r) (.int .i64 c.e) (.int .i64 c.l) (.int .i64 c.d) (.int .i64 c.s) c.u
        obtain ⟨W2, hW2⟩ : ∃ W, W = wr.alloc (.cells #[.int .i64 r, .int .i64 c.e, .int .i64 c.l, .int .i64 c.d, .int .i64 c.s, .float .f64 c.u] 34) := ⟨_, rfl⟩
        have hF2 : FleetSt fn W2 x := by rw [hW2]; exact hR.st.alloc _
        have hJ2 : Hold fn x W2 wr.heap.size (.cells #[.int .i64 r, .int .i64 c.e, .int .i64 c.l, .int .i64 c.d, .int .i64 c.s, .float .f64 c.u] 34 (0, 0)) := by rw [hW2]; exact Hold.new hR.st _
        have hB2 : Below fn wk W2 := by rw [hW2]; exact hR.b.alloc (by have := hR.b.size; omega) _
        have HN2 := hid (show fn ≤ W2.heap.size from by have := hF2.flt_lt; omega)
        clear hcp hn hbw hfn hcw hcr hcm hib hr0 hr3 hc hr hrn hR hsd hln e1 e2
        generalize c.e % 1000000000 = en at *
        generalize c.e / 1000000000 = es at *
        generalize c.l % 1000000000 = ln at *
        generalize c.l / 1000000000 = ls at *
        generalize c.s % 1000000000 = sn at *
        generalize c.s / 1000000000 = ss at *
        generalize (c.s + c.d) % 1000000000 = xn at *
        generalize (c.s + c.d) / 1000000000 = xs at *
        generalize hlate : decide (c.l < c.s + c.d) = late at *
        generalize hurg : decide (c.l - c.e - c.d = 0) = urg at *
        have HUrg := hid hurg
        clear hurg
        go_upto_region 25 with fail
        rw [← hW2]
        obtain ⟨B9, hB9⟩ : ∃ B, wr.heap.size = B := ⟨_, rfl⟩
        rw [hB9] at hJ2 ⊢
        have HB9 := hid hB9
        have HP2 := hid (Pre.start hF2 hB2)
        have HJ2 := hid hJ2
        have lt2 := hJ2.lt
        have nb2 : B9 ≠ W2.heap.size := Nat.ne_of_lt lt2
        have HC6 := hid (show ∀ W : World, HoldE B9 (.cells #[.int .i64 r, .int .i64 c.e, .int .i64 c.l, .int .i64 c.d, .int .i64 c.s, .float .f64 c.u] 34 (0, 0)) W → (W.cell? ⟨B9, 0, none⟩ = some (.int .i64 r) ∧ W.cell? ⟨B9, 1, none⟩ = some (.int .i64 c.e) ∧ W.cell? ⟨B9, 2, none⟩ = some (.int .i64 c.l) ∧ W.cell? ⟨B9, 3, none⟩ = some (.int .i64 c.d) ∧ W.cell? ⟨B9, 4, none⟩ = some (.int .i64 c.s) ∧ W.cell? ⟨B9, 5, none⟩ = some (.float .f64 c.u)) from fun W hx => row6 hx.2)
        obtain ⟨k0, k1, k2, k3, k4, k5⟩ := HC6.out _ hJ2.e
        have H14x := hid (show ∀ W, Pre fn wk x W2 W → Calls Try.prog 14 #[.int .i64 c.e, .int .i64 c.l, .int .i64 c.d] W fun q w' => q = .returned (.agg #[.int .u64 en, .int .i64 es, .pointer none, .int .u64 ln, .int .i64 ls, .pointer none, .int .i64 c.d]) ∧ Pre fn wk x W2 w' ∧ Below W.heap.size W w' from fun W f => by
          refine (H14.out W).mono ?_
          rintro q w' ⟨rfl, hb⟩
          exact ⟨rfl, f.below hb, hb⟩)
        have H15x := hid (show ∀ W, Pre fn wk x W2 W → Calls Try.prog 15 #[.int .i64 c.s] W fun q w' => q = .returned (.agg #[.int .u64 sn, .int .i64 ss, .pointer none]) ∧ Pre fn wk x W2 w' ∧ Below W.heap.size W w' from fun W f => by
          refine (H15.out W).mono ?_
          rintro q w' ⟨rfl, hb⟩
          exact ⟨rfl, f.below hb, hb⟩)
        have H13x := hid (fun (W : World) (q : Pre fn wk x W2 W) => H13.out W q.st)
        have eh2 := hJ2.e
        clear hF2 hJ2 hB2 hB9 hW2 hsf g0 g1 g2 g3 g4 g5 H14 H15 H13
        go_cut [10] from 79 to 138 (fun b W => Placed fn wk x W2 r c.s c.d c.u urg (.cells #[.int .i64 r, .int .u64 sn, .int .i64 ss, .pointer none, .int .u64 xn, .int .i64 xs, .pointer none, .bool late] 42 (0, 0)) b W)
        case first =>
          go_region_held3 (fun W => W.cell? ⟨B9, 0, none⟩ = some (.int .i64 r) ∧ W.cell? ⟨B9, 1, none⟩ = some (.int .i64 c.e) ∧ W.cell? ⟨B9, 2, none⟩ = some (.int .i64 c.l) ∧ W.cell? ⟨B9, 3, none⟩ = some (.int .i64 c.d) ∧ W.cell? ⟨B9, 4, none⟩ = some (.int .i64 c.s) ∧ W.cell? ⟨B9, 5, none⟩ = some (.float .f64 c.u)) (first | (refine HC6.out _ ?_; repeat (first | (with_reducible assumption) | (with_reducible refine HoldE.drew ?_) | (with_reducible refine HoldE.alloc ?_ _) | (with_reducible refine HoldE.set ?_ nb4 _) | (with_reducible refine HoldE.set ?_ nb3 _) | (with_reducible refine HoldE.set ?_ nb2 _))))
            ((first
              | (go_at_call 14; with_reducible refine (H14x.out W2.drew HP2.out.drew).mono ?_; rintro q w3 ⟨rfl, p3, hb3⟩; have x3 := p3.c _ _ HJ2.out; have eh3 := x3.e; have nb3 : B9 ≠ w3.heap.size := Nat.ne_of_lt x3.lt)
              | (go_at_call 14; with_reducible refine (H14x.out (W2.alloc _).drew (HP2.out.alloc _).drew).mono ?_; rintro q w3 ⟨rfl, p3, hb3⟩; have x3 := p3.c _ _ HJ2.out; have eh3 := x3.e; have nb3 : B9 ≠ w3.heap.size := Nat.ne_of_lt x3.lt; have z3 := (Hold.new HP2.out.st _).drew.below hb3)
              | (go_at_call 15; with_reducible refine (H15x.out w3 p3).mono ?_; rintro q w4 ⟨rfl, p4, hb4⟩; have x4 := p4.c _ _ HJ2.out; have eh4 := x4.e; have nb4 : B9 ≠ w4.heap.size := Nat.ne_of_lt x4.lt; (first | (have z4 := z3.below hb4) | skip))
              | (go_at_call 15; with_reducible refine (H15x.out (w3.alloc _) (p3.alloc _)).mono ?_; rintro q w4 ⟨rfl, p4, hb4⟩; have x4 := p4.c _ _ HJ2.out; have eh4 := x4.e; have nb4 : B9 ≠ w4.heap.size := Nat.ne_of_lt x4.lt; have z4 := (Hold.new p3.st _).below hb4; have s3 := p3.size)
              | (go_at_call 13; with_reducible refine (H13x.out w4 p4).mono ?_; rintro q w5 ⟨rfl, y, hP⟩; have x5 := (p4.c _ _ HJ2.out).place HR.out hP; have eh5 := x5.e; (first | (have z5 := z4.place HR.out hP; obtain ⟨y0, y1, y2, y3, y4, y5, y6, y7, y8⟩ := row8 z5.at_; (first | (have R := hid (Placed.old (a0 := .int .i64 r) (a1 := .int .u64 sn) (a2 := .int .i64 ss) (a3 := .pointer none) (a4 := .int .u64 xn) (a5 := .int .i64 xs) (a6 := .pointer none) (a7 := .bool late) HR.out p4 hP z5 (Nat.le_refl _) HN2.out)) | (have R := hid (Placed.old (a0 := .int .i64 r) (a1 := .int .u64 sn) (a2 := .int .i64 ss) (a3 := .pointer none) (a4 := .int .u64 xn) (a5 := .int .i64 xs) (a6 := .pointer none) (a7 := .bool late) HR.out p4 hP z5 s3 HN2.out)))) | (have R := hid (Placed.new HR.out p4 hP (.cells #[.int .i64 r, .int .u64 sn, .int .i64 ss, .pointer none, .int .u64 xn, .int .i64 xs, .pointer none, .bool late] 42 (0, 0))))))
              | (go_at_call 13; with_reducible refine (H13x.out (w4.alloc _) (p4.alloc _)).mono ?_; rintro q w5 ⟨rfl, y, hP⟩; have x5 := ((p4.alloc _).c _ _ HJ2.out).place HR.out hP; have eh5 := x5.e; have z5 := (Hold.new p4.st _).place HR.out hP; obtain ⟨y0, y1, y2, y3, y4, y5, y6, y7, y8⟩ := row8 z5.at_; have R := hid (Placed.old (a0 := .int .i64 r) (a1 := .int .u64 sn) (a2 := .int .i64 ss) (a3 := .pointer none) (a4 := .int .u64 xn) (a5 := .int .i64 xs) (a6 := .pointer none) (a7 := .bool late) HR.out (p4.alloc _) hP z5 p4.size HN2.out))))
          all_goals go_wp2_with fail
          all_goals go_meet
          all_goals exact R.out
        case rest =>
          obtain ⟨B10, y, rfl, hst, hJ10, hF6, hB6, hc6, hsz6⟩ := hcut
          have hJ9 := hc6 _ _ HJ2.out
          have HCl := hid (show ∀ W : World, Below wc.heap.size wc W → (W.cell? ⟨B10, 0, none⟩ = some (.int .i64 r) ∧ W.cell? ⟨B10, 1, none⟩ = some (.int .u64 sn) ∧ W.cell? ⟨B10, 2, none⟩ = some (.int .i64 ss) ∧ W.cell? ⟨B10, 3, none⟩ = some (.pointer none) ∧ W.cell? ⟨B10, 4, none⟩ = some (.int .u64 xn) ∧ W.cell? ⟨B10, 5, none⟩ = some (.int .i64 xs) ∧ W.cell? ⟨B10, 6, none⟩ = some (.pointer none) ∧ W.cell? ⟨B10, 7, none⟩ = some (.bool late) ∧ W.cell? ⟨B9, 0, none⟩ = some (.int .i64 r) ∧ W.cell? ⟨B9, 1, none⟩ = some (.int .i64 c.e) ∧ W.cell? ⟨B9, 2, none⟩ = some (.int .i64 c.l) ∧ W.cell? ⟨B9, 3, none⟩ = some (.int .i64 c.d) ∧ W.cell? ⟨B9, 4, none⟩ = some (.int .i64 c.s) ∧ W.cell? ⟨B9, 5, none⟩ = some (.float .f64 c.u)) from fun W hW => by
            obtain ⟨q0, q1, q2, q3, q4, q5, q6, q7, -⟩ := row8 (hJ10.below hW).at_
            obtain ⟨p0, p1, p2, p3, p4, p5⟩ := row6 (hJ9.below hW).at_
            exact ⟨q0, q1, q2, q3, q4, q5, q6, q7, p0, p1, p2, p3, p4, p5⟩)
          have HFin := hid (show ∀ W : World, Below wc.heap.size wc W → RoundP w wk fn cs (i + 1) (upd x r y) W from fun W hW => by
            obtain ⟨h1, h2, h3, h4⟩ := HIn.out
            have hR := HRo.out
            refine ⟨hF6.below hW, stands_step hR.sd h1 h2 h3 h4 (by rw [HUrg.out]; exact hst), fun q hq => ?_, hB6.trans (hW.mono (by have := hF6.flt_lt; omega))⟩
            unfold upd
            by_cases e : q = r
            · subst e
              rw [if_pos rfl]
              have := hst.len
              have := hR.len q hq
              omega
            · rw [if_neg e]
              have := hR.len q hq
              omega)
          have H16a := hid (show ∀ W : World, Below wc.heap.size wc W → Calls Try.prog 16 #[.agg #[.int .u64 sn, .int .i64 ss, .pointer none]] W fun q w' => q = .returned (.int .i64 c.s) ∧ Below wc.heap.size wc w' from fun W hW => by
            refine (H16.out W).mono ?_
            rintro q w' ⟨rfl, hb⟩
            exact ⟨rfl, hW.trans (hb.mono hW.size)⟩)
          have H16b := hid (show ∀ W : World, Below wc.heap.size wc W → Calls Try.prog 16 #[.agg #[.int .u64 xn, .int .i64 xs, .pointer none]] W fun q w' => q = .returned (.int .i64 (c.s + c.d)) ∧ Below wc.heap.size wc w' from fun W hW => by
            refine (H16'.out W).mono ?_
            rintro q w' ⟨rfl, hb⟩
            exact ⟨rfl, hW.trans (hb.mono hW.size)⟩)
          have bd : Below wc.heap.size wc wc.drew := (Below.refl _ _).drew
          obtain ⟨q0, q1, q2, q3, q4, q5, q6, q7, p0, p1, p2, p3, p4, p5⟩ := HCl.out wc (Below.refl _ _)
          clear hst hJ10 hF6 hB6 hc6 hsz6 hJ9 H16 H16' HC6 HP2 HJ2 H14x H15x H13x
          go_upto_region 27 with fail
          go_region_held3 (fun W => W.cell? ⟨B10, 0, none⟩ = some (.int .i64 r) ∧ W.cell? ⟨B10, 1, none⟩ = some (.int .u64 sn) ∧ W.cell? ⟨B10, 2, none⟩ = some (.int .i64 ss) ∧ W.cell? ⟨B10, 3, none⟩ = some (.pointer none) ∧ W.cell? ⟨B10, 4, none⟩ = some (.int .u64 xn) ∧ W.cell? ⟨B10, 5, none⟩ = some (.int .i64 xs) ∧ W.cell? ⟨B10, 6, none⟩ = some (.pointer none) ∧ W.cell? ⟨B10, 7, none⟩ = some (.bool late) ∧ W.cell? ⟨B9, 0, none⟩ = some (.int .i64 r) ∧ W.cell? ⟨B9, 1, none⟩ = some (.int .i64 c.e) ∧ W.cell? ⟨B9, 2, none⟩ = some (.int .i64 c.l) ∧ W.cell? ⟨B9, 3, none⟩ = some (.int .i64 c.d) ∧ W.cell? ⟨B9, 4, none⟩ = some (.int .i64 c.s) ∧ W.cell? ⟨B9, 5, none⟩ = some (.float .f64 c.u)) (first | (refine HCl.out _ ?_; with_reducible assumption))
            ((first
              | (go_at_call_has 16 (sn); with_reducible refine (H16a.out wc.drew bd).mono ?_; rintro q w7 ⟨rfl, b7⟩)
              | (go_at_call_has 16 (xn); with_reducible refine (H16b.out w7 b7).mono ?_; rintro q w8 ⟨rfl, b8⟩)))
          go_wp2
          go_roundw
          case rel =>
            exact ⟨i + 1, upd x r y, by go_num, HIn.out.1, HFin.out _ b8⟩
          case measure => simp [intOf]; omega
      · have hiI : ¬ (i : Int) < n := by omega
        have HG := hid (show Placing w wk fn cs (.int .i64 cs.length) wr from ⟨i, x, by rw [show i = cs.length by omega], hin, hR⟩)
        clear hcp hn hbw hfn hR
        go_wp2
        go_meet
        exact HG.out
end Go.Proofs.Qxb6604397a
