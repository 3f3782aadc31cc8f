/-
  Seat b6604397a. FnFleetPlaceThenCancel (6): what follows the comparison of the stretches (in a declaration of its own).
-/
import Derived.Test.Qxb6604397aFsB
import Derived.Test.Qxb6604397aFsD
import Derived.Test.Qxb6604397aCaA
import Derived.Test.Qxb6604397aZiA
import Derived.Laws.MakeOwn
import Derived.Deep.CutRange
import Derived.Deep.CutBlock
import Derived.Deep.DeepCutAuto
namespace Go.Proofs.Qxb6604397a
open Go.RowKit

def headAt (id : Nat) : Code → Bool
  | .region j _ _ => j == id
  | .seq a _ => headAt id a
  | _ => false

/-- What stands from region id on. -/
def seqTail (id : Nat) : Code → Option Code
  | .seq a b => if headAt id a then some (.seq a b) else seqTail id b
  | _ => none

noncomputable def tail11 : Code := (Try.f6.body.bind (seqTail 11)).getD .skip
noncomputable def tail28 : Code := (Try.f6.body.bind (seqTail 28)).getD .skip

/-- A counting loop in one world. -/
def CountIn (L : Nat) (w9 : World) (x : Value) (wr : World) : Prop := ∃ k : Nat, x = .int .i64 k ∧ k ≤ L ∧ wr = w9

/-- A counting loop over worlds that only grow. -/
def CountTo (L : Nat) (w9 : World) (x : Value) (wr : World) : Prop := ∃ k : Nat, x = .int .i64 k ∧ k ≤ L ∧ Below w9.heap.size w9 wr

set_option maxRecDepth 1000000 in
set_option maxHeartbeats 0 in
/-- Behind the comparison of the stretches. -/
theorem rest28 (r : Nat) (e l d s : Int) (u : Nat) (w wc wr : World) (n N6 : Nat) {sg : Bool} {m : Nat} {i : Int} (urg : Bool) (y2 : SD)
    (HNn : Hid (n = w.heap.size)) (HE : Hid (In61 e ∧ In61 l ∧ In61 d ∧ In61 s)) (HU : Hid (Fin64 u sg m i)) (k1 : FloatKind.f64.format.order u u = some Ordering.eq) (hurg : decide (l - e - d = 0) = urg)
    (HB6 : Hid (Below n w wc)) (HN6 : Hid (N6 = wc.heap.size ∧ n ≤ N6)) (HCC : Hid (Cancelled y2 s d u urg (decide (m ≠ 0 ∧ sg = false)))) (hz : FloatKind.f64.format.order 0 0 = some Ordering.eq) (bN : Below N6 wc wr)
    (H22 : Hid (∀ W : World, Below N6 wc W → Calls Try.prog 22 #[.pointer (some ⟨n + 1 + 1 + 1 + 1, 0, none⟩), .int .i64 r] W fun q w' => q = .returned (.float .f64 y2.pk) ∧ w' = W))
    (H23 : Hid (∀ W : World, Below N6 wc W → Calls Try.prog 23 #[.pointer (some ⟨n + 1 + 1 + 1 + 1, 0, none⟩), .int .i64 r] W fun q w' => q = .returned (.int .i64 y2.rc) ∧ w' = W))
    (H24 : Hid (∀ (W : World) (q : Nat), Below N6 wc W → q < 3 → q ≠ r → Calls Try.prog 24 #[.pointer (some ⟨n + 1 + 1 + 1 + 1, 0, none⟩), .int .i64 q] W fun z w' => z = .returned (.bool true) ∧ w' = W))
    (u6 u7 u8 u9 u10 u11 u12 u14 u15 u16 u18 u19 u20 u21 u22 u23 u24 u25 u26 u27 u28 u29 u30 u31 u32 u33 u34 u35 u36 u37 u38 u39 u40 u41 u42 u43 u44 u45 u46 u47 u48 u49 u50 u51 u52 u53 u54 u55 u56 u57 u58 u59 u60 u61 u62 u63 u64 u65 u66 u67 u68 u69 u70 u71 u72 u73 u74 u75 u76 u77 u78 u79 u80 u81 u82 u83 u84 u85 u86 u87 u88 u89 u90 u91 u92 u93 u94 u95 u96 u97 u98 u99 u100 u101 u102 u103 u104 u105 u106 u107 u108 u109 u110 u111 u112 u113 u114 u115 u116 u117 u118 u119 u120 u121 u122 u123 u124 u125 u126 u127 u128 u129 u130 u131 u132 u133 u134 u135 u136 u137 u138 u139 u140 u141 u142 u143 u144 u145 u146 u147 u148 u149 u150 u151 u152 u153 u154 u155 u156 u157 u158 u159 u160 u161 u162 u163 u164 u165 u166 u167 u168 u169 u170 u171 u172 u173 u174 u175 u176 u177 u178 u179 u180 u181 u182 u183 u184 u185 u186 u187 u188 u189 u190 u191 u192 u193 u194 u195 u196 u197 u198 u199 u200 u201 u202 u203 u204 u205 u206 u207 u208 u209 u210 u211 u212 u213 u214 u215 u216 u217 u218 u219 u220 u221 u222 u223 u224 u225 u226 u227 u228 u229 u230 u231 u232 u233 u234 u235 u236 u237 u238 : Value) :
    Code.wp Try.prog tail28 (bodyPost Try.prog Try.f6 fun q w' => q = .returned (.bool true) ∧ Below w.heap.size w w') ⟨#[.int .i64 r, .int .i64 e, .int .i64 l, .int .i64 d, .int .i64 s, .float .f64 u, u6, u7, u8, u9, u10, u11, u12, .pointer (some ⟨n + 1 + 1 + 1 + 1, 0, none⟩), u14, u15, u16, .int .i64 (s + d), u18, u19, u20, u21, u22, u23, u24, u25, u26, u27, u28, u29, u30, u31, u32, u33, u34, u35, u36, u37, u38, u39, u40, u41, u42, u43, u44, u45, u46, u47, u48, u49, u50, u51, u52, u53, u54, u55, u56, u57, u58, u59, u60, u61, u62, u63, u64, u65, u66, u67, u68, u69, u70, u71, u72, u73, u74, u75, u76, u77, u78, u79, u80, u81, u82, u83, u84, u85, u86, u87, u88, u89, u90, u91, u92, u93, u94, u95, u96, u97, u98, u99, u100, u101, u102, u103, u104, u105, u106, u107, u108, u109, u110, u111, u112, u113, u114, u115, u116, u117, u118, u119, u120, u121, u122, u123, u124, u125, u126, u127, u128, u129, u130, u131, u132, u133, u134, u135, u136, u137, u138, u139, u140, u141, u142, u143, u144, u145, u146, u147, u148, u149, u150, u151, u152, u153, u154, u155, u156, u157, u158, u159, u160, u161, u162, u163, u164, u165, u166, u167, u168, u169, u170, u171, u172, u173, u174, u175, u176, u177, u178, u179, u180, u181, u182, u183, u184, u185, u186, u187, u188, u189, u190, u191, u192, u193, u194, u195, u196, u197, u198, u199, u200, u201, u202, u203, u204, u205, u206, u207, u208, u209, u210, u211, u212, u213, u214, u215, u216, u217, u218, u219, u220, u221, u222, u223, u224, u225, u226, u227, u228, u229, u230, u231, u232, u233, u234, u235, u236, u237, u238], []⟩ wr := by
  conv => arg 2; whnf
  have hwl : IntKind.i64.wrap (l - e) = l - e := by
    have h1 := HE.out.1; have h2 := HE.out.2.1
    unfold In61 at h1 h2
    simp only [IntKind.wrap, IntKind.bits, IntKind.signed]; simp; omega
  have hub : (l - e == d) = urg := by
    rw [← hurg, Bool.eq_iff_iff]
    simp only [beq_iff_eq, decide_eq_true_eq]
    omega
  have hpk := HCC.out.pk
  have hrc := HCC.out.rc
  have hpos : (FloatKind.f64.format.order u 0 == some Ordering.gt) = decide (m ≠ 0 ∧ sg = false) := by
    have ho : FloatKind.f64.format.order u 0 = _ := (order_zero HU.out.rd).2
    rw [ho]
    by_cases hm : m = 0
    · simp [hm]
    · cases sg <;> simp [hm]
  have hpp : FloatKind.f64.format.order y2.pk y2.pk = some Ordering.eq := by
    rw [hpk]
    split
    · split
      · split
        · exact k1
        · exact hz
      · exact hz
    · exact hz
  generalize decide (m ≠ 0 ∧ sg = false) = pos at *
  have HPk := hid hpk
  have HRc := hid hrc
  have HPp := hid hpp
  have HUrg := hid hurg
  clear hpk hrc hpp hurg k1
  go_upto_if 203 with fail
  go_cut [24, 25] (fun a b W => a = .float .f64 y2.pk ∧ b = .int .i64 y2.rc ∧ W = wr)
  case first =>
    cases urg with
    | false =>
      go_wp2
      go_meet
      exact ⟨by rw [HPk.out]; rfl, by rw [HRc.out]; rfl, rfl⟩
    | true =>
      by_cases hd : 0 < d
      · cases pos with
        | false =>
          by_cases hsd : 0 < s + d
          · go_wp2
            go_meet
            exact ⟨by rw [HPk.out, if_pos (by simp), if_pos hd, if_neg (by simp)], by rw [HRc.out, if_pos (by simp), if_pos hsd], rfl⟩
          · go_wp2
            go_meet
            exact ⟨by rw [HPk.out, if_pos (by simp), if_pos hd, if_neg (by simp)], by rw [HRc.out, if_pos (by simp), if_neg (by omega)], rfl⟩
        | true =>
          by_cases hsd : 0 < s + d
          · go_wp2
            go_meet
            exact ⟨by rw [HPk.out, if_pos (by simp), if_pos hd, if_pos (by simp)], by rw [HRc.out, if_pos (by simp), if_pos hsd], rfl⟩
          · go_wp2
            go_meet
            exact ⟨by rw [HPk.out, if_pos (by simp), if_pos hd, if_pos (by simp)], by rw [HRc.out, if_pos (by simp), if_neg (by omega)], rfl⟩
      · by_cases hsd : 0 < s + d
        · go_wp2
          go_meet
          exact ⟨by rw [HPk.out, if_pos (by simp), if_neg (by omega)], by rw [HRc.out, if_pos (by simp), if_pos hsd], rfl⟩
        · go_wp2
          go_meet
          exact ⟨by rw [HPk.out, if_pos (by simp), if_neg (by omega)], by rw [HRc.out, if_pos (by simp), if_neg (by omega)], rfl⟩
  case rest =>
    obtain ⟨rfl, rfl, hwc⟩ := hcut
    have hpp := HPp.out
    clear hub hpos
    rw [hwc]
    go_wp2_with (first
      | (go_at_call 22; refine (H22.out _ bN).mono ?_; rintro q wx ⟨rfl, hw⟩; subst wx)
      | (go_at_call 23; refine (H23.out _ bN).mono ?_; rintro q wx ⟨rfl, hw⟩; subst wx))
    go_loopw [26] (fun x W => CountIn 3 wr x W) (fun x _ => 3 - (intOf x).toNat)
    case atStart => exact ⟨0, rfl, by omega, rfl⟩
    case round =>
      obtain ⟨q, rfl, hq3, hwq⟩ := hrel
      rw [hwq]
      by_cases hq : q < 3
      · have hqI : (q : Int) < 3 := by omega
        have hwk : IntKind.i64.wrap ((q : Int) + 1) = q + 1 := by
          simp only [IntKind.wrap, IntKind.bits, IntKind.signed]; simp; omega
        by_cases hqr : q = r
        · have hqb : ((q : Int) != r) = false := by rw [hqr]; simp
          go_wp2
          go_roundw
          case rel => exact ⟨q + 1, by go_num, by omega, rfl⟩
          case measure => simp [intOf]; omega
        · have hqb : ((q : Int) != r) = true := by simp; omega
          have hqn : ¬ (q : Int) = r := by omega
          go_wp2_with (first
            | (go_at_call 24; refine (H24.out _ q bN hq hqr).mono ?_; rintro z wx ⟨rfl, hw⟩; subst wx))
          go_roundw
          case rel => exact ⟨q + 1, by go_num, by omega, rfl⟩
          case measure => simp [intOf]; omega
      · have hqI : ¬ (q : Int) < 3 := by omega
        go_wp2
        go_ret
        refine ⟨rfl, ?_⟩
        rw [← HNn.out]
        exact HB6.out.trans (bN.mono HN6.out.2)

end Go.Proofs.Qxb6604397a
