/-
  Seat b6604397a. FnFleetPlaceScript (5): the three regions held against the model (in a declaration of its own).
-/
import Derived.Test.Qxb6604397aAgB
namespace Go.Proofs.Qxb6604397a
open Go.RowKit

noncomputable def tail29 : Code := (Try.f5.body.bind (tailFrom 29)).getD .skip

/-- The script's own copy of the calls. -/
structure Copy (W : World) (pa : Option Addr) (cs : List PC) : Prop where
  len : cs.length ≤ 1024
  good : ∀ c ∈ cs, InB c ∧ 0 ≤ c.r ∧ c.r < 3
  row : 0 < cs.length → ∃ cb, pa = some ⟨cb, 0, none⟩ ∧ CRow W cb cs

theorem Copy.below {W W' : World} {pa : Option Addr} {cs : List PC} (h : Copy W pa cs) (hb : Below W.heap.size W W') : Copy W' pa cs :=
  ⟨h.len, h.good, fun h0 => by obtain ⟨cb, e, q⟩ := h.row h0; exact ⟨cb, e, q.below hb⟩⟩

/-- Every region stands as its jobs among the first i calls have left it. -/
def Stands (cs : List PC) (i : Nat) (x : Nat → SD) : Prop := ∀ q : Nat, q < 3 → Inv (jobsOf q (cs.take i)) (x q).ts (x q).us (x q).gs (x q).rc ∧ PeakOf (Vals (jobsOf q (cs.take i))) (x q).pk

/-- A counting loop over worlds that only grow. -/
def CountUp (L : Nat) (w9 : World) (x : Value) (wr : World) : Prop := ∃ k : Nat, x = .int .i64 k ∧ k ≤ L ∧ Below w9.heap.size w9 wr

set_option maxRecDepth 1000000 in
set_option maxHeartbeats 0 in
theorem rest29 (fn n cap : Nat) (pa : Option Addr) (cs : List PC) (x : Nat → SD) (w wc : World) (HS : Hid (FleetSt fn wc x ∧ Copy wc pa cs ∧ Stands cs cs.length x ∧ n = cs.length ∧ Below w.heap.size w wc ∧ w.heap.size ≤ fn))
    (u1 u2 u3 u4 u5 u6 u8 u9 u10 u11 u12 u13 u14 u15 u16 u17 u18 u19 u20 u21 u22 u23 u24 u25 u26 u27 u28 u29 u30 u31 u32 u33 u34 u35 u36 u37 u38 u39 u40 u41 u42 u43 u44 u45 u46 u47 u48 u49 u50 u51 u52 u53 u54 u55 u56 u57 u58 u59 u60 u61 u62 u63 u64 u65 u66 u67 u68 u69 u70 u71 u72 u73 u74 u75 u76 u77 u78 u79 u80 u81 u82 u83 u84 u85 u86 u87 u88 u89 u90 u91 u92 u93 u94 u95 u96 u97 u98 u99 u100 u101 u102 u103 u104 u105 u106 u107 u108 u109 u110 u111 u112 u113 u114 u115 u116 u117 u118 u119 u120 u121 u122 u123 u124 u125 u126 u127 u128 u129 u130 u131 u132 u133 u134 u135 u136 u137 u138 u139 u140 u141 u142 u143 u144 u145 u146 u147 : Value) :
    Code.wp Try.prog tail29 (bodyPost Try.prog Try.f5 fun q w' => q = .returned (.bool true) ∧ Below w.heap.size w w') ⟨#[.slice pa n cap, u1, u2, u3, u4, u5, u6, .pointer (some ⟨fn + 1 + 1 + 1 + 1, 0, none⟩), u8, u9, u10, u11, u12, u13, u14, u15, u16, u17, u18, u19, u20, u21, u22, u23, u24, u25, u26, u27, u28, u29, u30, u31, u32, u33, u34, u35, u36, u37, u38, u39, u40, u41, u42, u43, u44, u45, u46, u47, u48, u49, u50, u51, u52, u53, u54, u55, u56, u57, u58, u59, u60, u61, u62, u63, u64, u65, u66, u67, u68, u69, u70, u71, u72, u73, u74, u75, u76, u77, u78, u79, u80, u81, u82, u83, u84, u85, u86, u87, u88, u89, u90, u91, u92, u93, u94, u95, u96, u97, u98, u99, u100, u101, u102, u103, u104, u105, u106, u107, u108, u109, u110, u111, u112, u113, u114, u115, u116, u117, u118, u119, u120, u121, u122, u123, u124, u125, u126, u127, u128, u129, u130, u131, u132, u133, u134, u135, u136, u137, u138, u139, u140, u141, u142, u143, u144, u145, u146, u147], []⟩ wc := by
  conv => arg 2; whnf
  have H17 := hid (show ∀ (q : Nat) (W : World), q < 3 → Below wc.heap.size wc W → Calls Try.prog 17 #[.pointer (some ⟨fn + 1 + 1 + 1 + 1, 0, none⟩), .int .i64 q, .slice pa n cap] W fun z w' => z = .returned (.bool true) ∧ Below wc.heap.size wc w' from fun q W hq hW => by
    obtain ⟨h1, h2, h3, h4, h5, h6⟩ := HS.out
    have h7 := h2.below hW
    have h8 := h3 q hq
    rw [List.take_length] at h8
    rw [h4]
    refine (agrees17 fn q x cs pa cap W (h1.below hW) hq h7.len (fun c hc => (h7.good c hc).1) h7.row h8.1 h8.2).mono ?_
    rintro z w' ⟨rfl, hb⟩
    exact ⟨rfl, hW.trans (hb.mono hW.size)⟩)
  go_wp2
  go_loopw [12] (fun x12 wr => CountUp 3 wc x12 wr) (fun x12 _ => 3 - (intOf x12).toNat)
  case atStart => exact ⟨0, rfl, by omega, Below.refl _ _⟩
  case round =>
    obtain ⟨q, rfl, hq3, hbr⟩ := hrel
    by_cases hq : q < 3
    · have hqI : (q : Int) < 3 := by omega
      have hwk : IntKind.i64.wrap ((q : Int) + 1) = q + 1 := wrap_i64 (by omega) (by omega)
      go_wp2_with (first
        | (go_at_call 17; refine (H17.out q _ hq hbr).mono ?_; rintro z w7 ⟨rfl, hb7⟩))
      go_roundw
      case rel => exact ⟨q + 1, by go_num, by omega, hb7⟩
      case measure => simp [intOf]; omega
    · have hqI : ¬ (q : Int) < 3 := by omega
      have HB := hid (HS.out.2.2.2.2.1.trans (hbr.mono HS.out.2.2.2.2.1.size))
      go_wp2
      go_ret
      exact ⟨rfl, HB.out⟩
end Go.Proofs.Qxb6604397a
