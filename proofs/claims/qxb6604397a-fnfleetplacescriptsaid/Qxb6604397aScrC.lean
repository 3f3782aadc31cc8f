/-
  Seat b6604397a. FnFleetPlaceScript (5): the script's own copy of the calls (in a declaration of its own).
-/
import Derived.Test.Qxb6604397aScrB
import Derived.Test.Qxb6604397aOpA
import Derived.Deep.MidRow
namespace Go.Proofs.Qxb6604397a
open Go.RowKit

noncomputable def tailC : Code := (Try.f5.body.bind (tailFrom 13)).getD .skip

theorem size34 : (Try.prog.info? 34).map (·.size) = some 6 := by kernel_rfl
theorem info34 : (Try.prog.info? 34).map (fun i => (i.zero, i.size, i.bytes)) = some (some (.agg #[.int .i64 0, .int .i64 0, .int .i64 0, .int .i64 0, .int .i64 0, .float .f64 0]), 6, 48) := by kernel_rfl

theorem below_setCells {B D : Nat} {a : World} (hB : B ≤ D) : ∀ (vs : List Value) (o : Nat) {w : World}, Below B a w → Below B a (w.setCells D o vs)
  | [], _, _, h => h
  | v :: vs, o, w, h => below_setCells hB vs (o + 1) (w := w.setCell ⟨D, o, none⟩ v) (h.setCell hB v)

/-- What the copying loop has done. -/
structure Copied (W0 : World) (D n : Nat) (cs : List PC) (k : Nat) (wr : World) : Prop where
  done : ∀ j, j < k → wr.rangeAt D (j * 6) (pcL (cs.getD j pc0))
  there : wr.there D 0 (n * 6)
  b : Below W0.heap.size W0 wr

def Copying (W0 : World) (D n : Nat) (cs : List PC) (x6 : Value) (wr : World) : Prop := ∃ k : Nat, x6 = .int .i64 k ∧ k ≤ n ∧ Copied W0 D n cs k wr

theorem Copied.step {W0 : World} {D n k : Nat} {cs : List PC} {wr : World} {c : PC} (h : Copied W0 D n cs k wr) (hk : k < n) (hD : W0.heap.size ≤ D) (hc : c = cs.getD k pc0) : Copied W0 D n cs (k + 1) (wr.setCells D (k * 6) (pcL c)) := by
  have hth : wr.there D (k * 6) (pcL c).length := fun j hj => by
    have hj' : j < 6 := hj
    have := h.there (k * 6 + j) (by omega)
    simpa using this
  refine ⟨fun j hj => ?_, World.there_setCells h.there D (k * 6) (pcL c), below_setCells hD _ _ h.b⟩
  by_cases e : j = k
  · subst e; rw [← hc]; exact World.rangeAt_setCells_same wr D _ _ hth
  · exact World.rangeAt_setCells_apart (h.done j (by omega)) D (k * 6) (pcL c) (.inr (.inl (by show j * 6 + 6 ≤ k * 6; omega)))

/-- The calls as they stand behind the copying. -/
def Own5 (w : World) (n : Nat) (cs : List PC) (v : Value) (W : World) : Prop := ∃ pa cap, v = .slice pa n cap ∧ Copy W pa cs ∧ Below w.heap.size w W

theorem Copied.all {W0 : World} {D n : Nat} {cs : List PC} {wr : World} (h : Copied W0 D n cs n wr) (hn : n = cs.length) (hD : D < wr.heap.size) : CRow wr D cs := by
  refine ⟨hD, fun k hk => ?_⟩
  have q := h.done k (by omega)
  exact ⟨q 0 _ rfl, q 1 _ rfl, q 2 _ rfl, q 3 _ rfl, q 4 _ rfl, q 5 _ rfl⟩

set_option maxRecDepth 1000000 in
set_option maxHeartbeats 0 in
theorem restC (n cap : Nat) (pa : Option Addr) (cs : List PC) (w W0 : World) (HS : Hid (((pa = none ∧ cs = []) ∨ ∃ a, pa = some a ∧ SRow W0 a cs) ∧ cs.length ≤ 1024 ∧ (∀ c ∈ cs, InB c ∧ 0 ≤ c.r ∧ c.r < 3) ∧ n = cs.length ∧ Below w.heap.size w W0))
    (u1 u2 u3 u4 u5 u6 u7 u8 u9 u10 u11 u12 u13 u14 u15 u16 u17 u18 u19 u20 u21 u22 u23 u24 u25 u26 u27 u28 u29 u30 u31 u32 u33 u34 u35 u36 u37 u38 u39 u40 u41 u42 u43 u44 u45 u46 u47 u48 u49 u50 u51 u52 u53 u54 u55 u56 u57 u58 u59 u60 u61 u62 u63 u64 u65 u66 u67 u68 u69 u70 u71 u72 u73 u74 u75 u76 u77 u78 u79 u80 u81 u82 u83 u84 u85 u86 u87 u88 u89 u90 u91 u92 u93 u94 u95 u96 u97 u98 u99 u100 u101 u102 u103 u104 u105 u106 u107 u108 u109 u110 u111 u112 u113 u114 u115 u116 u117 u118 u119 u120 u121 u122 u123 u124 u125 u126 u127 u128 u129 u130 u131 u132 u133 u134 u135 u136 u137 u138 u139 u140 u141 u142 u143 u144 u145 u146 u147 : Value) :
    Code.wp Try.prog tailC (bodyPost Try.prog Try.f5 fun q w' => q = .returned (.bool true) ∧ Below w.heap.size w w') ⟨#[.slice pa n cap, u1, u2, u3, u4, u5, u6, u7, u8, u9, u10, u11, u12, u13, u14, u15, u16, u17, u18, u19, u20, u21, u22, u23, u24, u25, u26, u27, u28, u29, u30, u31, u32, u33, u34, u35, u36, u37, u38, u39, u40, u41, u42, u43, u44, u45, u46, u47, u48, u49, u50, u51, u52, u53, u54, u55, u56, u57, u58, u59, u60, u61, u62, u63, u64, u65, u66, u67, u68, u69, u70, u71, u72, u73, u74, u75, u76, u77, u78, u79, u80, u81, u82, u83, u84, u85, u86, u87, u88, u89, u90, u91, u92, u93, u94, u95, u96, u97, u98, u99, u100, u101, u102, u103, u104, u105, u106, u107, u108, u109, u110, u111, u112, u113, u114, u115, u116, u117, u118, u119, u120, u121, u122, u123, u124, u125, u126, u127, u128, u129, u130, u131, u132, u133, u134, u135, u136, u137, u138, u139, u140, u141, u142, u143, u144, u145, u146, u147], []⟩ W0 := by
  conv => arg 2; whnf
  go_upto_if 60 with fail
  go_cut [0] (fun v W => Own5 w n cs v W)
  case rest =>
    obtain ⟨pa', cap', rfl, hcp, hb⟩ := hcut
    rename_i K hK
    exact hK _ _ (rest20 n cap' pa' cs w _ (hid ⟨hcp, HS.out.2.2.2.1, hb⟩) _ _ _ _ _ _ _ _ _ _ _ _ _ _ _ _ _ _ _ _ _ _ _ _ _ _ _ _ _ _ _ _ _ _ _ _ _ _ _ _ _ _ _ _ _ _ _ _ _ _ _ _ _ _ _ _ _ _ _ _ _ _ _ _ _ _ _ _ _ _ _ _ _ _ _ _ _ _ _ _ _ _ _ _ _ _ _ _ _ _ _ _ _ _ _ _ _ _ _ _ _ _ _ _ _ _ _ _ _ _ _ _ _ _ _ _ _ _ _ _ _ _ _ _ _ _ _ _ _ _ _ _ _ _ _ _ _ _ _ _ _ _ _ _ _ _ _ )
  case first =>
    obtain ⟨hpa, hlen, hgood, hn, hbw⟩ := HS.out
    rcases hpa with ⟨rfl, hcs⟩ | ⟨a, rfl, hrow⟩
    · have HG := hid (show Own5 w n cs (.slice none n cap) W0 from ⟨none, cap, rfl, ⟨hlen, hgood, fun h => by rw [hcs] at h; exact absurd h (Nat.not_lt_zero _)⟩, hbw⟩)
      clear hlen hgood hn hbw hcs
      go_wp2
      go_meet
      exact HG.out
    · obtain ⟨ti, hti, hz0, hz1, hz2⟩ := info_parts info34
      obtain ⟨w1, hmk, hown1, hgr1⟩ := run_make_full (P := Try.prog) W0 0 31 34 ti (.agg #[.int .i64 0, .int .i64 0, .int .i64 0, .int .i64 0, .int .i64 0, .float .f64 0]) 6 Try.underlying31 hti hz0 hz1 .i64 .i64 n (by rw [hz2]; omega) (by unfold maxLen; omega) (Nat.zero_le _)
      have b1 : Below W0.heap.size W0 w1 := ⟨hgr1.os, hgr1.tape, hgr1.output, hgr1.size, fun k hk => hgr1.block k hk (fun h => by cases h)⟩
      have hD : W0.heap.size < w1.heap.size := (hown1.lt W0.heap.size rfl).2
      have H1 := hid (show Copied W0 W0.heap.size n cs 0 w1 from ⟨fun j hj => absurd hj (Nat.not_lt_zero _), fun j hj => ⟨by
          rw [Nat.zero_add, hown1.cellAt j (by omega)]
          have hl := hown1.1
          rw [List.getElem?_eq_getElem (by omega)]; rfl, by rw [Nat.zero_add]; exact hown1.frozenAt j⟩, b1⟩)
      have hlt : ∀ k, k < cs.length → a.block < W0.heap.size := fun k hk => by
        have h1 := (hrow k hk).1
        have h2 : (a.add (k * 6)).block = a.block := by unfold Addr.add; split <;> rfl
        rw [← h2]
        unfold World.cell? at h1
        rcases Nat.lt_or_ge (a.add (k * 6)).block W0.heap.size with h | h
        · exact h
        · rw [Array.getElem?_eq_none h] at h1; simp at h1
      have HSrc := hid (show ∀ (W : World) (k : Nat), Below W0.heap.size W0 W → k < n → W.cell? (a.add (k * 6)) = some (.int .i64 (cs.getD k pc0).r) ∧ W.cell? ⟨(a.add (k * 6)).block, (a.add (k * 6)).off + 1, none⟩ = some (.int .i64 (cs.getD k pc0).e) ∧ W.cell? ⟨(a.add (k * 6)).block, (a.add (k * 6)).off + 2, none⟩ = some (.int .i64 (cs.getD k pc0).l) ∧
          W.cell? ⟨(a.add (k * 6)).block, (a.add (k * 6)).off + 3, none⟩ = some (.int .i64 (cs.getD k pc0).d) ∧ W.cell? ⟨(a.add (k * 6)).block, (a.add (k * 6)).off + 4, none⟩ = some (.int .i64 (cs.getD k pc0).s) ∧ W.cell? ⟨(a.add (k * 6)).block, (a.add (k * 6)).off + 5, none⟩ = some (.float .f64 (cs.getD k pc0).u) from fun W k hW hk => by
        have hk' : k < cs.length := by omega
        have q : ∀ j, W.cell? (a.add j) = W0.cell? (a.add j) := fun j => hW.cell (by
          have h2 : (a.add j).block = a.block := by unfold Addr.add; split <;> rfl
          rw [h2]; exact hlt k hk')
        obtain ⟨h0, h1, h2, h3, h4, h5⟩ := hrow k hk'
        have e : ∀ j, 0 < j → (⟨(a.add (k * 6)).block, (a.add (k * 6)).off + j, none⟩ : Addr) = a.add (k * 6 + j) := fun j hj => by
          rw [← Deep.add_add]; unfold Addr.add; rw [if_neg (show ¬ j = 0 by omega)]
        rw [e 1 (by omega), e 2 (by omega), e 3 (by omega), e 4 (by omega), e 5 (by omega)]
        exact ⟨(q _).trans h0, (q _).trans h1, (q _).trans h2, (q _).trans h3, (q _).trans h4, (q _).trans h5⟩)
      have HDl := hid hD
      have HG := hid (show ∀ W : World, Copied W0 W0.heap.size n cs n W → Own5 w n cs (.slice (some ⟨W0.heap.size, 0, none⟩) n n) W from fun W hW =>
        ⟨some ⟨W0.heap.size, 0, none⟩, n, rfl, ⟨hlen, hgood, fun h0 => ⟨W0.heap.size, rfl, hW.all hn (by
          have h1 := (hW.there 0 (by omega)).1
          rw [Nat.zero_add] at h1
          unfold World.cell? at h1
          rcases Nat.lt_or_ge W0.heap.size W.heap.size with h | h
          · exact h
          · rw [Array.getElem?_eq_none h] at h1; simp at h1)⟩⟩, hbw.trans (hW.b.mono hbw.size)⟩)
      have hn24 : n ≤ 1024 := by omega
      replace hmk : (Instr.makeSlice 31 (.int .i64 (n : Int)) (.int .i64 (n : Int))).run Try.prog W0 = .ok (.slice (some ⟨W0.heap.size, 0, none⟩) n n) w1 := hmk
      clear hlen hgood hn hbw hrow hown1 hgr1 b1 hD hti hz0 hz1 hz2 hlt
      go_wp2
      go_loopw [6] (fun x6 wr => Copying W0 W0.heap.size n cs x6 wr) (fun x6 _ => n - (intOf x6).toNat)
      case atStart => exact ⟨0, rfl, Nat.zero_le _, H1.out⟩
      case round =>
        obtain ⟨k, rfl, hkn, hC⟩ := hrel
        by_cases hk : k < n
        · obtain ⟨g0, g1, g2, g3, g4, g5⟩ := HSrc.out wr k hC.b hk
          obtain ⟨c, hc⟩ : ∃ c, c = cs.getD k pc0 := ⟨_, rfl⟩
          rw [← hc] at g0 g1 g2 g3 g4 g5
          have hth : wr.there W0.heap.size (k * 6) 6 := fun j hj => by
            have := hC.there (k * 6 + j) (by omega)
            simpa using this
          have HC := hid (hC.step hk (Nat.le_refl _) hc)
          have HTh := hid (show wr.there W0.heap.size (k * 6) (#[.int .i64 c.r, .int .i64 c.e, .int .i64 c.l, .int .i64 c.d, .int .i64 c.s, .float .f64 c.u] : Array Value).size from hth)
          have HSz := hid (show (Try.prog.info? 34).map (·.size) = some (#[.int .i64 c.r, .int .i64 c.e, .int .i64 c.l, .int .i64 c.d, .int .i64 c.s, .float .f64 c.u] : Array Value).size from size34)
          have hkI : (k : Int) < n := by omega
          have hwk : IntKind.i64.wrap ((k : Int) + 1) = k + 1 := wrap_i64 (by omega) (by omega)
          clear hC hc hth
          have hone : (#[Value.int .i64 c.r, .int .i64 c.e, .int .i64 c.l, .int .i64 c.d, .int .i64 c.s, .float .f64 c.u] : Array Value).all (·.oneCell') = true := by simp [Value.oneCell']
          have HOne := hid hone
          clear hone
          go_wp2_with (first
            | (with_reducible show wpList _ _ _ (Oper.mk _ (Op.store 34 _ _) _ _ _ _ :: _) _ _; refine wpList_store_mid rfl 34 _ _ rfl W0.heap.size (k * 6) #[.int .i64 c.r, .int .i64 c.e, .int .i64 c.l, .int .i64 c.d, .int .i64 c.s, .float .f64 c.u] rfl rfl HTh.out HSz.out HOne.out ?_))
          go_roundw
          case rel =>
            (repeat apply Exists.intro)
            exact ⟨⟨k + 1, by go_num, hk, HC.out⟩, rfl⟩
          case measure => simp [intOf]; omega
        · have hke : k = n := by omega
          have hkI : ¬ (k : Int) < n := by omega
          have HF := hid (HG.out wr (hke ▸ hC))
          clear hke hC
          go_wp2
          go_meet
          exact HF.out
end Go.Proofs.Qxb6604397a
