/-
  Seat b6604397a. The script's calls in memory and as jobs; what zzRegionAgrees (17) leans on.
-/
import Derived.Test.Qxb6604397aPkB
import Derived.Test.Qxb6604397aFsD
import Derived.Test.Qxb6604397aZiA
import Derived.Deep.WholeRow
namespace Go.Proofs.Qxb6604397a
open Go.RowKit

def pc0 : PC := ⟨0, 0, 0, 0, 0, 0⟩
def jobOf (c : PC) : PJob := ⟨c.s, c.d, c.u, decide (c.l - c.e = c.d)⟩
/-- The jobs of region r, in call order. -/
def jobsOf (r : Int) (cs : List PC) : List PJob := (cs.filter fun c => decide (c.r = r)).map jobOf

theorem jobsOf_nil (r : Int) : jobsOf r [] = [] := rfl

theorem jobsOf_succ (r : Int) (cs : List PC) {k : Nat} (hk : k < cs.length) : jobsOf r (cs.take (k + 1)) = jobsOf r (cs.take k) ++ if (cs.getD k pc0).r = r then [jobOf (cs.getD k pc0)] else [] := by
  have h1 : cs.take (k + 1) = cs.take k ++ [cs.getD k pc0] := by
    rw [List.take_add_one]; simp [hk]
  unfold jobsOf
  rw [h1, List.filter_append, List.map_append]
  congr 1
  by_cases h : (cs.getD k pc0).r = r
  · rw [if_pos h, List.filter_cons_of_pos (by simpa using h)]; rfl
  · rw [if_neg h, List.filter_cons_of_neg (by simpa using h)]; rfl

theorem jobsOf_all (r : Int) (cs : List PC) : jobsOf r (cs.take cs.length) = jobsOf r cs := by rw [List.take_length]

/-- A call's times lie within the law's bounds. -/
structure InB (c : PC) : Prop where
  e : In61 c.e
  l : In61 c.l
  d : In61 c.d
  s : In61 c.s

/-- The script's row in memory. -/
structure CRow (w : World) (cb : Nat) (cs : List PC) : Prop where
  lt : cb < w.heap.size
  c : ∀ k, k < cs.length → w.cell? ⟨cb, k * 6, none⟩ = some (.int .i64 (cs.getD k pc0).r) ∧ w.cell? ⟨cb, k * 6 + 1, none⟩ = some (.int .i64 (cs.getD k pc0).e) ∧ w.cell? ⟨cb, k * 6 + 2, none⟩ = some (.int .i64 (cs.getD k pc0).l) ∧
    w.cell? ⟨cb, k * 6 + 3, none⟩ = some (.int .i64 (cs.getD k pc0).d) ∧ w.cell? ⟨cb, k * 6 + 4, none⟩ = some (.int .i64 (cs.getD k pc0).s) ∧ w.cell? ⟨cb, k * 6 + 5, none⟩ = some (.float .f64 (cs.getD k pc0).u)

theorem CRow.below {w w' : World} {cb : Nat} {cs : List PC} (h : CRow w cb cs) (hb : Below w.heap.size w w') : CRow w' cb cs :=
  ⟨Nat.lt_of_lt_of_le h.lt hb.size, fun k hk => by
    obtain ⟨a0, a1, a2, a3, a4, a5⟩ := h.c k hk
    have q : ∀ j, w'.cell? ⟨cb, j, none⟩ = w.cell? ⟨cb, j, none⟩ := fun j => hb.cell h.lt
    exact ⟨(q _).trans a0, (q _).trans a1, (q _).trans a2, (q _).trans a3, (q _).trans a4, (q _).trans a5⟩⟩

theorem row6 {W : World} {B : Nat} {t : TypeId} {a0 a1 a2 a3 a4 a5 : Value} (h : W.heap[B]? = some (.cells #[a0, a1, a2, a3, a4, a5] t (0, 0))) :
    W.cell? ⟨B, 0, none⟩ = some a0 ∧ W.cell? ⟨B, 1, none⟩ = some a1 ∧ W.cell? ⟨B, 2, none⟩ = some a2 ∧ W.cell? ⟨B, 3, none⟩ = some a3 ∧ W.cell? ⟨B, 4, none⟩ = some a4 ∧ W.cell? ⟨B, 5, none⟩ = some a5 :=
  ⟨cell_of_row W _ _ _ t (0, 0) h, cell_of_row W _ _ _ t (0, 0) h, cell_of_row W _ _ _ t (0, 0) h, cell_of_row W _ _ _ t (0, 0) h, cell_of_row W _ _ _ t (0, 0) h, cell_of_row W _ _ _ t (0, 0) h⟩

/-- A float laid into the last field of a call's own copy. -/
theorem store5 {P : Program} (w : World) (a0 a1 a2 a3 a4 : Value) (u : Nat) : (store ⟨w.heap.size, 5, none⟩ (.float .f64 u)).run P (w.alloc (.cells #[a0, a1, a2, a3, a4, .float .f64 0] 34)) = .ok () (w.alloc (.cells #[a0, a1, a2, a3, a4, .float .f64 u] 34)) := by
  have hh := heap_alloc_new w (.cells #[a0, a1, a2, a3, a4, .float .f64 0] 34)
  rw [run_store_f u (cell_of_row _ w.heap.size 5 _ 34 (0, 0) hh) (frozen_of_row _ _ _ _ _ hh), setCell_eq_setRow _ w.heap.size 5 _ 34 (0, 0) _ hh]
  exact congrArg _ (World.setRow_alloc_new w _ _ _)

theorem wrap_i64 {z : Int} (h0 : -9223372036854775808 ≤ z) (h1 : z ≤ 9223372036854775807) : IntKind.i64.wrap z = z := by
  simp only [IntKind.wrap, IntKind.bits, IntKind.signed]; simp; omega

theorem mem_jobsOf {r : Int} {cs : List PC} {j : PJob} (h : j ∈ jobsOf r cs) : ∃ c ∈ cs, c.r = r ∧ jobOf c = j := by
  unfold jobsOf at h
  obtain ⟨c, hc, rfl⟩ := List.mem_map.1 h
  rw [List.mem_filter] at hc
  exact ⟨c, hc.1, of_decide_eq_true hc.2, rfl⟩

/-- What the first loop of zzRegionAgrees has gathered. -/
structure Pts (r : Int) (cs : List PC) (N0 : Nat) (W0 : World) (k : Nat) (v : Value) (xs : List Int) (wr : World) : Prop where
  own : wr.ownsRow 0 2 1 v xs.length (iRow xs)
  new : ∀ b, v.ownBlock = some b → N0 ≤ b
  sorted : Sorted xs
  mem : ∀ z, z ∈ xs ↔ ∃ j ∈ jobsOf r (cs.take k), z = j.s ∨ z = j.s + j.d
  len : xs.length ≤ 2 * k
  b : Below N0 W0 wr

def Gather (r : Int) (cs : List PC) (N0 : Nat) (W0 : World) (x7 x8 x9 : Value) (wr : World) : Prop :=
  ∃ (k : Nat) (xs : List Int), x9 = .int .i64 k ∧ k ≤ cs.length ∧ x8 = .int .i64 (reach (jobsOf r (cs.take k))) ∧ Pts r cs N0 W0 k x7 xs wr

theorem reach_snoc (J : List PJob) (j : PJob) : reach (J ++ [j]) = if j.urg then (if j.s + j.d > reach J then j.s + j.d else reach J) else reach J := by
  unfold reach
  rw [List.foldl_append]
  rfl

/-- A call of another region leaves the points as they are. -/
theorem Pts.skip {r : Int} {cs : List PC} {N0 k : Nat} {W0 wr wr' : World} {v : Value} {xs : List Int} (h : Pts r cs N0 W0 k v xs wr) (hk : k < cs.length) {c : PC} (hc : c = cs.getD k pc0) (hr : c.r ≠ r) (hb : Below wr.heap.size wr wr') (hN : N0 ≤ wr.heap.size) : Pts r cs N0 W0 (k + 1) v xs wr' := by
  refine ⟨owns_of_block h.own fun b hb' => hb.block b (h.own.lt b hb').2, h.new, h.sorted, fun z => ?_, by have := h.len; omega, h.b.trans (hb.mono hN)⟩
  rw [jobsOf_succ r cs hk, ← hc, if_neg hr, List.append_nil]
  exact h.mem z

/-- A call of the region adds its two ends. -/
theorem Pts.add {r : Int} {cs : List PC} {N0 k i1 i2 : Nat} {f1 f2 : Bool} {W0 wr wr' : World} {v v' : Value} {xs : List Int} (h : Pts r cs N0 W0 k v xs wr) (hk : k < cs.length) {c : PC} (hc : c = cs.getD k pc0) (hr : c.r = r)
    (h1 : Found xs xs.length c.s i1 f1) (h2 : Found (insT f1 i1 c.s xs) (insT f1 i1 c.s xs).length (c.s + c.d) i2 f2)
    (ho : wr'.ownsRow 0 2 1 v' (insT f2 i2 (c.s + c.d) (insT f1 i1 c.s xs)).length (iRow (insT f2 i2 (c.s + c.d) (insT f1 i1 c.s xs))))
    (hn : ∀ b, v'.ownBlock = some b → N0 ≤ b) (hb : Below N0 W0 wr') : Pts r cs N0 W0 (k + 1) v' (insT f2 i2 (c.s + c.d) (insT f1 i1 c.s xs)) wr' := by
  refine ⟨ho, hn, h2.sorted (h1.sorted h.sorted), fun z => ?_, ?_, hb⟩
  · rw [mem_insT h2, mem_insT h1, h.mem, jobsOf_succ r cs hk, ← hc, if_pos hr]
    constructor
    · rintro (rfl | rfl | ⟨j, hj, hz⟩)
      · exact ⟨_, List.mem_append_right _ (List.mem_singleton.2 rfl), .inr rfl⟩
      · exact ⟨_, List.mem_append_right _ (List.mem_singleton.2 rfl), .inl rfl⟩
      · exact ⟨j, List.mem_append_left _ hj, hz⟩
    · rintro ⟨j, hj, hz⟩
      rcases List.mem_append.1 hj with hj | hj
      · exact .inr (.inr ⟨j, hj, hz⟩)
      · have := List.mem_singleton.1 hj
        subst this
        rcases hz with rfl | rfl
        · exact .inr (.inl rfl)
        · exact .inl rfl
  · have := h.len
    rw [length_insT h2.le, length_insT h1.le]
    split <;> split <;> omega

/-- zzInsert, ahead of which nothing below N0 is touched. -/
theorem ins18N {W : World} {v : Value} {xs : List Int} {N0 : Nat} {W0 : World} (t : Int) (hn : xs.length ≤ 1000000) (hs : Sorted xs) (h : W.ownsRow 0 2 1 v xs.length (iRow xs)) (hv : ∀ b, v.ownBlock = some b → N0 ≤ b) (hb : Below N0 W0 W) (hN : N0 ≤ W.heap.size) :
    Calls Try.prog 18 #[v, .int .i64 t] W fun e w' => ∃ (i : Nat) (f : Bool) (v' : Value), e = .returned v' ∧ Found xs xs.length t i f ∧ w'.ownsRow 0 2 1 v' (insT f i t xs).length (iRow (insT f i t xs)) ∧ (∀ b, v'.ownBlock = some b → N0 ≤ b) ∧ Below N0 W0 w' ∧ Keep (fun k => v.ownBlock = some k) W w' ∧ (∀ b, v'.ownBlock = some b → v.ownBlock = some b ∨ W.heap.size ≤ b) := by
  refine (ins18 v xs t W hn hs h).mono ?_
  rintro e w' ⟨i, f, v', rfl, a1, a2, a3, a4⟩
  refine ⟨i, f, v', rfl, a1, a2, fun b hb' => ?_, ?_, a4, a3⟩
  · rcases a3 b hb' with q | q
    · exact hv b q
    · omega
  · exact hb.trans ⟨a4.os, a4.tape, a4.output, a4.size, fun k hk => a4.block k (by omega) (fun q => by have := hv k q; omega)⟩
end Go.Proofs.Qxb6604397a
