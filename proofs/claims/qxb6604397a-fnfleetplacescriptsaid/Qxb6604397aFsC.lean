/-
  Seat b6604397a. Blocks that a placement leaves as they are.
-/
import Derived.Test.Qxb6604397aFsA
namespace Go.Proofs.Qxb6604397a
open Go.RowKit

/-- Block B holds o, and is no region's own. -/
structure Hold (n : Nat) (x : Nat → SD) (W : World) (B : Nat) (o : Obj) : Prop where
  at_ : W.heap[B]? = some o
  no : ∀ i, i < 3 → ¬ (x i).own (n + i) B

section
variable {n : Nat} {W W' : World} {x : Nat → SD} {B : Nat} {o : Obj}

theorem Hold.lt (h : Hold n x W B o) : B < W.heap.size := (Array.getElem?_eq_some_iff.1 h.at_).1

theorem Hold.below (h : Hold n x W B o) (hb : Below W.heap.size W W') : Hold n x W' B o := ⟨(hb.block B h.lt).trans h.at_, h.no⟩

theorem Hold.drew (h : Hold n x W B o) : Hold n x W.drew B o := h.below (Below.refl _ _).drew

theorem Hold.place (h : Hold n x W B o) {r : Nat} (hr : r < 3) {s d : Int} {u : Nat} {urg : Bool} {y : SD} (hP : PlaceF n W x r s d u urg W' y) : Hold n (upd x r y) W' B o := by
  refine ⟨(hP.keep.block B h.lt (h.no r hr)).trans h.at_, fun i hi q => ?_⟩
  unfold upd at q
  by_cases e : i = r
  · subst e
    rw [if_pos rfl] at q
    rcases hP.own B q with q' | q'
    · exact h.no i hi q'
    · have := h.lt; omega
  · rw [if_neg e] at q
    exact h.no i hi q

theorem Hold.new (h : FleetSt n W x) (o : Obj) : Hold n x (W.alloc o) W.heap.size o :=
  ⟨heap_alloc_new W o, fun i hi q => by have := h.lt hi q; omega⟩

theorem Hold.alloc (h : Hold n x W B o) (o' : Obj) : Hold n x (W.alloc o') B o := h.below ((Below.refl _ _).alloc (Nat.le_refl _) _)

theorem Hold.set (h : Hold n x W B o) {g j : Nat} (hg : B ≠ g) (v : Value) : Hold n x (W.setCell ⟨g, j, none⟩ v) B o :=
  ⟨(heap_setCell_other W ⟨g, j, none⟩ B v hg).trans h.at_, h.no⟩

theorem FleetSt.set (h : FleetSt n W x) {g j : Nat} {o : Obj} (hg : Hold n x W g o) (ho : ∃ cs, o = .cells cs 42 (0, 0)) (v : Value) : FleetSt n (W.setCell ⟨g, j, none⟩ v) x := by
  have q : ∀ k, k ≠ g → (W.setCell ⟨g, j, none⟩ v).heap[k]? = W.heap[k]? := fun k hk => heap_setCell_other W ⟨g, j, none⟩ k v hk
  obtain ⟨cs, rfl⟩ := ho
  have ne : ∀ k cs' (t : TypeId), W.heap[k]? = some (.cells cs' t (0, 0)) → t ≠ 42 → k ≠ g := by
    rintro k cs' t hk ht rfl
    have := hg.at_
    rw [hk] at this
    injection this with this
    injection this with _ this
    exact ht this
  obtain ⟨fs, f1, f2⟩ := h.f.f
  refine ⟨h.f.kept (q _ (ne _ _ _ f1 (by decide))) (q _ (ne _ _ _ h.f.l (by decide))), fun i hi => ?_, h.apart, h.low⟩
  refine Sched.kept (h.s i hi) fun k hk => q k (fun e => ?_)
  subst e
  exact hg.no i hi hk

theorem FleetSt.drew (h : FleetSt n W x) : FleetSt n W.drew x := h.below (Below.refl _ _).drew
theorem FleetSt.alloc (h : FleetSt n W x) (o' : Obj) : FleetSt n (W.alloc o') x := h.below ((Below.refl _ _).alloc (Nat.le_refl _) _)

theorem PlaceF.below {r : Nat} (hr : r < 3) {s d : Int} {u : Nat} {urg : Bool} {y : SD} (h : FleetSt n W x) (hP : PlaceF n W x r s d u urg W' y) : Below n W W' :=
  ⟨hP.keep.os, hP.keep.tape, hP.keep.output, hP.keep.size, fun k hk => hP.keep.block k (by have := h.flt_lt; omega) (fun q => by have := h.low r k hr q; omega)⟩
end
end Go.Proofs.Qxb6604397a
