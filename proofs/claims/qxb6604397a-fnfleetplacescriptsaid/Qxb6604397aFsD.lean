/-
  Seat b6604397a. A statement that places a job and keeps its placement in a variable: what stands behind it.
-/
import Derived.Test.Qxb6604397aFsC
namespace Go.Proofs.Qxb6604397a
open Go.RowKit

/-- The fleet as it stood at W0, at a later world ahead of the placement. -/
structure Pre (n : Nat) (w : World) (x : Nat → SD) (W0 W : World) : Prop where
  st : FleetSt n W x
  b : Below n w W
  c : ∀ B o, Hold n x W0 B o → Hold n x W B o
  size : W0.heap.size ≤ W.heap.size

section
variable {n : Nat} {w W0 W W' : World} {x : Nat → SD}

theorem Pre.start (h : FleetSt n W x) (hb : Below n w W) : Pre n w x W W := ⟨h, hb, fun _ _ q => q, Nat.le_refl _⟩

theorem Pre.below (h : Pre n w x W0 W) (hb : Below W.heap.size W W') : Pre n w x W0 W' :=
  ⟨h.st.below hb, h.b.trans (hb.mono (by have := h.st.flt_lt; omega)), fun B o q => (h.c B o q).below hb, Nat.le_trans h.size hb.size⟩

theorem Pre.drew (h : Pre n w x W0 W) : Pre n w x W0 W.drew := h.below (Below.refl _ _).drew
theorem Pre.alloc (h : Pre n w x W0 W) (o : Obj) : Pre n w x W0 (W.alloc o) := h.below ((Below.refl _ _).alloc (Nat.le_refl _) _)

theorem StepSD.len {x y : SD} {s d : Int} {v : Nat} {urg : Bool} (h : StepSD x y s d v urg) : y.ts.length ≤ x.ts.length + 2 := by
  obtain ⟨i1, i2, m, f1, f2, a1, a2, a3, a4, a5, a6⟩ := h.ex
  rw [a6, length_insT a2.le, length_insT a1.le]
  split <;> split <;> omega

/-- What stands behind the placement. -/
def Placed (n : Nat) (w : World) (x : Nat → SD) (W0 : World) (r : Nat) (s d : Int) (v : Nat) (urg : Bool) (pl : Obj) (b : Value) (W : World) : Prop :=
  ∃ (B : Nat) (y : SD), b = .pointer (some ⟨B, 0, none⟩) ∧ StepSD (x r) y s d v urg ∧ Hold n (upd x r y) W B pl ∧ FleetSt n W (upd x r y) ∧ Below n w W ∧ (∀ B' o, Hold n x W0 B' o → Hold n (upd x r y) W B' o) ∧ W0.heap.size ≤ W.heap.size

theorem Placed.new {r : Nat} (hr : r < 3) {s d : Int} {v : Nat} {urg : Bool} {y : SD} (p : Pre n w x W0 W) (hP : PlaceF n W x r s d v urg W' y) (pl : Obj) : Placed n w x W0 r s d v urg pl (.pointer (some ⟨W'.heap.size, 0, none⟩)) (W'.alloc pl) := by
  have q := hP.below hr p.st
  refine ⟨W'.heap.size, y, rfl, hP.step, Hold.new hP.st pl, hP.st.alloc _, (p.b.trans q).alloc ?_ _, fun B' o h => ((p.c B' o h).place hr hP).alloc _, ?_⟩
  · have := hP.st.flt_lt; omega
  · have := p.size; have := hP.keep.size; simp; omega

theorem Placed.old {r : Nat} (hr : r < 3) {s d : Int} {v : Nat} {urg : Bool} {y : SD} {B : Nat} {z0 z1 z2 z3 z4 z5 z6 z7 a0 a1 a2 a3 a4 a5 a6 a7 : Value} (p : Pre n w x W0 W) (hP : PlaceF n W x r s d v urg W' y) (hz : Hold n (upd x r y) W' B (.cells #[z0, z1, z2, z3, z4, z5, z6, z7] 42 (0, 0))) (hB : W0.heap.size ≤ B) (hw0 : n ≤ W0.heap.size) :
    Placed n w x W0 r s d v urg (.cells #[a0, a1, a2, a3, a4, a5, a6, a7] 42 (0, 0)) (.pointer (some ⟨B, 0, none⟩))
      ((((((((W'.setCell ⟨B, 0, none⟩ a0).setCell ⟨B, 1, none⟩ a1).setCell ⟨B, 2, none⟩ a2).setCell ⟨B, 3, none⟩ a3).setCell ⟨B, 4, none⟩ a4).setCell ⟨B, 5, none⟩ a5).setCell ⟨B, 6, none⟩ a6).setCell ⟨B, 7, none⟩ a7) := by
  have q := hP.below hr p.st
  obtain ⟨V1, hV1⟩ : ∃ V, V = W'.setCell ⟨B, 0, none⟩ a0 := ⟨_, rfl⟩
  have r1 : V1.heap[B]? = some (.cells #[a0, z1, z2, z3, z4, z5, z6, z7] 42 (0, 0)) := by rw [hV1]; exact heap_setCell_row _ B 0 _ 42 (0, 0) a0 hz.at_
  have f1 : FleetSt n V1 (upd x r y) := by rw [hV1]; exact hP.st.set (j := 0) hz ⟨_, rfl⟩ a0
  obtain ⟨V2, hV2⟩ : ∃ V, V = V1.setCell ⟨B, 1, none⟩ a1 := ⟨_, rfl⟩
  have r2 : V2.heap[B]? = some (.cells #[a0, a1, z2, z3, z4, z5, z6, z7] 42 (0, 0)) := by rw [hV2]; exact heap_setCell_row _ B 1 _ 42 (0, 0) a1 r1
  have f2 : FleetSt n V2 (upd x r y) := by rw [hV2]; exact f1.set (j := 1) (⟨r1, hz.no⟩ : Hold n (upd x r y) V1 B _) ⟨_, rfl⟩ a1
  obtain ⟨V3, hV3⟩ : ∃ V, V = V2.setCell ⟨B, 2, none⟩ a2 := ⟨_, rfl⟩
  have r3 : V3.heap[B]? = some (.cells #[a0, a1, a2, z3, z4, z5, z6, z7] 42 (0, 0)) := by rw [hV3]; exact heap_setCell_row _ B 2 _ 42 (0, 0) a2 r2
  have f3 : FleetSt n V3 (upd x r y) := by rw [hV3]; exact f2.set (j := 2) (⟨r2, hz.no⟩ : Hold n (upd x r y) V2 B _) ⟨_, rfl⟩ a2
  obtain ⟨V4, hV4⟩ : ∃ V, V = V3.setCell ⟨B, 3, none⟩ a3 := ⟨_, rfl⟩
  have r4 : V4.heap[B]? = some (.cells #[a0, a1, a2, a3, z4, z5, z6, z7] 42 (0, 0)) := by rw [hV4]; exact heap_setCell_row _ B 3 _ 42 (0, 0) a3 r3
  have f4 : FleetSt n V4 (upd x r y) := by rw [hV4]; exact f3.set (j := 3) (⟨r3, hz.no⟩ : Hold n (upd x r y) V3 B _) ⟨_, rfl⟩ a3
  obtain ⟨V5, hV5⟩ : ∃ V, V = V4.setCell ⟨B, 4, none⟩ a4 := ⟨_, rfl⟩
  have r5 : V5.heap[B]? = some (.cells #[a0, a1, a2, a3, a4, z5, z6, z7] 42 (0, 0)) := by rw [hV5]; exact heap_setCell_row _ B 4 _ 42 (0, 0) a4 r4
  have f5 : FleetSt n V5 (upd x r y) := by rw [hV5]; exact f4.set (j := 4) (⟨r4, hz.no⟩ : Hold n (upd x r y) V4 B _) ⟨_, rfl⟩ a4
  obtain ⟨V6, hV6⟩ : ∃ V, V = V5.setCell ⟨B, 5, none⟩ a5 := ⟨_, rfl⟩
  have r6 : V6.heap[B]? = some (.cells #[a0, a1, a2, a3, a4, a5, z6, z7] 42 (0, 0)) := by rw [hV6]; exact heap_setCell_row _ B 5 _ 42 (0, 0) a5 r5
  have f6 : FleetSt n V6 (upd x r y) := by rw [hV6]; exact f5.set (j := 5) (⟨r5, hz.no⟩ : Hold n (upd x r y) V5 B _) ⟨_, rfl⟩ a5
  obtain ⟨V7, hV7⟩ : ∃ V, V = V6.setCell ⟨B, 6, none⟩ a6 := ⟨_, rfl⟩
  have r7 : V7.heap[B]? = some (.cells #[a0, a1, a2, a3, a4, a5, a6, z7] 42 (0, 0)) := by rw [hV7]; exact heap_setCell_row _ B 6 _ 42 (0, 0) a6 r6
  have f7 : FleetSt n V7 (upd x r y) := by rw [hV7]; exact f6.set (j := 6) (⟨r6, hz.no⟩ : Hold n (upd x r y) V6 B _) ⟨_, rfl⟩ a6
  obtain ⟨V8, hV8⟩ : ∃ V, V = V7.setCell ⟨B, 7, none⟩ a7 := ⟨_, rfl⟩
  have r8 : V8.heap[B]? = some (.cells #[a0, a1, a2, a3, a4, a5, a6, a7] 42 (0, 0)) := by rw [hV8]; exact heap_setCell_row _ B 7 _ 42 (0, 0) a7 r7
  have f8 : FleetSt n V8 (upd x r y) := by rw [hV8]; exact f7.set (j := 7) (⟨r7, hz.no⟩ : Hold n (upd x r y) V7 B _) ⟨_, rfl⟩ a7
  have hn : n ≤ B := by
    have h0 := hw0
    have h1 := p.size
    have h2 := hz.lt
    omega
  rw [← hV1, ← hV2, ← hV3, ← hV4, ← hV5, ← hV6, ← hV7, ← hV8]
  refine ⟨B, y, rfl, hP.step, ⟨r8, hz.no⟩, f8, ?_, fun B' o h => ?_, ?_⟩
  · rw [hV8, hV7, hV6, hV5, hV4, hV3, hV2, hV1]
    exact ((((((((p.b.trans q).setCell hn _).setCell hn _).setCell hn _).setCell hn _).setCell hn _).setCell hn _).setCell hn _).setCell hn _
  · have hne : B' ≠ B := by have := h.lt; omega
    have h' := (p.c B' o h).place hr hP
    rw [hV8, hV7, hV6, hV5, hV4, hV3, hV2, hV1]
    exact (((((((h'.set hne _).set hne _).set hne _).set hne _).set hne _).set hne _).set hne _).set hne _
  · rw [hV8, hV7, hV6, hV5, hV4, hV3, hV2, hV1]
    have := p.size; have := hP.keep.size; simp; omega
end
end Go.Proofs.Qxb6604397a
