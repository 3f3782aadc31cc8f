/-
  Seat b6604397a. ZZnewFleet3 (12); ZZscheduleTimes .. ZZscheduleUrgentReach (19 .. 23); zzUntouched (24).
-/
import Derived.Test.Qxb6604397aFtB
namespace Go.Proofs.Qxb6604397a
open Go.RowKit

def nilS : Value := .slice none 0 0

/-- The fleet's two blocks and its three empty schedules. -/
structure Fresh (w w' : World) : Prop where
  f : Flt w' (w.heap.size + 1 + 1 + 1 + 1) (w.heap.size + 1 + 1 + 1) #[.pointer (some ⟨w.heap.size, 0, none⟩), .pointer (some ⟨w.heap.size + 1, 0, none⟩), .pointer (some ⟨w.heap.size + 1 + 1, 0, none⟩)]
  s0 : Sched w' w.heap.size nilS nilS nilS [] [] [] 0 0
  s1 : Sched w' (w.heap.size + 1) nilS nilS nilS [] [] [] 0 0
  s2 : Sched w' (w.heap.size + 1 + 1) nilS nilS nilS [] [] [] 0 0
  b : Below w.heap.size w w'

theorem sched_nil {w : World} {sb : Nat} (h : w.heap[sb]? = some (.cells (scells nilS nilS nilS 0 0) 67 (0, 0))) : Sched w sb nilS nilS nilS [] [] [] 0 0 :=
  ⟨h, ⟨rfl, .inl ⟨rfl, rfl⟩⟩, ⟨rfl, .inl ⟨rfl, rfl⟩⟩, ⟨rfl, .inl ⟨rfl, rfl⟩⟩, fun k h => by cases h⟩

theorem fresh_of (w : World) (fs : Array Value) (hf : fs[1]? = some (.slice (some ⟨w.heap.size + 1 + 1 + 1, 0, none⟩) 3 3)) :
    Fresh w (((((w.alloc (.cells (scells nilS nilS nilS 0 0) 67)).alloc (.cells (scells nilS nilS nilS 0 0) 67)).alloc (.cells (scells nilS nilS nilS 0 0) 67)).alloc
      (.cells #[.pointer (some ⟨w.heap.size, 0, none⟩), .pointer (some ⟨w.heap.size + 1, 0, none⟩), .pointer (some ⟨w.heap.size + 1 + 1, 0, none⟩)] 65)).alloc (.cells fs 73)) := by
  obtain ⟨A, hA⟩ : ∃ A, A = Obj.cells (scells nilS nilS nilS 0 0) 67 (0, 0) := ⟨_, rfl⟩
  obtain ⟨L, hL⟩ : ∃ L, L = Obj.cells #[.pointer (some ⟨w.heap.size, 0, none⟩), .pointer (some ⟨w.heap.size + 1, 0, none⟩), .pointer (some ⟨w.heap.size + 1 + 1, 0, none⟩)] 65 (0, 0) := ⟨_, rfl⟩
  rw [← hA, ← hL]
  have b4 : (((((w.alloc A).alloc A).alloc A).alloc L).alloc (.cells fs 73)).heap[w.heap.size + 1 + 1 + 1 + 1]? = some (.cells fs 73 (0, 0)) := by
    have := heap_alloc_new ((((w.alloc A).alloc A).alloc A).alloc L) (.cells fs 73); simpa using this
  have b3 : (((((w.alloc A).alloc A).alloc A).alloc L).alloc (.cells fs 73)).heap[w.heap.size + 1 + 1 + 1]? = some L := by
    rw [heap_alloc_old _ _ (by simp)]
    have := heap_alloc_new (((w.alloc A).alloc A).alloc A) L; simpa using this
  have b2 : (((((w.alloc A).alloc A).alloc A).alloc L).alloc (.cells fs 73)).heap[w.heap.size + 1 + 1]? = some A := by
    rw [heap_alloc_old _ _ (by first | (simp; done) | (simp; omega)), heap_alloc_old _ _ (by simp)]
    have := heap_alloc_new ((w.alloc A).alloc A) A; simpa using this
  have b1 : (((((w.alloc A).alloc A).alloc A).alloc L).alloc (.cells fs 73)).heap[w.heap.size + 1]? = some A := by
    rw [heap_alloc_old _ _ (by first | (simp; done) | (simp; omega)), heap_alloc_old _ _ (by first | (simp; done) | (simp; omega)), heap_alloc_old _ _ (by simp)]
    have := heap_alloc_new (w.alloc A) A; simpa using this
  have b0 : (((((w.alloc A).alloc A).alloc A).alloc L).alloc (.cells fs 73)).heap[w.heap.size]? = some A := by
    rw [heap_alloc_old _ _ (by first | (simp; done) | (simp; omega)), heap_alloc_old _ _ (by first | (simp; done) | (simp; omega)), heap_alloc_old _ _ (by first | (simp; done) | (simp; omega)), heap_alloc_old _ _ (by simp)]
    exact heap_alloc_new w A
  refine ⟨⟨⟨fs, b4, hf⟩, b3.trans (congrArg some hL)⟩, sched_nil (b0.trans (congrArg some hA)), sched_nil (b1.trans (congrArg some hA)), sched_nil (b2.trans (congrArg some hA)), ?_⟩
  exact (((((Below.refl _ _).alloc (Nat.le_refl _) _).alloc (by simp) _).alloc (by first | (simp; done) | (simp; omega)) _).alloc (by first | (simp; done) | (simp; omega)) _).alloc (by first | (simp; done) | (simp; omega)) _

set_option maxRecDepth 100000 in
set_option maxHeartbeats 4000000 in
theorem fleet12 (w : World) : Calls Try.prog 12 #[] w fun e w' => e = .returned (.pointer (some ⟨w.heap.size + 1 + 1 + 1 + 1, 0, none⟩)) ∧ Fresh w w' := by
  go_enter Try.func12, Try.ntmps12
  go_wp2
  go_ret
  exact ⟨rfl, fresh_of w _ rfl⟩

section
variable {w : World} {fb lb r sb : Nat} {ps : Array Value} {tv uv gv : Value} {ts : List Int} {us gs : List Nat} {pk : Nat} {rc : Int}

theorem one_of_owns {e : TypeId} {size n : Nat} {v : Value} {xs : List Value} (h : w.ownsRow 0 e size v n xs) : v.oneCell' = true := by
  rcases h.2 with ⟨rfl, _⟩ | ⟨_, _, _, rfl, _⟩ <;> rfl

set_option maxRecDepth 100000 in
theorem times19 (hF : Flt w fb lb ps) (hr : r < 3) (hp : ps[r]? = some (.pointer (some ⟨sb, 0, none⟩))) (h : Sched w sb tv uv gv ts us gs pk rc) :
    Calls Try.prog 19 #[.pointer (some ⟨fb, 0, none⟩), .int .i64 r] w fun e w' => e = .returned tv ∧ w' = w := by
  have c1 := hF.f1
  have c2 := (cell_of_row w _ r _ _ _ hF.l).trans hp
  have c3 : w.cell? ⟨sb, 1, none⟩ = some tv := h.cell 1
  have f1 := one_of_owns h.t
  have hrI : (r : Int) < 3 := by omega
  clear hF hp h hr
  go_enter Try.func19, Try.ntmps19
  go_wp2
  go_ret
  exact ⟨rfl, rfl⟩

set_option maxRecDepth 100000 in
theorem used20 (hF : Flt w fb lb ps) (hr : r < 3) (hp : ps[r]? = some (.pointer (some ⟨sb, 0, none⟩))) (h : Sched w sb tv uv gv ts us gs pk rc) :
    Calls Try.prog 20 #[.pointer (some ⟨fb, 0, none⟩), .int .i64 r] w fun e w' => e = .returned uv ∧ w' = w := by
  have c1 := hF.f1
  have c2 := (cell_of_row w _ r _ _ _ hF.l).trans hp
  have c3 : w.cell? ⟨sb, 2, none⟩ = some uv := h.cell 2
  have f1 := one_of_owns h.u
  have hrI : (r : Int) < 3 := by omega
  clear hF hp h hr
  go_enter Try.func20, Try.ntmps20
  go_wp2
  go_ret
  exact ⟨rfl, rfl⟩

set_option maxRecDepth 100000 in
theorem urgent21 (hF : Flt w fb lb ps) (hr : r < 3) (hp : ps[r]? = some (.pointer (some ⟨sb, 0, none⟩))) (h : Sched w sb tv uv gv ts us gs pk rc) :
    Calls Try.prog 21 #[.pointer (some ⟨fb, 0, none⟩), .int .i64 r] w fun e w' => e = .returned gv ∧ w' = w := by
  have c1 := hF.f1
  have c2 := (cell_of_row w _ r _ _ _ hF.l).trans hp
  have c3 : w.cell? ⟨sb, 3, none⟩ = some gv := h.cell 3
  have f1 := one_of_owns h.g
  have hrI : (r : Int) < 3 := by omega
  clear hF hp h hr
  go_enter Try.func21, Try.ntmps21
  go_wp2
  go_ret
  exact ⟨rfl, rfl⟩

set_option maxRecDepth 100000 in
theorem peak22 (hF : Flt w fb lb ps) (hr : r < 3) (hp : ps[r]? = some (.pointer (some ⟨sb, 0, none⟩))) (h : Sched w sb tv uv gv ts us gs pk rc) :
    Calls Try.prog 22 #[.pointer (some ⟨fb, 0, none⟩), .int .i64 r] w fun e w' => e = .returned (.float .f64 pk) ∧ w' = w := by
  have c1 := hF.f1
  have c2 := (cell_of_row w _ r _ _ _ hF.l).trans hp
  have c3 : w.cell? ⟨sb, 5, none⟩ = some (.float .f64 pk) := h.cell 5
  have hrI : (r : Int) < 3 := by omega
  clear hF hp h hr
  go_enter Try.func22, Try.ntmps22
  go_wp2
  go_ret
  exact ⟨rfl, rfl⟩

set_option maxRecDepth 100000 in
theorem reach23 (hF : Flt w fb lb ps) (hr : r < 3) (hp : ps[r]? = some (.pointer (some ⟨sb, 0, none⟩))) (h : Sched w sb tv uv gv ts us gs pk rc) :
    Calls Try.prog 23 #[.pointer (some ⟨fb, 0, none⟩), .int .i64 r] w fun e w' => e = .returned (.int .i64 rc) ∧ w' = w := by
  have c1 := hF.f1
  have c2 := (cell_of_row w _ r _ _ _ hF.l).trans hp
  have c3 : w.cell? ⟨sb, 6, none⟩ = some (.int .i64 rc) := h.cell 6
  have hrI : (r : Int) < 3 := by omega
  clear hF hp h hr
  go_enter Try.func23, Try.ntmps23
  go_wp2
  go_ret
  exact ⟨rfl, rfl⟩

set_option maxRecDepth 100000 in
set_option maxHeartbeats 1000000 in
theorem untouched24 (hF : Flt w fb lb ps) (hr : r < 3) (hp : ps[r]? = some (.pointer (some ⟨sb, 0, none⟩))) (h : Sched w sb nilS nilS nilS [] [] [] 0 0) :
    Calls Try.prog 24 #[.pointer (some ⟨fb, 0, none⟩), .int .i64 r] w fun e w' => e = .returned (.bool true) ∧ w' = w := by
  have h1 := hid (times19 hF hr hp h)
  have h2 := hid (used20 hF hr hp h)
  have h3 := hid (urgent21 hF hr hp h)
  have h4 := hid (peak22 hF hr hp h)
  have h5 := hid (reach23 hF hr hp h)
  have ho : Ieee.double.order 0 0 = some .eq := by decide
  unfold nilS at h1 h2 h3
  clear hF hp h hr
  go_enter Try.func24, Try.ntmps24
  go_wp2_with (first
    | (go_at_call 19; refine h1.out.mono ?_; rintro e w1 ⟨rfl, hw⟩; subst w1)
    | (go_at_call 20; refine h2.out.mono ?_; rintro e w1 ⟨rfl, hw⟩; subst w1)
    | (go_at_call 21; refine h3.out.mono ?_; rintro e w1 ⟨rfl, hw⟩; subst w1)
    | (go_at_call 22; refine h4.out.mono ?_; rintro e w1 ⟨rfl, hw⟩; subst w1)
    | (go_at_call 23; refine h5.out.mono ?_; rintro e w1 ⟨rfl, hw⟩; subst w1))
  go_ret
  exact ⟨rfl, rfl⟩
end
end Go.Proofs.Qxb6604397a
