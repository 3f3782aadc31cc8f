/-
  Seat b6604397a. A fleet of three schedules in memory; (*Fleet).place (26), ZZplace (13).
-/
import Derived.Test.Qxb6604397aPlB
import Derived.Test.Qxb6604397aFtA
namespace Go.Proofs.Qxb6604397a
open Go.RowKit

/-- The fleet's own two blocks. -/
structure Flt (w : World) (fb lb : Nat) (ps : Array Value) : Prop where
  f : ∃ fs : Array Value, w.heap[fb]? = some (.cells fs 73 (0, 0)) ∧ fs[1]? = some (.slice (some ⟨lb, 0, none⟩) 3 3)
  l : w.heap[lb]? = some (.cells ps 65 (0, 0))

theorem Flt.f1 {w : World} {fb lb : Nat} {ps : Array Value} (h : Flt w fb lb ps) : w.cell? ⟨fb, 1, none⟩ = some (.slice (some ⟨lb, 0, none⟩) 3 3) := by
  obtain ⟨fs, h1, h2⟩ := h.f
  exact (cell_of_row w _ _ _ _ _ h1).trans h2

theorem Flt.kept {w w' : World} {fb lb : Nat} {ps : Array Value} (h : Flt w fb lb ps) (hf : w'.heap[fb]? = w.heap[fb]?) (hl : w'.heap[lb]? = w.heap[lb]?) : Flt w' fb lb ps := by
  obtain ⟨fs, h1, h2⟩ := h.f
  exact ⟨⟨fs, hf.trans h1, h2⟩, hl.trans h.l⟩

theorem Keep.set {own : Nat → Prop} {a w : World} (h : Keep own a w) {g i : Nat} (hn : own g ∨ a.heap.size ≤ g) (v : Value) : Keep own a (w.setCell ⟨g, i, none⟩ v) :=
  ⟨h.os, h.tape, h.output, by simpa using h.size, fun k hk hne => (heap_setCell_other w ⟨g, i, none⟩ k v (fun e => by subst e; rcases hn with q | q; exact hne q; omega)).trans (h.block k hk hne)⟩

section
variable {w W W' W'' : World} {own0 : Nat → Prop} {sb : Nat} {tv uv gv : Value} {ts : List Int} {us gs : List Nat} {pk : Nat} {rc : Int}

/-- A stage of a callee's is one of its caller's, also where the caller has written its own blocks since. -/
theorem Stg.out (h : Stg W own0 sb tv uv gv ts us gs pk rc W') (hw : Below w.heap.size w W) (ho : ∀ k, own0 k → k < w.heap.size) (hk : Keep (fun k => w.heap.size ≤ k ∧ k < W.heap.size) W' W'') : Stg w own0 sb tv uv gv ts us gs pk rc W'' := by
  refine ⟨h.s.kept fun k hk' => hk.block k (h.s.lt hk') (fun q => ?_), fun k hk' => ?_, ?_⟩
  · rcases h.o k hk' with q' | q'
    · have := ho k q'; omega
    · omega
  · rcases h.o k hk' with q' | q'
    · exact .inl q'
    · exact .inr (Nat.le_trans hw.size q')
  · refine ((Keep.of_below (own := own0) hw).trans h.k fun _ q => .inl q).trans hk fun k q => .inr q.1
end

section
variable {sb : Nat} {tv uv gv : Value} {ts : List Int} {us gs : List Nat} {pk : Nat} {rc s d : Int} {u : Nat} {urg : Bool} {w W W' W'' : World}

theorem PlacePost.below (h : PlacePost sb tv uv gv ts us gs pk rc s d u urg w W) (hb : Below W.heap.size W W') : PlacePost sb tv uv gv ts us gs pk rc s d u urg w W' := by
  obtain ⟨i1, i2, m, f1, f2, us', gs', pk', tv', uv', gv', a1, a2, a3, a4, a5, a6⟩ := h
  exact ⟨i1, i2, m, f1, f2, us', gs', pk', tv', uv', gv', a1, a2, a3, a4, a5, a6.below hb⟩

theorem PlacePost.out (h : PlacePost sb tv uv gv ts us gs pk rc s d u urg W W') (hw : Below w.heap.size w W) (ho : ∀ k, Own sb tv uv gv k → k < w.heap.size) (hk : Keep (fun k => w.heap.size ≤ k ∧ k < W.heap.size) W' W'') : PlacePost sb tv uv gv ts us gs pk rc s d u urg w W'' := by
  obtain ⟨i1, i2, m, f1, f2, us', gs', pk', tv', uv', gv', a1, a2, a3, a4, a5, a6⟩ := h
  exact ⟨i1, i2, m, f1, f2, us', gs', pk', tv', uv', gv', a1, a2, a3, a4, a5, a6.out hw ho hk⟩

theorem PlacePost.keep (h : PlacePost sb tv uv gv ts us gs pk rc s d u urg w W) : Keep (Own sb tv uv gv) w W := by
  obtain ⟨i1, i2, m, f1, f2, us', gs', pk', tv', uv', gv', a1, a2, a3, a4, a5, a6⟩ := h
  exact a6.k

theorem flt_own {w : World} {fb lb : Nat} {ps : Array Value} (h : Flt w fb lb ps) (hs : Sched w sb tv uv gv ts us gs pk rc) : ¬ Own sb tv uv gv fb ∧ ¬ Own sb tv uv gv lb := by
  obtain ⟨fs, h1, h2⟩ := h.f
  have hl := h.l
  have key : ∀ k cs (t : TypeId), w.heap[k]? = some (.cells cs t (0, 0)) → t ≠ 67 → t ≠ 40 → t ≠ 22 → ¬ Own sb tv uv gv k := by
    intro k cs t hk n1 n2 n3 ho
    rcases ho with rfl | ho | ho | ho
    · have := hs.row
      rw [hk] at this
      injection this with this
      injection this with _ this
      exact n1 this
    · exact owns_ne_row hs.t hk (fun e => n2 e.symm) ho
    · exact owns_ne_row hs.u hk (fun e => n3 e.symm) ho
    · exact owns_ne_row hs.g hk (fun e => n3 e.symm) ho
  exact ⟨key fb fs 73 h1 (by decide) (by decide) (by decide), key lb ps 65 hl (by decide) (by decide) (by decide)⟩
end
end Go.Proofs.Qxb6604397a
