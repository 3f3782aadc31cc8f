/-
  Seat b6604397a. FnFleetPlaceThenCancel (6): all inputs.
-/
import Derived.Test.Qxb6604397aCaB
namespace Go.Proofs.Qxb6604397a
open Go.RowKit Ieee

theorem read_max : double.read MAXF = .number false 9007199254740991 971 := by decide
theorem read_min : double.read MINF = .number true 9007199254740991 971 := by decide

theorem fin_of {u : Nat} (hu : u < 2 ^ 64) (c1 : double.order u u = some .eq) (c2 : ¬ double.order u MAXF = some .gt) (c3 : ¬ double.order u MINF = some .lt) : ∃ sg m i, Fin64 u sg m i := by
  cases h : double.read u with
  | number s m i => exact ⟨s, m, i, hu, h⟩
  | infinity s =>
    exfalso
    unfold Format.order at c2 c3
    rw [h, read_max] at c2
    rw [h, read_min] at c3
    cases s
    · exact c2 rfl
    · exact c3 rfl
  | nan s f =>
    unfold Format.order at c1
    rw [h] at c1
    simp [Datum.order] at c1

theorem walk6 (r e l d s : Int) (u : Nat) (w : World) (hu : u < 2 ^ 64) :
    Calls Try.prog 6 #[.int .i64 r, .int .i64 e, .int .i64 l, .int .i64 d, .int .i64 s, .float .f64 u] w fun q w' => q = .returned (.bool true) ∧ Below w.heap.size w w' := by
  have fin : ∀ {q : Ending} {w' : World}, (q = .returned (.bool true) ∧ w' = w) → (q = .returned (.bool true) ∧ Below w.heap.size w w') := by
    rintro q w' ⟨h1, rfl⟩
    exact ⟨h1, Below.refl _ _⟩
  by_cases h0 : r < 0
  · exact (early6a r e l d s u w (.inl h0)).mono fun _ _ h => fin h
  by_cases h3 : 3 ≤ r
  · exact (early6a r e l d s u w (.inr h3)).mono fun _ _ h => fin h
  by_cases hI : In61 e ∧ In61 l ∧ In61 d ∧ In61 s
  · by_cases hf : ¬ double.order u u = some .eq ∨ double.order u MAXF = some .gt ∨ double.order u MINF = some .lt
    · exact (early6c r e l d s u w h0 h3 hI.1 hI.2.1 hI.2.2.1 hI.2.2.2 hf).mono fun _ _ h => fin h
    · have c1 : double.order u u = some .eq := Classical.byContradiction fun h => hf (.inl h)
      have c2 : ¬ double.order u MAXF = some .gt := fun h => hf (.inr (.inl h))
      have c3 : ¬ double.order u MINF = some .lt := fun h => hf (.inr (.inr h))
      obtain ⟨sg, m, i, hF⟩ := fin_of hu c1 c2 c3
      obtain ⟨rn, rfl⟩ : ∃ n : Nat, r = n := ⟨r.toNat, by omega⟩
      exact main6 rn (by omega) e l d s u w hI.1 hI.2.1 hI.2.2.1 hI.2.2.2 hF c1 (by rw [beq_eq_false_iff_ne]; exact c2) (by rw [beq_eq_false_iff_ne]; exact c3)
  · exact (early6b r e l d s u w h0 h3 hI).mono fun _ _ h => fin h
end Go.Proofs.Qxb6604397a
