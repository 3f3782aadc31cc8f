/-
  Seat b6603649a. The plain law of the two 'LeftOut' laws: a map filled with the names that are not empty, as the datum that it reads as.
-/
import Derived.Maps.Views
namespace Go.Proofs.Qxb6603649a
open Go.Maps

/-- Stands the k-th name among those ahead of it? -/
def seen (L : Nat → List UInt8) (k : Nat) : Bool := (List.range k).any fun j => L j == L k

theorem seen_iff (L : Nat → List UInt8) (k : Nat) : seen L k = true ↔ ∃ j, j < k ∧ L j = L k := by
  simp [seen]

/-- How many different names that are not empty stand among the first k. -/
def dist (L : Nat → List UInt8) : Nat → Nat
  | 0 => 0
  | k + 1 => dist L k + if (L k).isEmpty || seen L k then 0 else 1

theorem dist_le (L : Nat → List UInt8) : ∀ k, dist L k ≤ k
  | 0 => Nat.le_refl _
  | k + 1 => by have := dist_le L k; simp only [dist]; split <;> omega

/-- D is the set of the names that are not empty among the first k, each with true. -/
structure SetIs (D : DataW Unit) (L : Nat → List UInt8) (k : Nat) : Prop where
  tidy : Tidy D
  has : ∀ x, Maps.has D (.string x) = true ↔ x ≠ [] ∧ ∃ j, j < k ∧ L j = x
  val : ∀ x z, Maps.has D (.string x) = true → D.atKey (.string x) z = .lit (.bool true)
  size : Maps.size D = dist L k

theorem set_start (L : Nat → List UInt8) : SetIs (.map []) L 0 where
  tidy := tidy_empty
  has := fun x => ⟨fun h => by simp [Maps.has] at h, fun h => by obtain ⟨_, j, hj, _⟩ := h; omega⟩
  val := fun x z h => by simp [Maps.has] at h
  size := rfl

theorem set_skip {D : DataW Unit} {L : Nat → List UInt8} {k : Nat} (h : SetIs D L k) (he : L k = []) : SetIs D L (k + 1) where
  tidy := h.tidy
  has := fun x => by
    rw [h.has]
    constructor
    · rintro ⟨hx, j, hj, e⟩; exact ⟨hx, j, by omega, e⟩
    · rintro ⟨hx, j, hj, e⟩
      by_cases hk : j = k
      · subst hk; rw [he] at e; exact absurd e.symm hx
      · exact ⟨hx, j, by omega, e⟩
  val := h.val
  size := by rw [h.size, dist, he]; simp

theorem set_put {D : DataW Unit} {L : Nat → List UInt8} {k : Nat} (h : SetIs D L k) (hne : L k ≠ []) : SetIs (D.put (.string (L k)) (.lit (.bool true))) L (k + 1) where
  tidy := h.tidy.put (k := .string (L k)) (by exact True.intro) _
  has := fun x => by
    by_cases hx : x = L k
    · subst hx
      rw [has_put_same (k := .string (L k)) h.tidy.isMap (by exact True.intro)]
      exact ⟨fun _ => ⟨hne, k, by omega, rfl⟩, fun _ => rfl⟩
    · rw [has_put_other (fun e => hx (by cases e; rfl)), h.has]
      constructor
      · rintro ⟨hx', j, hj, e⟩; exact ⟨hx', j, by omega, e⟩
      · rintro ⟨hx', j, hj, e⟩
        by_cases hk : j = k
        · subst hk; exact absurd e.symm hx
        · exact ⟨hx', j, by omega, e⟩
  val := fun x z hh => by
    by_cases hx : x = L k
    · subst hx; exact atKey_put_same (k := .string (L k)) h.tidy.isMap (by exact True.intro) _ _
    · have hn : Lit.string x ≠ Lit.string (L k) := fun e => hx (by cases e; rfl)
      rw [has_put_other hn] at hh
      rw [atKey_put_other hn]
      exact h.val x z hh
  size := by
    rw [size_put h.tidy, h.size, dist]
    have he : (L k).isEmpty = false := by cases hl : L k with | nil => exact absurd hl hne | cons _ _ => rfl
    by_cases hs : seen L k = true
    · have : Maps.has D (.string (L k)) = true := (h.has _).2 ⟨hne, (seen_iff L k).1 hs⟩
      simp [this, hs]
    · have : Maps.has D (.string (L k)) = false := by
        cases hh : Maps.has D (.string (L k)) with
        | false => rfl
        | true => exact absurd ((seen_iff L k).2 ((h.has _).1 hh).2) hs
      have hs' : seen L k = false := by simpa using hs
      simp [this, hs', he]
end Go.Proofs.Qxb6603649a
