/-
  Seat b6604397a. (*schedule).place (33): what it leaves; plain laws of the insertion.
-/
import Derived.Test.Qxb6604397aPlA
import Derived.Test.Qxb6604397aScC
namespace Go.Proofs.Qxb6604397a
open Go.RowKit

theorem getD_ins {α : Type} (ts : List α) (d t : α) (i k : Nat) (hi : i ≤ ts.length) : (ts.take i ++ t :: ts.drop i).getD k d = if k < i then ts.getD k d else if k = i then t else ts.getD (k - 1) d := by
  have hl : (ts.take i).length = i := by rw [List.length_take]; omega
  simp only [List.getD_eq_getElem?_getD]
  by_cases h1 : k < i
  · rw [if_pos h1, List.getElem?_append_left (by omega), List.getElem?_take, if_pos h1]
  · rw [if_neg h1, List.getElem?_append_right (by omega), hl]
    by_cases h2 : k = i
    · subst h2; simp
    · rw [if_neg h2, show k - i = (k - 1 - i) + 1 by omega, List.getElem?_cons_succ, List.getElem?_drop, show i + (k - 1 - i) = k - 1 by omega]

theorem length_ins {α : Type} (ts : List α) (t : α) (i : Nat) (hi : i ≤ ts.length) : (ts.take i ++ t :: ts.drop i).length = ts.length + 1 := by
  simp; omega

theorem length_insT {f : Bool} {i : Nat} {t : Int} {ts : List Int} (hi : i ≤ ts.length) : (insT f i t ts).length = ts.length + if f then 0 else 1 := by
  cases f
  · exact length_ins ts t i hi
  · rfl

theorem length_insF {f : Bool} {i : Nat} {us : List Nat} (hi : i ≤ us.length) : (insF f i us).length = us.length + if f then 0 else 1 := by
  cases f
  · exact length_ins us _ i hi
  · rfl

theorem Found.lt {ts : List Int} {t : Int} {i : Nat} {f : Bool} (h : Found ts ts.length t i f) : i < (insT f i t ts).length := by
  rw [length_insT h.le]
  cases f
  · have := h.le; simp; omega
  · have := (h.eq.1 rfl).1; simpa using this

theorem Found.at {ts : List Int} {t : Int} {i : Nat} {f : Bool} (h : Found ts ts.length t i f) : (insT f i t ts).getD i 0 = t := by
  cases f
  · show (ts.take i ++ t :: ts.drop i).getD i 0 = t
    rw [getD_ins ts 0 t i i h.le]; simp
  · exact (h.eq.1 rfl).2

theorem Found.sorted {ts : List Int} {t : Int} {i : Nat} {f : Bool} (h : Found ts ts.length t i f) (hs : Sorted ts) : Sorted (insT f i t ts) := by
  cases f
  · intro a b hab hb
    have hb' : b < (ts.take i ++ t :: ts.drop i).length := hb
    show (ts.take i ++ t :: ts.drop i).getD a 0 < (ts.take i ++ t :: ts.drop i).getD b 0
    rw [length_ins ts t i h.le] at hb'
    rw [getD_ins ts 0 t i a h.le, getD_ins ts 0 t i b h.le]
    have hne : i < ts.length → ts.getD i 0 ≠ t := fun h1 h2 => by have := h.eq.2 ⟨h1, h2⟩; cases this
    by_cases a1 : a < i
    · rw [if_pos a1]
      by_cases b1 : b < i
      · rw [if_pos b1]; exact hs a b hab (by have := h.le; omega)
      · rw [if_neg b1]
        by_cases b2 : b = i
        · rw [if_pos b2]; exact h.lo a a1
        · rw [if_neg b2]; exact hs a (b - 1) (by omega) (by omega)
    · rw [if_neg a1, if_neg (show ¬ b < i by omega), if_neg (show ¬ b = i by omega)]
      by_cases a2 : a = i
      · rw [if_pos a2]
        have h1 := h.hi i (Nat.le_refl _) (by omega)
        have h2 := hne (by omega)
        have h3 := h.hi (b - 1) (by omega) (by omega)
        by_cases hbi : b - 1 = i
        · rw [hbi]; omega
        · have := hs i (b - 1) (by omega) (by omega); omega
      · rw [if_neg a2]; exact hs (a - 1) (b - 1) (by omega) (by omega)
  · exact hs

/-- What place leaves behind. -/
def PlacePost (sb : Nat) (tv uv gv : Value) (ts : List Int) (us gs : List Nat) (pk : Nat) (rc : Int) (s d : Int) (u : Nat) (urg : Bool) (w : World) (w' : World) : Prop :=
  ∃ (i1 i2 m : Nat) (f1 f2 : Bool) (us' gs' : List Nat) (pk' : Nat) (tv' uv' gv' : Value), Found ts ts.length s i1 f1 ∧ Found (insT f1 i1 s ts) (insT f1 i1 s ts).length (s + d) i2 f2 ∧ i2 ≤ m ∧ (m = i1 ∨ m ≤ i2) ∧
    Part u urg (insF f2 i2 (insF f1 i1 us)) (insF f2 i2 (insF f1 i1 gs)) pk i1 m us' gs' pk' ∧
    Stg w (Own sb tv uv gv) sb tv' uv' gv' (insT f2 i2 (s + d) (insT f1 i1 s ts)) us' gs' pk' (if urg then (if s + d > rc then s + d else rc) else rc) w'
end Go.Proofs.Qxb6604397a
