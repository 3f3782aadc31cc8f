/-
  Seat b6604397a. The order of floats as an order of integers; the maximum of a set of floats.
-/
import Derived.Test.Qxb6604397aPnA
namespace Go.Proofs.Qxb6604397a
open Ieee

def fkey (x : Nat) : Int := match double.read x with
  | .number s m i => signed s m (i + 1074).toNat
  | .infinity s => if s then -(2 ^ 2200 : Nat) else (2 ^ 2200 : Nat)
  | .nan _ _ => 0

theorem read_bounds {u : Nat} {s : Bool} {m : Nat} {i : Int} (h : double.read u = .number s m i) : m < 2 ^ 53 ∧ -1074 ≤ i ∧ i ≤ 971 := by
  simp only [Format.read, show double.signWeight = 2 ^ 63 from rfl, show double.binade = 2 ^ 52 from rfl, show double.infRung = 2047 * 2 ^ 52 from rfl, show double.leastPlace = -1074 from by decide] at h
  split at h
  · injection h with _ e2 e3
    subst e2 e3
    omega
  · split at h
    · injection h with _ e2 e3
      subst e2 e3
      omega
    · split at h <;> cases h

theorem signed_add (s : Bool) (m k K : Nat) : signed s m (k + K) = signed s m k * (2 ^ K : Nat) := by
  unfold signed
  have e : m <<< (k + K) = m <<< k * 2 ^ K := by
    rw [Nat.shiftLeft_eq, Nat.shiftLeft_eq, Nat.pow_add, Nat.mul_assoc]
  cases s
  · simp only [Bool.false_eq_true, if_false]; rw [e, Int.natCast_mul]
  · simp only [if_true]; rw [e, Int.natCast_mul, Int.neg_mul]

theorem compare_mul (a b : Int) (K : Nat) : compare (a * (2 ^ K : Nat)) (b * (2 ^ K : Nat)) = compare a b := by
  have hp : (0 : Int) < ((2 ^ K : Nat) : Int) := by have := Nat.two_pow_pos K; omega
  rcases Int.lt_trichotomy a b with h | h | h
  · rw [Int.compare_eq_lt.2 h, Int.compare_eq_lt.2 (Int.mul_lt_mul_of_pos_right h hp)]
  · subst h; simp
  · rw [Int.compare_eq_gt.2 h, Int.compare_eq_gt.2 (Int.mul_lt_mul_of_pos_right h hp)]

theorem signed_lt {s : Bool} {m k : Nat} (hm : m < 2 ^ 53) (hk : k ≤ 2045) : -((2 ^ 2200 : Nat) : Int) < signed s m k ∧ signed s m k < ((2 ^ 2200 : Nat) : Int) := by
  have h : m <<< k < 2 ^ 2200 := by
    rw [Nat.shiftLeft_eq]
    calc m * 2 ^ k < 2 ^ 53 * 2 ^ k := Nat.mul_lt_mul_of_pos_right hm (Nat.two_pow_pos k)
      _ = 2 ^ (53 + k) := by rw [Nat.pow_add]
      _ ≤ 2 ^ 2200 := Nat.pow_le_pow_right (by decide) (by omega)
  have hp := Nat.two_pow_pos 2200
  unfold signed
  generalize 2 ^ 2200 = H at *
  generalize m <<< k = M at *
  cases s
  · simp only [Bool.false_eq_true, if_false]; omega
  · simp only [if_true]; omega

theorem order_key {x y : Nat} (hx : ¬ NaN x) (hy : ¬ NaN y) : double.order x y = some (compare (fkey x) (fkey y)) := by
  unfold NaN at hx hy
  unfold Format.order fkey
  have hp := Nat.two_pow_pos 2200
  cases h1 : double.read x with
  | nan s f => rw [h1] at hx; simp [Datum.isNaN] at hx
  | infinity s =>
    cases h2 : double.read y with
    | nan t f => rw [h2] at hy; simp [Datum.isNaN] at hy
    | infinity t =>
      simp only [Datum.order, Option.some.injEq]
      generalize 2 ^ 2200 = H at *
      cases s <;> cases t
      · simp
      · simp only [Bool.false_eq_true, if_false, if_true]
        rw [Int.compare_eq_gt.2 (by omega)]; rfl
      · simp only [Bool.false_eq_true, if_false, if_true]
        rw [Int.compare_eq_lt.2 (by omega)]; rfl
      · simp
    | number t n j =>
      obtain ⟨b1, b2, b3⟩ := read_bounds h2
      have hb := signed_lt (s := t) b1 (show (j + 1074).toNat ≤ 2045 by omega)
      simp only [Datum.order, Option.some.injEq]
      generalize 2 ^ 2200 = H at *
      cases s
      · simp only [Bool.false_eq_true, if_false]; rw [Int.compare_eq_gt.2 (by omega)]
      · simp only [if_true]; rw [Int.compare_eq_lt.2 (by omega)]
  | number s m i =>
    obtain ⟨a1, a2, a3⟩ := read_bounds h1
    have ha := signed_lt (s := s) a1 (show (i + 1074).toNat ≤ 2045 by omega)
    cases h2 : double.read y with
    | nan t f => rw [h2] at hy; simp [Datum.isNaN] at hy
    | infinity t =>
      simp only [Datum.order, Option.some.injEq]
      generalize 2 ^ 2200 = H at *
      cases t
      · simp only [Bool.false_eq_true, if_false]; rw [Int.compare_eq_lt.2 (by omega)]
      · simp only [if_true]; rw [Int.compare_eq_gt.2 (by omega)]
    | number t n j =>
      obtain ⟨b1, b2, b3⟩ := read_bounds h2
      simp only [Datum.order, Option.some.injEq]
      rw [show (i + 1074).toNat = (i - min i j).toNat + (min i j + 1074).toNat by omega, show (j + 1074).toNat = (j - min i j).toNat + (min i j + 1074).toNat by omega, signed_add, signed_add, compare_mul]

theorem fkey_zero : fkey 0 = 0 := by
  unfold fkey
  rw [read_zero]
  rfl

theorem not_nan_zero : ¬ NaN 0 := by unfold NaN; rw [read_zero]; simp [Datum.isNaN]

/-- Equal, or both no numbers. -/
def Same (v w : Nat) : Prop := v = w ∨ (NaN v ∧ NaN w)

theorem Same.refl (v : Nat) : Same v v := .inl rfl
theorem Same.symm {v w : Nat} (h : Same v w) : Same w v := h.imp Eq.symm And.symm
theorem Same.trans {a b c : Nat} (h1 : Same a b) (h2 : Same b c) : Same a c := by
  rcases h1 with rfl | ⟨p, q⟩
  · exact h2
  · rcases h2 with rfl | ⟨r, t⟩
    · exact .inr ⟨p, q⟩
    · exact .inr ⟨p, t⟩
theorem Same.nan {v w : Nat} (h : Same v w) : NaN v ↔ NaN w := by
  rcases h with rfl | ⟨p, q⟩
  · exact Iff.rfl
  · exact ⟨fun _ => q, fun _ => p⟩

theorem FAdd.same {x y u r t : Nat} (hxy : Same x y) (h1 : FAdd x u r) (h2 : FAdd y u t) : Same r t := by
  unfold FAdd at h1 h2
  rcases hxy with rfl | ⟨p, q⟩
  · cases h : double.add x u with
    | some z => rw [h] at h1 h2; exact .inl (h1.trans h2.symm)
    | none => rw [h] at h1 h2; exact .inr ⟨h1, h2⟩
  · rw [add_nan_left x u p] at h1
    rw [add_nan_left y u q] at h2
    exact .inr ⟨h1, h2⟩

theorem FSum.same {l : List Nat} : ∀ {x y r t : Nat}, Same x y → FSum x l r → FSum y l t → Same r t := by
  induction l with
  | nil => intro x y r t h h1 h2; cases h1; cases h2; exact h
  | cons u l ih =>
    intro x y r t h h1 h2
    cases h1 with
    | cons a1 b1 =>
      cases h2 with
      | cons a2 b2 => exact ih (a1.same h a2) b1 b2

/-- p is the greatest of 0 and the floats of V; a NaN where V has one. -/
structure PeakOf (V : Nat → Prop) (p : Nat) : Prop where
  nan : NaN p ↔ ∃ v, V v ∧ NaN v
  ge : ¬ NaN p → 0 ≤ fkey p
  le : ¬ NaN p → ∀ v, V v → fkey v ≤ fkey p
  at_ : ¬ NaN p → fkey p = 0 ∨ ∃ v, V v ∧ fkey v = fkey p

theorem PeakOf.zero : PeakOf (fun _ => False) 0 :=
  ⟨⟨fun h => absurd h not_nan_zero, fun ⟨_, h, _⟩ => h.elim⟩, fun _ => by rw [fkey_zero]; exact Int.le_refl _, fun _ _ h => h.elim, fun _ => .inl fkey_zero⟩

theorem PeakOf.congr {V V' : Nat → Prop} {p : Nat} (h : PeakOf V p) (he : ∀ v, V v ↔ V' v) : PeakOf V' p := by
  have : V = V' := funext fun v => propext (he v)
  subst this
  exact h

theorem FMax.key {p g q : Nat} (h : FMax p g q) (hp : ¬ NaN p) (hg : ¬ NaN g) : (q = p ∨ q = g) ∧ fkey p ≤ fkey q ∧ fkey g ≤ fkey q := by
  unfold FMax at h
  rw [order_key hp hg] at h
  rcases Int.lt_trichotomy (fkey p) (fkey g) with hc | hc | hc
  · rw [Int.compare_eq_lt.2 hc] at h
    have h' : q = g := h
    subst h'
    exact ⟨.inr rfl, by omega, Int.le_refl _⟩
  · rw [hc] at h
    have e : compare (fkey g) (fkey g) = .eq := by simp
    rw [e] at h
    have h' : q = if (double.read p).neg then g else p := h
    subst h'
    split
    · exact ⟨.inr rfl, by omega, by omega⟩
    · exact ⟨.inl rfl, by omega, by omega⟩
  · rw [Int.compare_eq_gt.2 hc] at h
    have h' : q = p := h
    subst h'
    exact ⟨.inl rfl, Int.le_refl _, by omega⟩

theorem FMax.nan {p g q : Nat} (h : FMax p g q) (hn : NaN p ∨ NaN g) : NaN q := by
  unfold FMax at h
  rw [(order_none p g).2 hn] at h
  exact h

theorem PeakOf.max {V : Nat → Prop} {p g q : Nat} (h : PeakOf V p) (hq : FMax p g q) : PeakOf (fun v => V v ∨ Same v g) q := by
  by_cases hn : NaN p ∨ NaN g
  · have hnq := hq.nan hn
    refine ⟨⟨fun _ => ?_, fun _ => hnq⟩, fun h => absurd hnq h, fun h => absurd hnq h, fun h => absurd hnq h⟩
    rcases hn with hn | hn
    · obtain ⟨v, hv, hvn⟩ := h.nan.1 hn
      exact ⟨v, .inl hv, hvn⟩
    · exact ⟨g, .inr (Same.refl g), hn⟩
  · have hp : ¬ NaN p := fun h => hn (.inl h)
    have hg : ¬ NaN g := fun h => hn (.inr h)
    obtain ⟨k1, k2, k3⟩ := hq.key hp hg
    have hnq : ¬ NaN q := by rcases k1 with rfl | rfl <;> assumption
    have hs : ∀ v, Same v g → v = g := fun v hv => by
      rcases hv with e | ⟨_, e⟩
      · exact e
      · exact absurd e hg
    refine ⟨⟨fun h => absurd h hnq, ?_⟩, fun _ => by have := h.ge hp; omega, fun _ v hv => ?_, fun _ => ?_⟩
    · rintro ⟨v, hv | hv, hvn⟩
      · exact absurd (h.nan.2 ⟨v, hv, hvn⟩) hp
      · rw [hs v hv] at hvn; exact absurd hvn hg
    · rcases hv with hv | hv
      · have := h.le hp v hv; omega
      · rw [hs v hv]; exact k3
    · rcases k1 with rfl | rfl
      · rcases h.at_ hp with h0 | ⟨v, hv, e⟩
        · exact .inl h0
        · exact .inr ⟨v, .inl hv, e⟩
      · exact .inr ⟨_, .inr (Same.refl _), rfl⟩

/-- Two greatest ones of one set are the same to zzSameF. -/
theorem PeakOf.same {V : Nat → Prop} {p q : Nat} (hp : PeakOf V p) (hq : PeakOf V q) : (NaN p ∧ NaN q) ∨ (¬ NaN p ∧ ¬ NaN q ∧ fkey p = fkey q) := by
  by_cases h : NaN p
  · exact .inl ⟨h, hq.nan.2 (hp.nan.1 h)⟩
  · have h' : ¬ NaN q := fun k => h (hp.nan.2 (hq.nan.1 k))
    refine .inr ⟨h, h', Int.le_antisymm ?_ ?_⟩
    · rcases hp.at_ h with e | ⟨v, hv, e⟩
      · have := hq.ge h'; omega
      · have := hq.le h' v hv; omega
    · rcases hq.at_ h' with e | ⟨v, hv, e⟩
      · have := hp.ge h; omega
      · have := hp.le h v hv; omega
end Go.Proofs.Qxb6604397a
