/-
  Seat b6604397a. A job placed and cancelled: what is left, in plain terms.
-/
import Derived.Test.Qxb6604397aFsA
namespace Go.Proofs.Qxb6604397a
open Ieee

/-- The bits of a finite number. -/
structure Fin64 (u : Nat) (sg : Bool) (m : Nat) (i : Int) : Prop where
  lt : u < 2 ^ 64
  rd : double.read u = .number sg m i

theorem FAdd.eq {x y r z : Nat} (h : FAdd x y r) (hz : double.add x y = some z) : r = z := by
  unfold FAdd at h
  rw [hz] at h
  exact h

section
variable {u m : Nat} {sg : Bool} {i : Int}

theorem Fin64.one (h : Fin64 u sg m i) {r : Nat} (hr : FSum 0 [u] r) : r = if m = 0 then 0 else u := by
  cases hr with
  | cons h1 h2 =>
    cases h2
    exact h1.eq (add_zero_left h.lt h.rd)

theorem Fin64.two (h : Fin64 u sg m i) {r : Nat} (hr : FSum 0 [u, u ^^^ 2 ^ 63] r) : r = 0 := by
  cases hr with
  | cons h1 h2 =>
    cases h2 with
    | cons h3 h4 =>
      cases h4
      have e := h1.eq (add_zero_left h.lt h.rd)
      have hn := read_neg h.lt h.rd
      by_cases hm : m = 0
      · rw [if_pos hm] at e
        subst e
        subst hm
        exact h3.eq (add_zero_zero hn)
      · rw [if_neg hm] at e
        subst e
        exact h3.eq (add_opposite h.rd hn)

/-- The peak that one such job leaves. -/
def peakOf (u : Nat) (sg : Bool) (m : Nat) : Nat := if m = 0 then 0 else if sg then 0 else u

theorem FMax.of_order {x y q : Nat} {o : Ordering} (h : FMax x y q) (ho : double.order x y = some o) : q = match o with | .lt => y | .gt => x | .eq => if (double.read x).neg then y else x := by
  unfold FMax at h
  rw [ho] at h
  cases o <;> exact h

theorem order_zero_zero : double.order 0 0 = some .eq := by decide

theorem Fin64.max0 (h : Fin64 u sg m i) {q : Nat} (hq : FMax 0 (if m = 0 then 0 else u) q) : q = peakOf u sg m := by
  unfold peakOf
  by_cases hm : m = 0
  · rw [if_pos hm] at hq ⊢
    have := hq.of_order order_zero_zero
    rw [this]; simp
  · rw [if_neg hm] at hq ⊢
    have ho := (order_zero h.rd).1
    rw [if_neg hm] at ho
    have := hq.of_order ho
    rw [this]
    cases sg <;> rfl

theorem Fin64.max1 (h : Fin64 u sg m i) {q : Nat} (hq : FMax (peakOf u sg m) (if m = 0 then 0 else u) q) : q = peakOf u sg m := by
  by_cases hm : m = 0
  · have e : peakOf u sg m = 0 := by unfold peakOf; rw [if_pos hm]
    rw [e] at hq ⊢
    rw [if_pos hm] at hq
    have := hq.of_order order_zero_zero
    rw [this]; simp
  · cases sg with
    | true =>
      have e : peakOf u true m = 0 := by unfold peakOf; rw [if_neg hm]; rfl
      rw [e] at hq
      have := h.max0 hq
      exact this
    | false =>
      have e : peakOf u false m = u := by unfold peakOf; rw [if_neg hm]; rfl
      rw [e] at hq ⊢
      rw [if_neg hm] at hq
      have hn : ¬ NaN u := by unfold NaN; rw [h.rd]; simp [Datum.isNaN]
      have := hq.of_order (order_self u hn)
      rw [this]; simp

theorem Fin64.max2 (h : Fin64 u sg m i) {p q : Nat} (hp : p = 0 ∨ p = peakOf u sg m) (hq : FMax p 0 q) : q = p := by
  have h0 : p = 0 → q = p := by
    rintro rfl
    have := hq.of_order order_zero_zero
    rw [this]; simp
  rcases hp with hp | hp
  · exact h0 hp
  · by_cases hm : m = 0
    · exact h0 (by rw [hp]; unfold peakOf; rw [if_pos hm])
    · cases sg with
      | true => exact h0 (by rw [hp]; unfold peakOf; rw [if_neg hm]; rfl)
      | false =>
        have e : p = u := by rw [hp]; unfold peakOf; rw [if_neg hm]; rfl
        subst e
        have ho := (order_zero h.rd).2
        rw [if_neg hm] at ho
        exact hq.of_order ho
end

theorem MaxFold.const {gs : List Nat} {a p b q v P : Nat} (h : MaxFold gs a p b q) (hv : ∀ k, a ≤ k → k < b → gs.getD k 0 = v) (h1 : ∀ r, FMax p v r → r = P) (h2 : ∀ r, FMax P v r → r = P) : q = if a < b then P else p := by
  induction h with
  | start => simp
  | @step b q r hm hf ih =>
    have ihq := ih fun k h3 h4 => hv k h3 (by omega)
    have hle := hm.le
    rw [hv b hle (Nat.lt_succ_self _)] at hf
    rw [if_pos (by omega)]
    by_cases hab : a < b
    · rw [if_pos hab] at ihq; subst ihq; exact h2 r hf
    · rw [if_neg hab] at ihq; subst ihq; exact h1 r hf

/-- What a placed and cancelled job leaves in its region. -/
structure Cancelled (y : SD) (s d : Int) (u : Nat) (urg pos : Bool) : Prop where
  sorted : Sorted y.ts
  lenU : y.us.length = y.ts.length
  lenG : y.gs.length = y.ts.length
  mem : ∀ x, x ∈ y.ts ↔ x = s ∨ x = s + d
  us : ∀ k, k < y.ts.length → y.us.getD k 0 = 0
  gs : ∀ k, k < y.ts.length → y.gs.getD k 0 = 0
  pk : y.pk = if urg then (if 0 < d then (if pos then u else 0) else 0) else 0
  rc : y.rc = if urg then (if 0 < s + d then s + d else 0) else 0

theorem pairAt (q : PJob → Bool) (s d : Int) (u v : Nat) (urg : Bool) (x : Int) (hq : q ⟨s, d, u, urg⟩ = q ⟨s, d, v, urg⟩) : unitsAt q [⟨s, d, u, urg⟩, ⟨s, d, v, urg⟩] x = [] ∨ unitsAt q [⟨s, d, u, urg⟩, ⟨s, d, v, urg⟩] x = [u, v] := by
  have e := unitsAt_snoc q [⟨s, d, u, urg⟩] ⟨s, d, v, urg⟩ x
  have e1 := unitsAt_snoc q [] ⟨s, d, u, urg⟩ x
  simp only [List.nil_append] at e1
  rw [show [(⟨s, d, u, urg⟩ : PJob), ⟨s, d, v, urg⟩] = [⟨s, d, u, urg⟩] ++ [⟨s, d, v, urg⟩] from rfl, e, e1]
  have hc : PJob.cov ⟨s, d, u, urg⟩ x = PJob.cov ⟨s, d, v, urg⟩ x := rfl
  rw [hc, hq]
  cases PJob.cov ⟨s, d, v, urg⟩ x && q ⟨s, d, v, urg⟩
  · left; simp [unitsAt]
  · right; simp [unitsAt]

theorem cancelled {y1 y2 : SD} {s d : Int} {u m : Nat} {sg urg : Bool} {i : Int} (hu : Fin64 u sg m i) (h1 : StepSD SD.nil y1 s d u urg) (h2 : StepSD y1 y2 s d (u ^^^ 2 ^ 63) urg) :
    Cancelled y2 s d u urg (decide (m ≠ 0 ∧ sg = false)) := by
  have I1 := h1.inv Inv.nil
  have I2 := h2.inv I1
  have z : ∀ q : PJob → Bool, q ⟨s, d, u, urg⟩ = q ⟨s, d, u ^^^ 2 ^ 63, urg⟩ → ∀ ts us, Sums q [⟨s, d, u, urg⟩, ⟨s, d, u ^^^ 2 ^ 63, urg⟩] ts us → ∀ k, k < ts.length → us.getD k 0 = 0 := by
    intro q hq ts us hS k hk
    have := hS k hk
    rcases pairAt q s d u (u ^^^ 2 ^ 63) urg (ts.getD k 0) hq with e | e
    · rw [e] at this
      generalize us.getD k 0 = v at this
      cases this; rfl
    · rw [e] at this; exact hu.two this
  have hg2 := z (fun j => j.urg) rfl _ _ I2.g
  refine ⟨I2.sorted, I2.lenU, I2.lenG, fun x => ?_, z (fun _ => true) rfl _ _ I2.u, hg2, ?_, ?_⟩
  · rw [I2.mem]
    simp
  · obtain ⟨i1, i2, b, f1, f2, a1, a2, a3, a4, a5, a6⟩ := h1.ex
    obtain ⟨j1, j2, c, g1, g2, b1, b2, b3, b4, b5, b6⟩ := h2.ex
    have p1 := a5.peak
    have p2 := b5.peak
    cases urg with
    | false =>
      have p1' : y1.pk = SD.nil.pk := p1
      have p2' : y2.pk = y1.pk := p2
      rw [p2', p1']; rfl
    | true =>
      have p1' : MaxFold y1.gs i1 0 b y1.pk := p1
      have p2' : MaxFold y2.gs j1 y1.pk c y2.pk := p2
      have hl1 : ∀ k, i1 ≤ k → k < b → k < y1.ts.length := by
        intro k hk1 hk2
        have hlt2 := a2.lt
        rw [a6]
        rcases a4 with e | e <;> omega
      have hv1 : ∀ k, i1 ≤ k → k < b → y1.gs.getD k 0 = if m = 0 then 0 else u := by
        intro k hk1 hk2
        have hkl := hl1 k hk1 hk2
        have hS := I1.g k hkl
        have hr := range_iff (ts := SD.nil.ts) (fun i j _ h => absurd h (Nat.not_lt_zero _)) a1 a2 a3 a4 (k := k) (by rw [← a6]; exact hkl)
        have hc : PJob.cov ⟨s, d, u, true⟩ (y1.ts.getD k 0) = true := by
          unfold PJob.cov
          rw [a6]
          exact decide_eq_true (hr.1 ⟨hk1, hk2⟩)
        have e1 := unitsAt_snoc (fun j => j.urg) [] ⟨s, d, u, true⟩ (y1.ts.getD k 0)
        rw [hc] at e1
        rw [e1] at hS
        exact hu.one hS
      have q1 := p1'.const hv1 (fun r hr => hu.max0 hr) (fun r hr => hu.max1 hr)
      have hd : i1 < b ↔ 0 < d := by
        have l1 := a1.lt
        have at1 := a1.at
        constructor
        · intro hib
          have hr := (range_iff (ts := SD.nil.ts) (fun i j _ h => absurd h (Nat.not_lt_zero _)) a1 a2 a3 a4 (k := i1) (by rw [← a6]; exact hl1 i1 (Nat.le_refl _) hib)).1 ⟨Nat.le_refl _, hib⟩
          omega
        · intro hd
          have : i1 < i2 := by
            rcases Nat.lt_or_ge i1 i2 with h | h
            · exact h
            · have := a2.hi i1 h l1; rw [at1] at this; omega
          omega
      have hp : y1.pk = 0 ∨ y1.pk = peakOf u sg m := by
        rw [q1]; split
        · exact .inr rfl
        · exact .inl rfl
      have hl2 : ∀ k, j1 ≤ k → k < c → k < y2.ts.length := by
        intro k hk1 hk2
        have hlt2 := b2.lt
        rw [b6]
        rcases b4 with e | e <;> omega
      have q2 := p2'.const (v := 0) (P := y1.pk) (fun k h3 h4 => hg2 k (hl2 k h3 h4)) (fun r hr => hu.max2 hp hr) (fun r hr => hu.max2 hp hr)
      have e2 : y2.pk = y1.pk := by rw [q2]; split <;> rfl
      rw [e2, q1]
      simp only [if_true]
      by_cases hd' : 0 < d
      · rw [if_pos (hd.2 hd'), if_pos hd']
        unfold peakOf
        by_cases hm : m = 0
        · simp [hm]
        · cases sg <;> simp [hm]
      · rw [if_neg (fun h => hd' (hd.1 h)), if_neg hd']
  · rw [h2.rc, h1.rc]
    cases urg with
    | false => rfl
    | true =>
      simp only [if_true]
      have : SD.nil.rc = 0 := rfl
      rw [this]
      by_cases hp : s + d > 0
      · simp [hp]
      · simp [hp]
end Go.Proofs.Qxb6604397a
