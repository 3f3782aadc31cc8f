/-
  Seat b6604397a. The urgent peak of a region, as the program keeps it and as the law's model works it out.
-/
import Derived.Test.Qxb6604397aPkA
import Derived.Test.Qxb6604397aFsA
import Derived.Test.Qxb6604397aSfA
namespace Go.Proofs.Qxb6604397a
open Ieee

abbrev urgQ : PJob → Bool := fun j => j.urg

/-- The sums that the urgent jobs over one point come to, one job after the other. -/
def SumsAt (J : List PJob) (x : Int) (v : Nat) : Prop := ∃ (l : List Nat) (v' : Nat), l ≠ [] ∧ l <+: unitsAt urgQ J x ∧ FSum 0 l v' ∧ Same v v'

def Vals (J : List PJob) (v : Nat) : Prop := ∃ x, SumsAt J x v

theorem MaxFold.peak {V : Nat → Prop} {gs : List Nat} {a p b q : Nat} (h : MaxFold gs a p b q) (hp : PeakOf V p) : PeakOf (fun v => V v ∨ ∃ k, a ≤ k ∧ k < b ∧ Same v (gs.getD k 0)) q := by
  induction h with
  | start => exact hp.congr fun v => ⟨.inl, fun h => h.elim id (fun ⟨k, h1, h2, _⟩ => by omega)⟩
  | @step b q r hm hf ih =>
    have hle := hm.le
    refine (ih.max hf).congr fun v => ⟨?_, ?_⟩
    · rintro ((h | ⟨k, h1, h2, h3⟩) | h)
      · exact .inl h
      · exact .inr ⟨k, h1, by omega, h3⟩
      · exact .inr ⟨b, hle, by omega, h⟩
    · rintro (h | ⟨k, h1, h2, h3⟩)
      · exact .inl (.inl h)
      · by_cases e : k = b
        · subst e; exact .inr h3
        · exact .inl (.inr ⟨k, h1, by omega, h3⟩)

/-- The last point at or before x. -/
theorem last_le {ts : List Int} (hs : Sorted ts) {x : Int} : ∀ n k, ts.length - k ≤ n → k < ts.length → ts.getD k 0 ≤ x → ∃ k', k ≤ k' ∧ k' < ts.length ∧ ts.getD k' 0 ≤ x ∧ ∀ y ∈ ts, ¬ (ts.getD k' 0 < y ∧ y ≤ x) := by
  intro n
  induction n with
  | zero => intro k h1 h2; omega
  | succ n ih =>
    intro k h1 h2 h3
    by_cases h4 : k + 1 < ts.length ∧ ts.getD (k + 1) 0 ≤ x
    · obtain ⟨k', a1, a2, a3, a4⟩ := ih (k + 1) (by omega) h4.1 h4.2
      exact ⟨k', by omega, a2, a3, a4⟩
    · refine ⟨k, Nat.le_refl _, h2, h3, fun y hy hc => ?_⟩
      obtain ⟨m, hm, rfl⟩ := mem_getD.1 hy
      have hkm := (getD_lt_iff hs hm h2).1 hc.1
      refine h4 ⟨by omega, ?_⟩
      by_cases e : m = k + 1
      · subst e; exact hc.2
      · have := hs (k + 1) m (by omega) hm; omega

theorem point_below {J : List PJob} {ts : List Int} (hs : Sorted ts) (he : Ends J ts) {p x : Int} (hp : p ∈ ts) (hpx : p ≤ x) : ∃ k, k < ts.length ∧ p ≤ ts.getD k 0 ∧ ts.getD k 0 ≤ x ∧ ∀ q, unitsAt q J (ts.getD k 0) = unitsAt q J x := by
  obtain ⟨k0, h0, rfl⟩ := mem_getD.1 hp
  obtain ⟨k, a1, a2, a3, a4⟩ := last_le hs (x := x) ts.length k0 (by omega) h0 hpx
  refine ⟨k, a2, ?_, a3, fun q => cov_same he a3 a4 q⟩
  by_cases e : k0 = k
  · subst e; exact Int.le_refl _
  · exact Int.le_of_lt (hs k0 k (by omega) a2)

theorem SumsAt.mono {J : List PJob} {j : PJob} {x : Int} {v : Nat} (h : SumsAt J x v) : SumsAt (J ++ [j]) x v := by
  obtain ⟨l, v', h1, h2, h3⟩ := h
  refine ⟨l, v', h1, ?_, h3⟩
  rw [unitsAt_snoc]
  exact h2.trans (List.prefix_append _ _)

/-- One more job over x. -/
theorem SumsAt.snoc {J : List PJob} {j : PJob} {x : Int} {v g : Nat} (hc : (j.cov x && urgQ j) = true) (hg : FSum 0 (unitsAt urgQ J x ++ [j.u]) g) : SumsAt (J ++ [j]) x v ↔ SumsAt J x v ∨ Same v g := by
  constructor
  · rintro ⟨l, v', h1, h2, h3, h4⟩
    rw [unitsAt_snoc, hc, if_pos rfl, List.prefix_concat_iff] at h2
    rcases h2 with rfl | h2
    · exact .inr (h4.trans (h3.same (Same.refl 0) hg))
    · exact .inl ⟨l, v', h1, h2, h3, h4⟩
  · rintro (h | h)
    · exact h.mono
    · refine ⟨_, g, by simp, ?_, hg, h⟩
      rw [unitsAt_snoc, hc, if_pos rfl]
      exact List.prefix_refl _

theorem SumsAt.off {J : List PJob} {j : PJob} {x : Int} {v : Nat} (hc : (j.cov x && urgQ j) = false) : SumsAt (J ++ [j]) x v ↔ SumsAt J x v := by
  unfold SumsAt
  rw [unitsAt_snoc, hc]
  simp

theorem peak_step {J : List PJob} {x y : SD} {s d : Int} {u : Nat} {urg : Bool} (hI : Inv J x.ts x.us x.gs x.rc) (h : StepSD x y s d u urg) (hp : PeakOf (Vals J) x.pk) : PeakOf (Vals (J ++ [⟨s, d, u, urg⟩])) y.pk := by
  have hI2 := h.inv hI
  obtain ⟨i1, i2, m, f1, f2, a1, a2, a3, a4, a5, a6⟩ := h.ex
  have hpk := a5.peak
  cases urg with
  | false =>
    have hpk' : y.pk = x.pk := hpk
    rw [hpk']
    refine hp.congr fun v => ⟨fun ⟨z, hz⟩ => ⟨z, hz.mono⟩, fun ⟨z, hz⟩ => ⟨z, (SumsAt.off (by simp)).1 hz⟩⟩
  | true =>
    have hpk' : MaxFold y.gs i1 x.pk m y.pk := hpk
    have hkl : ∀ k, i1 ≤ k → k < m → k < y.ts.length := by
      intro k hk1 hk2
      have hlt2 := a2.lt
      have hlt1 := a1.lt
      rw [a6]
      rcases a4 with e | e <;> omega
    have hon : ∀ k, i1 ≤ k → k < m → (PJob.cov ⟨s, d, u, true⟩ (y.ts.getD k 0)) = true := by
      intro k h1 h2
      have hr := range_iff hI.sorted a1 a2 a3 a4 (k := k) (by rw [← a6]; exact hkl k h1 h2)
      unfold PJob.cov
      rw [a6]
      exact decide_eq_true (hr.1 ⟨h1, h2⟩)
    have hsum : ∀ k, i1 ≤ k → k < m → FSum 0 (unitsAt urgQ J (y.ts.getD k 0) ++ [u]) (y.gs.getD k 0) := by
      intro k h1 h2
      have hS := hI2.g k (hkl k h1 h2)
      rw [unitsAt_snoc, hon k h1 h2] at hS
      exact hS
    refine (hpk'.peak hp).congr fun v => ⟨?_, ?_⟩
    · rintro (⟨z, hz⟩ | ⟨k, h1, h2, h3⟩)
      · exact ⟨z, hz.mono⟩
      · exact ⟨y.ts.getD k 0, (SumsAt.snoc (by rw [hon k h1 h2]; rfl) (hsum k h1 h2)).2 (.inr h3)⟩
    · rintro ⟨z, hz⟩
      by_cases hc : (PJob.cov ⟨s, d, u, true⟩ z && urgQ ⟨s, d, u, true⟩) = true
      · have hcz : s ≤ z ∧ z < s + d := by
          have h1 : PJob.cov ⟨s, d, u, true⟩ z = true := (Bool.and_eq_true_iff.1 hc).1
          unfold PJob.cov at h1
          exact of_decide_eq_true h1
        have he2 : Ends J y.ts := fun j hj => by
          have := hI2.ends j (List.mem_append_left _ hj)
          exact this
        have hsy : s ∈ y.ts := (hI2.mem s).2 ⟨_, List.mem_append_right _ (List.mem_singleton.2 rfl), .inl rfl⟩
        have hey : s + d ∈ y.ts := (hI2.mem (s + d)).2 ⟨_, List.mem_append_right _ (List.mem_singleton.2 rfl), .inr rfl⟩
        obtain ⟨k, k1, k2, k3, k4⟩ := point_below hI2.sorted he2 hsy hcz.1
        have hr := range_iff hI.sorted a1 a2 a3 a4 (k := k) (by rw [← a6]; exact k1)
        rw [← a6] at hr
        obtain ⟨r1, r2⟩ := hr.2 ⟨k2, by omega⟩
        have hg := hsum k r1 r2
        rw [k4 urgQ] at hg
        rcases (SumsAt.snoc hc hg).1 hz with h1 | h1
        · exact .inl ⟨z, h1⟩
        · exact .inr ⟨k, r1, r2, h1⟩
      · exact .inl ⟨z, (SumsAt.off (by simpa using hc)).1 hz⟩

/-- What the law's model looks at: the points alone. -/
theorem vals_points {J : List PJob} {ts : List Int} (hs : Sorted ts) (he : Ends J ts) (v : Nat) : (∃ k, k < ts.length ∧ SumsAt J (ts.getD k 0) v) ↔ Vals J v := by
  constructor
  · rintro ⟨k, _, h⟩; exact ⟨_, h⟩
  · rintro ⟨z, l, v', h1, h2, h3, h4⟩
    have hne : unitsAt urgQ J z ≠ [] := fun e => by
      rw [e] at h2
      exact h1 (List.prefix_nil.1 h2)
    obtain ⟨j, hj⟩ : ∃ j, j ∈ J ∧ j.cov z = true := by
      unfold unitsAt at hne
      have : (J.filter fun j => j.cov z && urgQ j) ≠ [] := fun e => by rw [e] at hne; exact hne rfl
      obtain ⟨j, hj⟩ := List.exists_mem_of_ne_nil _ this
      rw [List.mem_filter, Bool.and_eq_true] at hj
      exact ⟨j, hj.1, hj.2.1⟩
    have hcz : j.s ≤ z := by
      have := hj.2
      unfold PJob.cov at this
      exact (of_decide_eq_true this).1
    obtain ⟨k, k1, _, _, k4⟩ := point_below hs he (he j hj.1).1 hcz
    exact ⟨k, k1, l, v', h1, by rw [k4]; exact h2, h3, h4⟩

theorem sameF_of_same {a b : Nat} (h : Same a b) : sameF a b = true := by
  unfold sameF
  show (double.order a b == some .eq || (double.order a a != some .eq && double.order b b != some .eq)) = true
  by_cases hn : NaN a
  · have hb := h.nan.1 hn
    rw [(order_none a a).2 (.inl hn), (order_none b b).2 (.inl hb)]
    simp
  · rcases h with rfl | ⟨h1, _⟩
    · rw [order_self a hn]; rfl
    · exact absurd h1 hn

theorem sameF_of_peak {V : Nat → Prop} {p q : Nat} (hp : PeakOf V p) (hq : PeakOf V q) : sameF p q = true := by
  rcases hp.same hq with h | ⟨h1, h2, h3⟩
  · exact sameF_of_same (.inr h)
  · unfold sameF
    show (double.order p q == some .eq || (double.order p p != some .eq && double.order q q != some .eq)) = true
    rw [order_key h1 h2, h3]
    have e : compare (fkey q) (fkey q) = .eq := by simp
    rw [e]; rfl
end Go.Proofs.Qxb6604397a
