/-
  Seat b6604397a. What a script of placements leaves of one region, in plain terms: the points and the sums on the stretches.
-/
import Derived.Test.Qxb6604397aPlB
namespace Go.Proofs.Qxb6604397a

structure PJob where
  s : Int
  d : Int
  u : Nat
  urg : Bool

def PJob.cov (j : PJob) (x : Int) : Bool := decide (j.s ≤ x ∧ x < j.s + j.d)

/-- The units, in call order, of the jobs of a kind that cover x. -/
def unitsAt (q : PJob → Bool) (J : List PJob) (x : Int) : List Nat := (J.filter fun j => j.cov x && q j).map (·.u)

/-- r is what the numbers of l, added in their order to x, give. -/
inductive FSum : Nat → List Nat → Nat → Prop
  | nil (x : Nat) : FSum x [] x
  | cons {x u y r : Nat} {l : List Nat} : FAdd x u y → FSum y l r → FSum x (u :: l) r

theorem FSum.snoc {x y r u : Nat} {l : List Nat} (h : FSum x l y) (hr : FAdd y u r) : FSum x (l ++ [u]) r := by
  induction h with
  | nil x => exact .cons hr (.nil _)
  | cons h1 _ ih => exact .cons h1 (ih hr)

/-- Every start and end of J is a point of ts. -/
def Ends (J : List PJob) (ts : List Int) : Prop := ∀ j ∈ J, j.s ∈ ts ∧ j.s + j.d ∈ ts

def reach (J : List PJob) : Int := J.foldl (fun r j => if j.urg then (if j.s + j.d > r then j.s + j.d else r) else r) 0

theorem mem_getD {ts : List Int} {x : Int} : x ∈ ts ↔ ∃ k, k < ts.length ∧ ts.getD k 0 = x := by
  rw [List.mem_iff_getElem]
  constructor
  · rintro ⟨k, hk, rfl⟩; exact ⟨k, hk, by simp [hk]⟩
  · rintro ⟨k, hk, rfl⟩; exact ⟨k, hk, by simp [hk]⟩

/-- Between two points nothing begins and nothing ends. -/
theorem cov_same {J : List PJob} {ts : List Int} (he : Ends J ts) {a b : Int} (hab : a ≤ b) (hno : ∀ y ∈ ts, ¬ (a < y ∧ y ≤ b)) (q : PJob → Bool) : unitsAt q J a = unitsAt q J b := by
  unfold unitsAt
  refine congrArg _ (List.filter_congr fun j hj => ?_)
  obtain ⟨h1, h2⟩ := he j hj
  have n1 := hno _ h1
  have n2 := hno _ h2
  have : j.cov a = j.cov b := by
    unfold PJob.cov
    exact decide_eq_decide.2 (by omega)
  rw [this]

theorem cov_none {J : List PJob} {ts : List Int} (he : Ends J ts) {a : Int} (hno : ∀ y ∈ ts, a < y) (q : PJob → Bool) : unitsAt q J a = [] := by
  unfold unitsAt
  rw [List.filter_eq_nil_iff.2]
  · rfl
  · intro j hj
    obtain ⟨h1, _⟩ := he j hj
    have n1 := hno _ h1
    have : j.cov a = false := by
      unfold PJob.cov
      exact decide_eq_false (by omega)
    rw [this]; simp

theorem mem_insT {ts : List Int} {t x : Int} {i : Nat} {f : Bool} (h : Found ts ts.length t i f) : x ∈ insT f i t ts ↔ x = t ∨ x ∈ ts := by
  cases f
  · show x ∈ ts.take i ++ t :: ts.drop i ↔ _
    rw [List.mem_append, List.mem_cons]
    constructor
    · rintro (h | h | h)
      · exact .inr (List.mem_of_mem_take h)
      · exact .inl h
      · exact .inr (List.mem_of_mem_drop h)
    · rintro (h | h)
      · exact .inr (.inl h)
      · rw [← List.take_append_drop i ts, List.mem_append] at h
        exact h.imp id .inr
  · refine ⟨.inr, ?_⟩
    rintro (rfl | h1)
    · exact mem_getD.2 ⟨i, (h.eq.1 rfl).1, (h.eq.1 rfl).2⟩
    · exact h1

theorem Ends.insT {J : List PJob} {ts : List Int} (he : Ends J ts) {t : Int} {i : Nat} {f : Bool} (h : Found ts ts.length t i f) : Ends J (insT f i t ts) := fun j hj =>
  ⟨(mem_insT h).2 (.inr (he j hj).1), (mem_insT h).2 (.inr (he j hj).2)⟩

/-- The sums on the stretches. -/
def Sums (q : PJob → Bool) (J : List PJob) (ts : List Int) (us : List Nat) : Prop := ∀ k, k < ts.length → FSum 0 (unitsAt q J (ts.getD k 0)) (us.getD k 0)

/-- A split keeps the sums. -/
theorem Sums.split {q : PJob → Bool} {J : List PJob} {ts : List Int} {us : List Nat} (hS : Sums q J ts us) (hs : Sorted ts) (hl : us.length = ts.length) (he : Ends J ts) {t : Int} {i : Nat} {f : Bool} (h : Found ts ts.length t i f) : Sums q J (insT f i t ts) (insF f i us) := by
  cases f
  · intro k hk
    have hk' : k < ts.length + 1 := by rw [length_insT h.le] at hk; simpa using hk
    show FSum 0 (unitsAt q J ((ts.take i ++ t :: ts.drop i).getD k 0)) ((us.take i ++ prevF i us :: us.drop i).getD k 0)
    have hi := h.le
    rw [getD_ins ts 0 t i k h.le, getD_ins us 0 (prevF i us) i k (by omega)]
    by_cases h1 : k < i
    · rw [if_pos h1, if_pos h1]; exact hS k (by omega)
    · rw [if_neg h1, if_neg h1]
      by_cases h2 : k = i
      · rw [if_pos h2, if_pos h2]
        have hne : ∀ y ∈ ts, y ≠ t := by
          intro y hy e
          obtain ⟨m, hm, rfl⟩ := mem_getD.1 hy
          rcases Nat.lt_or_ge m i with h3 | h3
          · have := h.lo m h3; omega
          · rcases Nat.lt_or_ge i m with h4 | h4
            · have h5 := hs i m h4 hm
              have h6 := h.hi i (Nat.le_refl _) (by omega)
              omega
            · have : m = i := by omega
              subst this
              have := h.eq.2 ⟨hm, e⟩
              cases this
        unfold prevF
        by_cases h0 : i = 0
        · rw [if_pos h0, cov_none he (a := t) (fun y hy => ?_) q]
          · exact .nil 0
          · obtain ⟨m, hm, rfl⟩ := mem_getD.1 hy
            have h5 := h.hi m (by omega) hm
            have h6 := hne _ hy
            omega
        · rw [if_neg h0, ← cov_same he (a := ts.getD (i - 1) 0) (b := t) (Int.le_of_lt (h.lo _ (by omega))) (fun y hy hq => ?_) q]
          · exact hS (i - 1) (by omega)
          · obtain ⟨m, hm, rfl⟩ := mem_getD.1 hy
            rcases Nat.lt_or_ge m i with h3 | h3
            · rcases Nat.lt_or_ge m (i - 1) with h4 | h4
              · have := hs m (i - 1) h4 (by omega); omega
              · have : m = i - 1 := by omega
                subst this; omega
            · have h5 := h.hi m h3 hm
              have h6 := hne _ hy
              omega
      · rw [if_neg h2, if_neg h2]; exact hS (k - 1) (by omega)
  · exact hS

theorem getD_lt_iff {ts : List Int} (hs : Sorted ts) {i k : Nat} (hi : i < ts.length) (hk : k < ts.length) : ts.getD k 0 < ts.getD i 0 ↔ k < i := by
  constructor
  · intro h
    rcases Nat.lt_or_ge k i with h1 | h1
    · exact h1
    · rcases Nat.lt_or_ge i k with h2 | h2
      · have := hs i k h2 hk; omega
      · have : i = k := by omega
        subst this; omega
  · intro h; exact hs k i h hi

/-- Which stretches the loop of place runs over. -/
theorem range_iff {ts : List Int} {s d : Int} {i1 i2 m : Nat} {f1 f2 : Bool} (hs : Sorted ts) (h1 : Found ts ts.length s i1 f1) (h2 : Found (insT f1 i1 s ts) (insT f1 i1 s ts).length (s + d) i2 f2) (hm : i2 ≤ m) (hm2 : m = i1 ∨ m ≤ i2) {k : Nat} (hk : k < (insT f2 i2 (s + d) (insT f1 i1 s ts)).length) :
    (i1 ≤ k ∧ k < m) ↔ (s ≤ (insT f2 i2 (s + d) (insT f1 i1 s ts)).getD k 0 ∧ (insT f2 i2 (s + d) (insT f1 i1 s ts)).getD k 0 < s + d) := by
  have hs1 := h1.sorted hs
  have hs2 := h2.sorted hs1
  have a1 := h1.at
  have l1 := h1.lt
  have a2 := h2.at
  have l2 := h2.lt
  by_cases hd : 0 < d
  · have hlt : i1 < i2 := by
      rcases Nat.lt_or_ge i1 i2 with h | h
      · exact h
      · have := h2.hi i1 h l1; rw [a1] at this; omega
    have hmi : m = i2 := by omega
    subst hmi
    have b1 : (insT f2 m (s + d) (insT f1 i1 s ts)).getD i1 0 = s := by
      cases f2
      · show ((insT f1 i1 s ts).take m ++ (s + d) :: (insT f1 i1 s ts).drop m).getD i1 0 = s
        rw [getD_ins _ _ _ _ _ h2.le, if_pos hlt, a1]
      · exact a1
    have g1 := getD_lt_iff hs2 (i := i1) (k := k) (by omega) hk
    have g2 := getD_lt_iff hs2 (i := m) (k := k) l2 hk
    rw [b1] at g1
    rw [a2] at g2
    omega
  · have hle : i2 ≤ i1 := by
      rcases Nat.lt_or_ge i1 i2 with h | h
      · have := h2.lo i1 h; rw [a1] at this; omega
      · exact h
    omega

theorem unitsAt_snoc (q : PJob → Bool) (J : List PJob) (j : PJob) (x : Int) : unitsAt q (J ++ [j]) x = unitsAt q J x ++ if j.cov x && q j then [j.u] else [] := by
  unfold unitsAt
  rw [List.filter_append, List.map_append]
  congr 1
  cases hq : j.cov x && q j
  · rw [List.filter_cons_of_neg (by simp [hq])]; rfl
  · rw [List.filter_cons_of_pos (by simp [hq])]; rfl

/-- What a region's schedule stands for. -/
structure Inv (J : List PJob) (ts : List Int) (us gs : List Nat) (rc : Int) : Prop where
  sorted : Sorted ts
  lenU : us.length = ts.length
  lenG : gs.length = ts.length
  mem : ∀ x, x ∈ ts ↔ ∃ j ∈ J, x = j.s ∨ x = j.s + j.d
  u : Sums (fun _ => true) J ts us
  g : Sums (fun j => j.urg) J ts gs
  r : rc = reach J

theorem Inv.ends {J : List PJob} {ts : List Int} {us gs : List Nat} {rc : Int} (h : Inv J ts us gs rc) : Ends J ts := fun j hj => ⟨(h.mem _).2 ⟨j, hj, .inl rfl⟩, (h.mem _).2 ⟨j, hj, .inr rfl⟩⟩

theorem Inv.nil : Inv [] [] [] [] 0 := ⟨fun i j _ h => by simp at h, rfl, rfl, fun x => by simp, fun k h => by simp at h, fun k h => by simp at h, rfl⟩

theorem len_insF {ts : List Int} {us : List Nat} {t : Int} {i : Nat} {f : Bool} (hl : us.length = ts.length) (hi : i ≤ ts.length) : (insF f i us).length = (insT f i t ts).length := by
  rw [length_insF (by omega), length_insT hi, hl]

theorem Inv.step {J : List PJob} {ts : List Int} {us gs us' gs' : List Nat} {rc s d : Int} {i1 i2 m u pk pk' : Nat} {f1 f2 urg : Bool} (h : Inv J ts us gs rc) (h1 : Found ts ts.length s i1 f1) (h2 : Found (insT f1 i1 s ts) (insT f1 i1 s ts).length (s + d) i2 f2) (hm : i2 ≤ m) (hm2 : m = i1 ∨ m ≤ i2)
    (hP : Part u urg (insF f2 i2 (insF f1 i1 us)) (insF f2 i2 (insF f1 i1 gs)) pk i1 m us' gs' pk') :
    Inv (J ++ [⟨s, d, u, urg⟩]) (insT f2 i2 (s + d) (insT f1 i1 s ts)) us' gs' (if urg then (if s + d > rc then s + d else rc) else rc) := by
  have hs1 := h1.sorted h.sorted
  have hs2 := h2.sorted hs1
  have e1 := h.ends.insT h1
  have lu1 := len_insF (t := s) (f := f1) h.lenU h1.le
  have lg1 := len_insF (t := s) (f := f1) h.lenG h1.le
  have lu2 := len_insF (t := s + d) (f := f2) lu1 h2.le
  have lg2 := len_insF (t := s + d) (f := f2) lg1 h2.le
  have u2 := (h.u.split h.sorted h.lenU h.ends h1).split hs1 lu1 e1 h2
  have g2 := (h.g.split h.sorted h.lenG h.ends h1).split hs1 lg1 e1 h2
  refine ⟨hs2, by rw [hP.used.len, lu2], by rw [hP.glen, lg2], fun x => ?_, fun k hk => ?_, fun k hk => ?_, ?_⟩
  · rw [mem_insT h2, mem_insT h1, h.mem]
    constructor
    · rintro (rfl | rfl | ⟨j, hj, hx⟩)
      · exact ⟨_, List.mem_append_right _ (List.mem_singleton.2 rfl), .inr rfl⟩
      · exact ⟨_, List.mem_append_right _ (List.mem_singleton.2 rfl), .inl rfl⟩
      · exact ⟨j, List.mem_append_left _ hj, hx⟩
    · rintro ⟨j, hj, hx⟩
      rcases List.mem_append.1 hj with hj | hj
      · exact .inr (.inr ⟨j, hj, hx⟩)
      · have := List.mem_singleton.1 hj
        subst this
        rcases hx with rfl | rfl
        · exact .inr (.inl rfl)
        · exact .inl rfl
  · have hr := range_iff h.sorted h1 h2 hm hm2 hk
    have hu := u2 k hk
    rw [unitsAt_snoc]
    by_cases hc : i1 ≤ k ∧ k < m
    · have hcov : (PJob.cov ⟨s, d, u, urg⟩ ((insT f2 i2 (s + d) (insT f1 i1 s ts)).getD k 0)) = true := by
        unfold PJob.cov; exact decide_eq_true (hr.1 hc)
      rw [hcov]
      exact hu.snoc (hP.used.on k hc.1 hc.2)
    · have hcov : (PJob.cov ⟨s, d, u, urg⟩ ((insT f2 i2 (s + d) (insT f1 i1 s ts)).getD k 0)) = false := by
        unfold PJob.cov; exact decide_eq_false (fun q => hc (hr.2 q))
      rw [hcov, hP.used.off k hc]
      simpa using hu
  · have hr := range_iff h.sorted h1 h2 hm hm2 hk
    have hu := g2 k hk
    have hg := hP.urgent
    rw [unitsAt_snoc]
    cases urg
    · have hg' : gs' = insF f2 i2 (insF f1 i1 gs) := hg
      rw [hg']
      simpa using hu
    · have hg' : Upd u i1 m (insF f2 i2 (insF f1 i1 gs)) gs' := hg
      by_cases hc : i1 ≤ k ∧ k < m
      · have hcov : (PJob.cov ⟨s, d, u, true⟩ ((insT f2 i2 (s + d) (insT f1 i1 s ts)).getD k 0)) = true := by
          unfold PJob.cov; exact decide_eq_true (hr.1 hc)
        rw [hcov]
        exact hu.snoc (hg'.on k hc.1 hc.2)
      · have hcov : (PJob.cov ⟨s, d, u, true⟩ ((insT f2 i2 (s + d) (insT f1 i1 s ts)).getD k 0)) = false := by
          unfold PJob.cov; exact decide_eq_false (fun q => hc (hr.2 q))
        rw [hcov, hg'.off k hc]
        simpa using hu
  · unfold reach
    rw [List.foldl_append]
    have := h.r
    unfold reach at this
    rw [← this]
    rfl

theorem sorted_ext {a b : List Int} (ha : Sorted a) (hb : Sorted b) (h : ∀ x, x ∈ a ↔ x ∈ b) : a = b := by
  have pa : a.Pairwise (· < ·) := by
    rw [List.pairwise_iff_getElem]
    intro i j hi hj hij
    have := ha i j hij hj
    simpa [hi, hj] using this
  have pb : b.Pairwise (· < ·) := by
    rw [List.pairwise_iff_getElem]
    intro i j hi hj hij
    have := hb i j hij hj
    simpa [hi, hj] using this
  exact List.Perm.eq_of_pairwise (le := (· < ·)) (fun x y _ _ h1 h2 => by omega) pa pb (by
    rw [List.perm_ext_iff_of_nodup]
    · exact h
    · exact pa.imp fun h1 e => by omega
    · exact pb.imp fun h1 e => by omega)
end Go.Proofs.Qxb6604397a
