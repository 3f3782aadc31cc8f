/-
  Seat b6604397a. What split (44) leaves; the three insertions on a schedule in memory.
-/
import Derived.Test.Qxb6604397aScA
import Derived.Deep.RegionHeld3
namespace Go.Proofs.Qxb6604397a
open Go.RowKit

def Sorted (ts : List Int) : Prop := ∀ i j, i < j → j < ts.length → ts.getD i 0 < ts.getD j 0

theorem bsAny {w : World} {tv : Value} {ts : List Int} (h : w.ownsRow 0 40 3 tv ts.length (tRow ts)) (hs : Sorted ts) (hn : ts.length ≤ 1000000) (t : Int) :
    Calls Try.prog 46 #[tv, .agg (tm t), .func (.func 47) #[] #[]] w fun e w' => BsPost ts ts.length t e ∧ Below w.heap.size w w' := by
  rcases h.2 with ⟨rfl, h0⟩ | ⟨g, cap, cur, rfl, hg, hh, hnc, hcm, hcs, htk⟩
  · have : ts = [] := List.eq_nil_of_length_eq_zero h0
    subst this
    exact bs46_zero none 0 t w
  · rcases Nat.eq_zero_or_pos ts.length with h0 | hp
    · have : ts = [] := List.eq_nil_of_length_eq_zero h0
      subst this
      exact bs46_zero _ cap t w
    · exact bs46 g 0 ts.length cap ts t w hn hp (rowT_of_owns h rfl) (fun i j h1 h2 => Int.le_of_lt (hs i j h1 h2))

def insT (f : Bool) (i : Nat) (t : Int) (ts : List Int) : List Int := if f then ts else ts.take i ++ t :: ts.drop i
def prevF (i : Nat) (us : List Nat) : Nat := if i = 0 then 0 else us.getD (i - 1) 0
def insF (f : Bool) (i : Nat) (us : List Nat) : List Nat := if f then us else us.take i ++ prevF i us :: us.drop i

/-- What split leaves behind. -/
def SplitPost (sb : Nat) (tv uv gv : Value) (ts : List Int) (us gs : List Nat) (pk : Nat) (rc : Int) (t : Int) (w : World) (e : Ending) (w' : World) : Prop :=
  ∃ (i : Nat) (f : Bool) (tv' uv' gv' : Value), e = .returned (.int .i64 i) ∧ Found ts ts.length t i f ∧ Sched w' sb tv' uv' gv' (insT f i t ts) (insF f i us) (insF f i gs) pk rc ∧
    (∀ k, Own sb tv' uv' gv' k → Own sb tv uv gv k ∨ w.heap.size ≤ k) ∧ Keep (Own sb tv uv gv) w w'

theorem Sched.cell {w : World} {sb : Nat} {tv uv gv : Value} {ts : List Int} {us gs : List Nat} {pk : Nat} {rc : Int} (h : Sched w sb tv uv gv ts us gs pk rc) (j : Nat) : w.cell? ⟨sb, j, none⟩ = (scells tv uv gv pk rc)[j]? :=
  cell_of_row w _ _ _ _ _ h.row

/-- A stage of a call that works on one schedule: the schedule as it stands, and what has been kept since w. -/
structure Stg (w : World) (own0 : Nat → Prop) (sb : Nat) (tv uv gv : Value) (ts : List Int) (us gs : List Nat) (pk : Nat) (rc : Int) (W : World) : Prop where
  s : Sched W sb tv uv gv ts us gs pk rc
  o : ∀ k, Own sb tv uv gv k → own0 k ∨ w.heap.size ≤ k
  k : Keep own0 w W

section
variable {w W : World} {own0 : Nat → Prop} {sb : Nat} {tv uv gv : Value} {ts : List Int} {us gs : List Nat} {pk : Nat} {rc : Int}

theorem Stg.start (h : Sched w sb tv uv gv ts us gs pk rc) : Stg w (Own sb tv uv gv) sb tv uv gv ts us gs pk rc w := ⟨h, fun _ hk => .inl hk, Keep.refl _ _⟩

theorem Stg.below {W' : World} (h : Stg w own0 sb tv uv gv ts us gs pk rc W) (hb : Below W.heap.size W W') : Stg w own0 sb tv uv gv ts us gs pk rc W' :=
  ⟨h.s.below hb (Nat.le_refl _), h.o, h.k.trans (Keep.of_below (own := own0) hb) fun _ q => .inl q⟩

theorem Stg.drew (h : Stg w own0 sb tv uv gv ts us gs pk rc W) : Stg w own0 sb tv uv gv ts us gs pk rc W.drew := h.below (Below.refl _ _).drew
theorem Stg.alloc (h : Stg w own0 sb tv uv gv ts us gs pk rc W) (o : Obj) : Stg w own0 sb tv uv gv ts us gs pk rc (W.alloc o) := h.below ((Below.refl _ _).alloc (Nat.le_refl _) _)

theorem frozen_sched (h : Sched W sb tv uv gv ts us gs pk rc) (j : Nat) : W.frozen? ⟨sb, j, none⟩ = false := frozen_of_row W _ _ _ _ h.row

theorem own_some {w : World} {e : TypeId} {size : Nat} {v : Value} {n : Nat} {xs : List Value} (h : w.ownsRow 0 e size v (n + 1) xs) : ∃ g cap, v = .slice (some ⟨g, 0, none⟩) (n + 1) cap := by
  rcases h.2 with ⟨_, h0⟩ | ⟨g, cap, cur, rfl, _⟩
  · omega
  · exact ⟨g, cap, rfl⟩

/-- What the insertion of a time leaves, as the walk takes it. -/
def InsT (w : World) (own0 : Nat → Prop) (sb : Nat) (tv uv gv : Value) (ts' : List Int) (us gs : List Nat) (pk : Nat) (rc : Int) (m : Nat) (e : Ending) (w2 : World) : Prop :=
  ∃ g' cap', e = .returned (.slice (some ⟨g', 0, none⟩) m cap') ∧ Stg w own0 sb (.slice (some ⟨g', 0, none⟩) m cap') uv gv ts' us gs pk rc (w2.setCell ⟨sb, 1, none⟩ (.slice (some ⟨g', 0, none⟩) m cap')) ∧
    w2.cell? ⟨sb, 1, none⟩ = some tv ∧ w2.cell? ⟨sb, 2, none⟩ = some uv ∧ w2.cell? ⟨sb, 3, none⟩ = some gv ∧ ∀ j, w2.frozen? ⟨sb, j, none⟩ = false

theorem insStageT (h : Stg w own0 sb tv uv gv ts us gs pk rc W) (hn : ts.length ≤ 1000000) (i : Nat) (hi : i ≤ ts.length) (t : Int) (a b c : Value) (hl : tmL t = [a, b, c]) (bk : Nat) (hb : bk = W.heap.size) :
    Calls Try.prog 48 #[tv, .int .i64 i, .slice (some ⟨bk, 0, none⟩) 1 1] (W.alloc (.cells #[a, b, c] 40)) fun e w2 => InsT w own0 sb tv uv gv (ts.take i ++ t :: ts.drop i) us gs pk rc (ts.length + 1) e w2 := by
  subst hb
  have h2 := h.alloc (.cells #[a, b, c] 40)
  have h1 : ∀ u ∈ tmL t, u.oneCell' = true := fun u hu => tRow_one [t] u (by rw [tRow_cons]; exact List.mem_append_left _ hu)
  refine (ins48 0 ts.length i W.heap.size tv (tRow ts) (tmL t) #[a, b, c] (W.alloc (.cells #[a, b, c] 40)) hn hi h2.s.t (Nat.zero_le _) (fun e => by have := (h.s.t.lt _ e).2; omega) (heap_alloc_new W _) (by rw [hl]) rfl h1 (tRow_one ts)).mono ?_
  rintro e w2 ⟨v', rfl, ho, hg, ha⟩
  rw [tRow_ins ts t i hi] at ho
  have hlen : (ts.take i ++ t :: ts.drop i).length = ts.length + 1 := by simp; omega
  rw [← hlen] at ho
  obtain ⟨q1, q2, q3⟩ := h2.s.stepT ho hg ha
  rw [hlen] at ho
  obtain ⟨g', cap', rfl⟩ := own_some ho
  have hrow : w2.heap[sb]? = some (.cells (scells tv uv gv pk rc) 67 (0, 0)) := (hg.block sb (h2.s.lt (.inl rfl)) (fun e => owns_ne_row h2.s.t h2.s.row (by decide) e.symm)).trans h2.s.row
  refine ⟨g', cap', rfl, ⟨q1, fun k hk => ?_, h2.k.trans q3 h2.o⟩, cell_of_row w2 _ 1 _ _ _ hrow, cell_of_row w2 _ 2 _ _ _ hrow, cell_of_row w2 _ 3 _ _ _ hrow, fun j => frozen_of_row w2 _ _ _ _ hrow⟩
  rcases q2 k hk with q | q
  · exact h2.o k q
  · exact .inr (Nat.le_trans h2.k.size q)

def InsU (w : World) (own0 : Nat → Prop) (sb : Nat) (tv uv gv : Value) (ts : List Int) (us' gs : List Nat) (pk : Nat) (rc : Int) (m : Nat) (e : Ending) (w2 : World) : Prop :=
  ∃ g' cap', e = .returned (.slice (some ⟨g', 0, none⟩) m cap') ∧ Stg w own0 sb tv (.slice (some ⟨g', 0, none⟩) m cap') gv ts us' gs pk rc (w2.setCell ⟨sb, 2, none⟩ (.slice (some ⟨g', 0, none⟩) m cap')) ∧
    w2.cell? ⟨sb, 2, none⟩ = some uv ∧ w2.cell? ⟨sb, 3, none⟩ = some gv ∧ ∀ j, w2.frozen? ⟨sb, j, none⟩ = false

theorem insStageU (h : Stg w own0 sb tv uv gv ts us gs pk rc W) (hn : us.length ≤ 1000000) (i : Nat) (hi : i ≤ us.length) (x : Nat) (bk : Nat) (hb : bk = W.heap.size) :
    Calls Try.prog 49 #[uv, .int .i64 i, .slice (some ⟨bk, 0, none⟩) 1 1] (W.alloc (.cells #[.float .f64 x] 22)) fun e w2 => InsU w own0 sb tv uv gv ts (us.take i ++ x :: us.drop i) gs pk rc (us.length + 1) e w2 := by
  subst hb
  have h2 := h.alloc (.cells #[.float .f64 x] 22)
  refine (ins49 0 us.length i W.heap.size uv (fRow us) [.float .f64 x] #[.float .f64 x] (W.alloc (.cells #[.float .f64 x] 22)) hn hi h2.s.u (Nat.zero_le _) (fun e => by have := (h.s.u.lt _ e).2; omega) (heap_alloc_new W _) rfl rfl (fRow_one [x]) (fRow_one us)).mono ?_
  rintro e w2 ⟨v', rfl, ho, hg, ha⟩
  rw [fRow_ins us x i] at ho
  have hlen : (us.take i ++ x :: us.drop i).length = us.length + 1 := by simp; omega
  rw [← hlen] at ho
  obtain ⟨q1, q2, q3⟩ := h2.s.stepU ho hg ha
  rw [hlen] at ho
  obtain ⟨g', cap', rfl⟩ := own_some ho
  have hrow : w2.heap[sb]? = some (.cells (scells tv uv gv pk rc) 67 (0, 0)) := (hg.block sb (h2.s.lt (.inl rfl)) (fun e => owns_ne_row h2.s.u h2.s.row (by decide) e.symm)).trans h2.s.row
  refine ⟨g', cap', rfl, ⟨q1, fun k hk => ?_, h2.k.trans q3 h2.o⟩, cell_of_row w2 _ 2 _ _ _ hrow, cell_of_row w2 _ 3 _ _ _ hrow, fun j => frozen_of_row w2 _ _ _ _ hrow⟩
  rcases q2 k hk with q | q
  · exact h2.o k q
  · exact .inr (Nat.le_trans h2.k.size q)

def InsG (w : World) (own0 : Nat → Prop) (sb : Nat) (tv uv gv : Value) (ts : List Int) (us gs' : List Nat) (pk : Nat) (rc : Int) (m : Nat) (e : Ending) (w2 : World) : Prop :=
  ∃ g' cap', e = .returned (.slice (some ⟨g', 0, none⟩) m cap') ∧ Stg w own0 sb tv uv (.slice (some ⟨g', 0, none⟩) m cap') ts us gs' pk rc (w2.setCell ⟨sb, 3, none⟩ (.slice (some ⟨g', 0, none⟩) m cap')) ∧
    w2.cell? ⟨sb, 3, none⟩ = some gv ∧ ∀ j, w2.frozen? ⟨sb, j, none⟩ = false

theorem insStageG (h : Stg w own0 sb tv uv gv ts us gs pk rc W) (hn : gs.length ≤ 1000000) (i : Nat) (hi : i ≤ gs.length) (x : Nat) (bk : Nat) (hb : bk = W.heap.size) :
    Calls Try.prog 49 #[gv, .int .i64 i, .slice (some ⟨bk, 0, none⟩) 1 1] (W.alloc (.cells #[.float .f64 x] 22)) fun e w2 => InsG w own0 sb tv uv gv ts us (gs.take i ++ x :: gs.drop i) pk rc (gs.length + 1) e w2 := by
  subst hb
  have h2 := h.alloc (.cells #[.float .f64 x] 22)
  refine (ins49 0 gs.length i W.heap.size gv (fRow gs) [.float .f64 x] #[.float .f64 x] (W.alloc (.cells #[.float .f64 x] 22)) hn hi h2.s.g (Nat.zero_le _) (fun e => by have := (h.s.g.lt _ e).2; omega) (heap_alloc_new W _) rfl rfl (fRow_one [x]) (fRow_one gs)).mono ?_
  rintro e w2 ⟨v', rfl, ho, hg, ha⟩
  rw [fRow_ins gs x i] at ho
  have hlen : (gs.take i ++ x :: gs.drop i).length = gs.length + 1 := by simp; omega
  rw [← hlen] at ho
  obtain ⟨q1, q2, q3⟩ := h2.s.stepG ho hg ha
  rw [hlen] at ho
  obtain ⟨g', cap', rfl⟩ := own_some ho
  have hrow : w2.heap[sb]? = some (.cells (scells tv uv gv pk rc) 67 (0, 0)) := (hg.block sb (h2.s.lt (.inl rfl)) (fun e => owns_ne_row h2.s.g h2.s.row (by decide) e.symm)).trans h2.s.row
  refine ⟨g', cap', rfl, ⟨q1, fun k hk => ?_, h2.k.trans q3 h2.o⟩, cell_of_row w2 _ 3 _ _ _ hrow, fun j => frozen_of_row w2 _ _ _ _ hrow⟩
  rcases q2 k hk with q | q
  · exact h2.o k q
  · exact .inr (Nat.le_trans h2.k.size q)
end
end Go.Proofs.Qxb6604397a
