/-
  Seat b6604397a. The search at an empty row; the schedule in memory.
-/
import Derived.Test.Qxb6604397aInD
import Derived.Test.Qxb6604397aBsA
namespace Go.Proofs.Qxb6604397a
open Go.RowKit

set_option maxRecDepth 100000 in
theorem bs46_zero (p : Option Addr) (cap : Nat) (t : Int) (w : World) :
    Calls Try.prog 46 #[.slice p 0 cap, .agg (tm t), .func (.func 47) #[] #[]] w fun e w' => BsPost [] 0 t e ∧ Below w.heap.size w w' := by
  obtain ⟨tn, htn⟩ : ∃ z, z = t % 1000000000 := ⟨_, rfl⟩
  obtain ⟨tsec, hts⟩ : ∃ z, z = t / 1000000000 := ⟨_, rfl⟩
  have e1 : tm t = #[.int .u64 tn, .int .i64 tsec, .pointer none] := by rw [tm_cells, htn, hts]
  rw [e1]
  clear e1 htn hts
  have HF := hid (show Found [] 0 t 0 false from ⟨Nat.le_refl _, (fun k hk => by omega), (fun k _ hk => by omega), by simp⟩)
  go_enter Try.func46, Try.ntmps46
  go_wp2
  go_loopw [9, 10] (fun x y wr => x = .int .i64 0 ∧ y = .int .i64 0 ∧ wr = w.alloc (.cells #[.int .u64 tn, .int .i64 tsec, .pointer none] 40))
    (fun _ _ _ => 0)
  case atStart => exact ⟨rfl, rfl, rfl⟩
  case round =>
    obtain ⟨rfl, rfl, rfl⟩ := hrel
    go_wp2
    go_quiet (fail)
    go_wp2
    go_ret2
    exact ⟨⟨0, _, rfl, HF.out⟩, below_drewN ((Below.refl _ _).alloc (Nat.le_refl _) _) _⟩

/-! The rows of a schedule as lists of cells. -/

def tmL (a : Int) : List Value := [.int .u64 (a % 1000000000), .int .i64 (a / 1000000000), .pointer none]
def tRow (ts : List Int) : List Value := ts.flatMap tmL
def fRow (us : List Nat) : List Value := us.map (.float .f64)

theorem length_tRow (ts : List Int) : (tRow ts).length = ts.length * 3 := by
  induction ts with
  | nil => rfl
  | cons a r ih => simp only [tRow, List.flatMap_cons, List.length_append, List.length_cons] at ih ⊢; rw [ih]; simp [tmL]; omega

theorem length_fRow (us : List Nat) : (fRow us).length = us.length := by simp [fRow]

theorem tRow_cons (a : Int) (r : List Int) : tRow (a :: r) = tmL a ++ tRow r := by simp [tRow]
theorem tRow_append (a b : List Int) : tRow (a ++ b) = tRow a ++ tRow b := by simp [tRow]

theorem tRow_ins (ts : List Int) (t : Int) (i : Nat) (hi : i ≤ ts.length) : (tRow ts).take (i * 3) ++ (tmL t ++ (tRow ts).drop (i * 3)) = tRow (ts.take i ++ t :: ts.drop i) := by
  have h1 : (tRow (ts.take i)).length = i * 3 := by rw [length_tRow, List.length_take, Nat.min_eq_left hi]
  have h2 : tRow ts = tRow (ts.take i) ++ tRow (ts.drop i) := by rw [← tRow_append, List.take_append_drop]
  rw [h2, List.take_left' h1, List.drop_left' h1, tRow_append, tRow_cons]

theorem fRow_ins (us : List Nat) (u : Nat) (i : Nat) : (fRow us).take i ++ ([Value.float .f64 u] ++ (fRow us).drop i) = fRow (us.take i ++ u :: us.drop i) := by
  simp [fRow]

theorem tRow_at (ts : List Int) (j q : Nat) (hj : j < ts.length) (hq : q < 3) : (tRow ts)[j * 3 + q]? = (tmL (ts.getD j 0))[q]? := by
  induction ts generalizing j with
  | nil => simp at hj
  | cons a r ih =>
    rw [tRow_cons]
    have hl : (tmL a).length = 3 := rfl
    cases j with
    | zero =>
      rw [List.getElem?_append_left (by rw [hl]; omega)]
      simp
    | succ j =>
      rw [List.getElem?_append_right (by rw [hl]; omega), hl, show (j + 1) * 3 + q - 3 = j * 3 + q by omega, ih j (by simpa using hj)]
      simp

theorem tRow_one (ts : List Int) : ∀ u ∈ tRow ts, u.oneCell' = true := by
  intro u hu
  obtain ⟨a, _, ha⟩ := List.mem_flatMap.1 hu
  simp only [tmL, List.mem_cons, List.not_mem_nil, or_false] at ha
  rcases ha with rfl | rfl | rfl <;> rfl

theorem fRow_one (us : List Nat) : ∀ u ∈ fRow us, u.oneCell' = true := by
  intro u hu
  obtain ⟨a, _, rfl⟩ := List.mem_map.1 hu
  rfl

/-- An owned row of times is a row of times for the search. -/
theorem rowT_of_owns {w : World} {g n cap : Nat} {ts : List Int} (h : w.ownsRow 0 40 3 (.slice (some ⟨g, 0, none⟩) n cap) n (tRow ts)) (hl : ts.length = n) : RowT w g 0 n ts := by
  have hlt : g < w.heap.size := (h.lt g rfl).2
  refine ⟨hlt, fun j hj => ?_⟩
  rw [Nat.zero_add]
  refine ⟨?_, ?_, ?_⟩
  · rw [h.cellAt _ (by omega)]; exact tRow_at ts j 0 (by omega) (by omega)
  · rw [h.cellAt _ (by omega)]; exact tRow_at ts j 1 (by omega) (by omega)
  · rw [h.cellAt _ (by omega)]; exact tRow_at ts j 2 (by omega) (by omega)

/-- The fourteen cells of a schedule whose clock stands at the zero time and that has forgotten nothing. -/
def scells (tv uv gv : Value) (pk : Nat) (rc : Int) : Array Value :=
  #[.float .f64 0, tv, uv, gv, .float .f64 0, .float .f64 pk, .int .i64 rc, .pointer none, .int .u64 0, .int .i64 0, .pointer none, .int .u64 0, .int .i64 0, .pointer none]

structure Sched (w : World) (sb : Nat) (tv uv gv : Value) (ts : List Int) (us gs : List Nat) (pk : Nat) (rc : Int) : Prop where
  row : w.heap[sb]? = some (.cells (scells tv uv gv pk rc) 67 (0, 0))
  t : w.ownsRow 0 40 3 tv ts.length (tRow ts)
  u : w.ownsRow 0 22 1 uv us.length (fRow us)
  g : w.ownsRow 0 22 1 gv gs.length (fRow gs)
  apart : ∀ k, uv.ownBlock = some k → gv.ownBlock = some k → False

/-- The blocks that are a schedule's own. -/
def Own (sb : Nat) (tv uv gv : Value) (k : Nat) : Prop := k = sb ∨ tv.ownBlock = some k ∨ uv.ownBlock = some k ∨ gv.ownBlock = some k

/-- Where every block of its own is as it was, a schedule is as it was. -/
theorem owns_of_block {w w' : World} {base : Nat} {e : TypeId} {size : Nat} {v : Value} {n : Nat} {xs : List Value} (h : w.ownsRow base e size v n xs) (hb : ∀ k, v.ownBlock = some k → w'.heap[k]? = w.heap[k]?) : w'.ownsRow base e size v n xs := by
  refine ⟨h.1, ?_⟩
  rcases h.2 with h0 | ⟨g, cap, cur, rfl, hg, hh, r⟩
  · exact .inl h0
  · exact .inr ⟨g, cap, cur, rfl, hg, (hb g rfl).trans hh, r⟩

theorem Sched.kept {w w' : World} {sb : Nat} {tv uv gv : Value} {ts : List Int} {us gs : List Nat} {pk : Nat} {rc : Int} (h : Sched w sb tv uv gv ts us gs pk rc) (hb : ∀ k, Own sb tv uv gv k → w'.heap[k]? = w.heap[k]?) : Sched w' sb tv uv gv ts us gs pk rc :=
  ⟨(hb sb (.inl rfl)).trans h.row, owns_of_block h.t fun k hk => hb k (.inr (.inl hk)), owns_of_block h.u fun k hk => hb k (.inr (.inr (.inl hk))), owns_of_block h.g fun k hk => hb k (.inr (.inr (.inr hk))), h.apart⟩

theorem Sched.lt {w : World} {sb : Nat} {tv uv gv : Value} {ts : List Int} {us gs : List Nat} {pk : Nat} {rc : Int} (h : Sched w sb tv uv gv ts us gs pk rc) {k : Nat} (hk : Own sb tv uv gv k) : k < w.heap.size := by
  rcases hk with rfl | hk | hk | hk
  · exact (Array.getElem?_eq_some_iff.1 h.row).1
  · exact (h.t.lt k hk).2
  · exact (h.u.lt k hk).2
  · exact (h.g.lt k hk).2

theorem Sched.below {w w' : World} {B sb : Nat} {tv uv gv : Value} {ts : List Int} {us gs : List Nat} {pk : Nat} {rc : Int} (h : Sched w sb tv uv gv ts us gs pk rc) (hb : Below B w w') (hB : w.heap.size ≤ B) : Sched w' sb tv uv gv ts us gs pk rc :=
  h.kept fun k hk => hb.block k (Nat.lt_of_lt_of_le (h.lt hk) hB)

theorem owns_type {w : World} {base : Nat} {e : TypeId} {size : Nat} {v : Value} {n : Nat} {xs : List Value} (h : w.ownsRow base e size v n xs) {k : Nat} (hk : v.ownBlock = some k) : ∃ cur, w.heap[k]? = some (.cells cur e (0, 0)) := by
  rcases h.2 with ⟨rfl, _⟩ | ⟨g, cap, cur, rfl, hg, hh, r⟩
  · cases hk
  · obtain rfl : g = k := Option.some.inj hk
    exact ⟨cur, hh⟩

/-- Two owned rows of different types lie in different blocks. -/
theorem owns_ne {w : World} {b1 b2 : Nat} {e1 e2 : TypeId} {s1 s2 : Nat} {v1 v2 : Value} {n1 n2 : Nat} {x1 x2 : List Value} (h1 : w.ownsRow b1 e1 s1 v1 n1 x1) (h2 : w.ownsRow b2 e2 s2 v2 n2 x2) (he : e1 ≠ e2) {k : Nat} (k1 : v1.ownBlock = some k) (k2 : v2.ownBlock = some k) : False := by
  obtain ⟨c1, q1⟩ := owns_type h1 k1
  obtain ⟨c2, q2⟩ := owns_type h2 k2
  rw [q1] at q2
  injection q2 with q2
  injection q2 with _ q2
  exact he q2

theorem owns_ne_row {w : World} {b1 : Nat} {e1 e2 : TypeId} {s1 : Nat} {v1 : Value} {n1 : Nat} {x1 : List Value} {cs : Array Value} {f : Nat × Nat} {k : Nat} (h1 : w.ownsRow b1 e1 s1 v1 n1 x1) (hk : w.heap[k]? = some (.cells cs e2 f)) (he : e1 ≠ e2) (k1 : v1.ownBlock = some k) : False := by
  obtain ⟨c1, q1⟩ := owns_type h1 k1
  rw [q1] at hk
  injection hk with q2
  injection q2 with _ q2
  exact he q2

/-- What lies outside of a schedule's own blocks is as it was. -/
structure Keep (own : Nat → Prop) (w w' : World) : Prop where
  os : w'.os = w.os
  tape : w'.tape = w.tape
  output : w'.output = w.output
  size : w.heap.size ≤ w'.heap.size
  block : ∀ k, k < w.heap.size → ¬ own k → w'.heap[k]? = w.heap[k]?

theorem Keep.refl (own : Nat → Prop) (w : World) : Keep own w w := ⟨rfl, rfl, rfl, Nat.le_refl _, fun _ _ _ => rfl⟩

theorem Keep.trans {o1 o2 : Nat → Prop} {a b c : World} (h1 : Keep o1 a b) (h2 : Keep o2 b c) (ho : ∀ k, o2 k → o1 k ∨ a.heap.size ≤ k) : Keep o1 a c :=
  ⟨h2.os.trans h1.os, h2.tape.trans h1.tape, h2.output.trans h1.output, Nat.le_trans h1.size h2.size, fun k hk hn =>
    (h2.block k (Nat.lt_of_lt_of_le hk h1.size) (fun h => by rcases ho k h with h | h; exact hn h; omega)).trans (h1.block k hk hn)⟩

theorem Keep.of_below {own : Nat → Prop} {w w' : World} (h : Below w.heap.size w w') : Keep own w w' := ⟨h.os, h.tape, h.output, h.size, fun k hk _ => h.block k hk⟩

theorem Keep.of_grown {own : Nat → Prop} {w w' : World} {row : Option Nat} (h : w.grownBy w' row) (hr : ∀ k, row = some k → own k) : Keep own w w' :=
  ⟨h.os, h.tape, h.output, h.size, fun k hk hn => h.block k hk (fun e => hn (hr k e.symm))⟩

theorem heap_setCell_row (w : World) (g i : Nat) (cur : Array Value) (t : TypeId) (fr : Nat × Nat) (v : Value) (hg : w.heap[g]? = some (.cells cur t fr)) : (w.setCell ⟨g, i, none⟩ v).heap[g]? = some (.cells (cur.setIfInBounds i v) t fr) := by
  rw [setCell_eq_setRow w g i cur t fr v hg]
  exact setRow_heap w g cur _ t fr hg

theorem heap_setCell_off (w : World) (g i k : Nat) (cur : Array Value) (t : TypeId) (fr : Nat × Nat) (v : Value) (hg : w.heap[g]? = some (.cells cur t fr)) (hk : k ≠ g) : (w.setCell ⟨g, i, none⟩ v).heap[k]? = w.heap[k]? := by
  rw [setCell_eq_setRow w g i cur t fr v hg]
  exact setRow_other w g k _ hk

theorem Keep.setCell {own : Nat → Prop} {a w : World} (h : Keep own a w) {g i : Nat} {cur : Array Value} {t : TypeId} {fr : Nat × Nat} (hg : w.heap[g]? = some (.cells cur t fr)) (hn : own g ∨ a.heap.size ≤ g) (v : Value) : Keep own a (w.setCell ⟨g, i, none⟩ v) := by
  rw [setCell_eq_setRow w g i cur t fr v hg]
  exact ⟨h.os, h.tape, h.output, by rw [setRow_size]; exact h.size, fun k hk hne => (setRow_other w g k _ (fun e => by subst e; rcases hn with q | q; exact hne q; omega)).trans (h.block k hk hne)⟩

section
variable {w w2 : World} {sb : Nat} {tv uv gv v' : Value} {ts ts' : List Int} {us us' gs gs' : List Nat} {pk : Nat} {rc : Int}

theorem Sched.stepT (h : Sched w sb tv uv gv ts us gs pk rc) (ho : w2.ownsRow 0 40 3 v' ts'.length (tRow ts')) (hg : w.grownBy w2 tv.ownBlock) (ha : ∀ k, v'.ownBlock = some k → tv.ownBlock = some k ∨ w.heap.size ≤ k) :
    Sched (w2.setCell ⟨sb, 1, none⟩ v') sb v' uv gv ts' us gs pk rc ∧ (∀ k, Own sb v' uv gv k → Own sb tv uv gv k ∨ w.heap.size ≤ k) ∧ Keep (Own sb tv uv gv) w (w2.setCell ⟨sb, 1, none⟩ v') := by
  have hsb : sb < w.heap.size := h.lt (.inl rfl)
  have hrow : w2.heap[sb]? = some (.cells (scells tv uv gv pk rc) 67 (0, 0)) := (hg.block sb hsb (fun e => owns_ne_row h.t h.row (by decide) e.symm)).trans h.row
  have hoff : ∀ k, k ≠ sb → (w2.setCell ⟨sb, 1, none⟩ v').heap[k]? = w2.heap[k]? := fun k hk => heap_setCell_off w2 sb 1 k _ _ _ _ hrow hk
  have hu : ∀ k, uv.ownBlock = some k → w2.heap[k]? = w.heap[k]? := fun k hk => hg.block k (h.u.lt k hk).2 (fun e => owns_ne h.t h.u (by decide) e.symm hk)
  have hgv : ∀ k, gv.ownBlock = some k → w2.heap[k]? = w.heap[k]? := fun k hk => hg.block k (h.g.lt k hk).2 (fun e => owns_ne h.t h.g (by decide) e.symm hk)
  refine ⟨⟨heap_setCell_row w2 sb 1 _ 67 _ v' hrow, owns_of_block ho fun k hk => hoff k (fun e => by subst e; exact owns_ne_row ho hrow (by decide) hk), owns_of_block h.u fun k hk => (hoff k (fun e => by subst e; exact owns_ne_row h.u h.row (by decide) hk)).trans (hu k hk),
    owns_of_block h.g fun k hk => (hoff k (fun e => by subst e; exact owns_ne_row h.g h.row (by decide) hk)).trans (hgv k hk), h.apart⟩, ?_, ?_⟩
  · rintro k (rfl | hk | hk | hk)
    · exact .inl (.inl rfl)
    · exact (ha k hk).imp (fun q => .inr (.inl q)) id
    · exact .inl (.inr (.inr (.inl hk)))
    · exact .inl (.inr (.inr (.inr hk)))
  · exact (Keep.of_grown hg fun k hk => .inr (.inl hk)).setCell hrow (.inl (.inl rfl)) v'

theorem Sched.stepU (h : Sched w sb tv uv gv ts us gs pk rc) (ho : w2.ownsRow 0 22 1 v' us'.length (fRow us')) (hg : w.grownBy w2 uv.ownBlock) (ha : ∀ k, v'.ownBlock = some k → uv.ownBlock = some k ∨ w.heap.size ≤ k) :
    Sched (w2.setCell ⟨sb, 2, none⟩ v') sb tv v' gv ts us' gs pk rc ∧ (∀ k, Own sb tv v' gv k → Own sb tv uv gv k ∨ w.heap.size ≤ k) ∧ Keep (Own sb tv uv gv) w (w2.setCell ⟨sb, 2, none⟩ v') := by
  have hsb : sb < w.heap.size := h.lt (.inl rfl)
  have hrow : w2.heap[sb]? = some (.cells (scells tv uv gv pk rc) 67 (0, 0)) := (hg.block sb hsb (fun e => owns_ne_row h.u h.row (by decide) e.symm)).trans h.row
  have hoff : ∀ k, k ≠ sb → (w2.setCell ⟨sb, 2, none⟩ v').heap[k]? = w2.heap[k]? := fun k hk => heap_setCell_off w2 sb 2 k _ _ _ _ hrow hk
  have ht : ∀ k, tv.ownBlock = some k → w2.heap[k]? = w.heap[k]? := fun k hk => hg.block k (h.t.lt k hk).2 (fun e => owns_ne h.t h.u (by decide) hk e.symm)
  have hgv : ∀ k, gv.ownBlock = some k → w2.heap[k]? = w.heap[k]? := fun k hk => hg.block k (h.g.lt k hk).2 (fun e => h.apart k e.symm hk)
  refine ⟨⟨heap_setCell_row w2 sb 2 _ 67 _ v' hrow, owns_of_block h.t fun k hk => (hoff k (fun e => by subst e; exact owns_ne_row h.t h.row (by decide) hk)).trans (ht k hk), owns_of_block ho fun k hk => hoff k (fun e => by subst e; exact owns_ne_row ho hrow (by decide) hk),
    owns_of_block h.g fun k hk => (hoff k (fun e => by subst e; exact owns_ne_row h.g h.row (by decide) hk)).trans (hgv k hk), fun k h1 h2 => ?_⟩, ?_, ?_⟩
  · rcases ha k h1 with q | q
    · exact h.apart k q h2
    · have := (h.g.lt k h2).2; omega
  · rintro k (rfl | hk | hk | hk)
    · exact .inl (.inl rfl)
    · exact .inl (.inr (.inl hk))
    · exact (ha k hk).imp (fun q => .inr (.inr (.inl q))) id
    · exact .inl (.inr (.inr (.inr hk)))
  · exact (Keep.of_grown hg fun k hk => .inr (.inr (.inl hk))).setCell hrow (.inl (.inl rfl)) v'

theorem Sched.stepG (h : Sched w sb tv uv gv ts us gs pk rc) (ho : w2.ownsRow 0 22 1 v' gs'.length (fRow gs')) (hg : w.grownBy w2 gv.ownBlock) (ha : ∀ k, v'.ownBlock = some k → gv.ownBlock = some k ∨ w.heap.size ≤ k) :
    Sched (w2.setCell ⟨sb, 3, none⟩ v') sb tv uv v' ts us gs' pk rc ∧ (∀ k, Own sb tv uv v' k → Own sb tv uv gv k ∨ w.heap.size ≤ k) ∧ Keep (Own sb tv uv gv) w (w2.setCell ⟨sb, 3, none⟩ v') := by
  have hsb : sb < w.heap.size := h.lt (.inl rfl)
  have hrow : w2.heap[sb]? = some (.cells (scells tv uv gv pk rc) 67 (0, 0)) := (hg.block sb hsb (fun e => owns_ne_row h.g h.row (by decide) e.symm)).trans h.row
  have hoff : ∀ k, k ≠ sb → (w2.setCell ⟨sb, 3, none⟩ v').heap[k]? = w2.heap[k]? := fun k hk => heap_setCell_off w2 sb 3 k _ _ _ _ hrow hk
  have ht : ∀ k, tv.ownBlock = some k → w2.heap[k]? = w.heap[k]? := fun k hk => hg.block k (h.t.lt k hk).2 (fun e => owns_ne h.t h.g (by decide) hk e.symm)
  have hu : ∀ k, uv.ownBlock = some k → w2.heap[k]? = w.heap[k]? := fun k hk => hg.block k (h.u.lt k hk).2 (fun e => h.apart k hk e.symm)
  refine ⟨⟨heap_setCell_row w2 sb 3 _ 67 _ v' hrow, owns_of_block h.t fun k hk => (hoff k (fun e => by subst e; exact owns_ne_row h.t h.row (by decide) hk)).trans (ht k hk),
    owns_of_block h.u fun k hk => (hoff k (fun e => by subst e; exact owns_ne_row h.u h.row (by decide) hk)).trans (hu k hk), owns_of_block ho fun k hk => hoff k (fun e => by subst e; exact owns_ne_row ho hrow (by decide) hk), fun k h1 h2 => ?_⟩, ?_, ?_⟩
  · rcases ha k h2 with q | q
    · exact h.apart k h1 q
    · have := (h.u.lt k h1).2; omega
  · rintro k (rfl | hk | hk | hk)
    · exact .inl (.inl rfl)
    · exact .inl (.inr (.inl hk))
    · exact .inl (.inr (.inr (.inl hk)))
    · exact (ha k hk).imp (fun q => .inr (.inr (.inr q))) id
  · exact (Keep.of_grown hg fun k hk => .inr (.inr (.inr hk))).setCell hrow (.inl (.inl rfl)) v'
end
end Go.Proofs.Qxb6604397a
