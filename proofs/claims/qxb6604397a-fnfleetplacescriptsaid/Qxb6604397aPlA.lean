/-
  Seat b6604397a. One cell of a schedule is set; the loop of place in plain terms.
-/
import Derived.Test.Qxb6604397aScB
import Derived.Test.Qxb6604397aFlA
namespace Go.Proofs.Qxb6604397a
open Go.RowKit

theorem fRow_set (us : List Nat) (j r : Nat) : (fRow us).set j (.float .f64 r) = fRow (us.set j r) := by
  simp [fRow, List.map_set]

section
variable {w W : World} {own0 : Nat → Prop} {sb : Nat} {tv uv gv : Value} {ts : List Int} {us gs : List Nat} {pk : Nat} {rc : Int}

theorem Stg.next {tv' uv' gv' : Value} {ts' : List Int} {us' gs' : List Nat} {pk' : Nat} {rc' : Int} {W' : World} (h : Stg w own0 sb tv uv gv ts us gs pk rc W) (hS : Sched W' sb tv' uv' gv' ts' us' gs' pk' rc')
    (hO : ∀ k, Own sb tv' uv' gv' k → Own sb tv uv gv k ∨ W.heap.size ≤ k) (hK : Keep (Own sb tv uv gv) W W') : Stg w own0 sb tv' uv' gv' ts' us' gs' pk' rc' W' := by
  refine ⟨hS, fun k hk => ?_, h.k.trans hK h.o⟩
  rcases hO k hk with q | q
  · exact h.o k q
  · exact .inr (Nat.le_trans h.k.size q)

theorem Stg.setU {g n cap : Nat} (h : Stg w own0 sb tv (.slice (some ⟨g, 0, none⟩) n cap) gv ts us gs pk rc W) (hn : us.length = n) (j r : Nat) :
    Stg w own0 sb tv (.slice (some ⟨g, 0, none⟩) n cap) gv ts (us.set j r) gs pk rc (W.setCell ⟨g, j, none⟩ (.float .f64 r)) := by
  subst hn
  obtain ⟨q1, q2⟩ := h.s.u.stored j (.float .f64 r)
  rw [fRow_set] at q1
  obtain ⟨cur, hcur⟩ := owns_type h.s.u (k := g) rfl
  refine ⟨⟨(q2.block sb (h.s.lt (.inl rfl)) (fun e => owns_ne_row h.s.u h.s.row (by decide) e.symm)).trans h.s.row,
    owns_of_block h.s.t fun k hk => q2.block k (h.s.t.lt k hk).2 (fun e => owns_ne h.s.t h.s.u (by decide) hk e.symm), by rw [List.length_set]; exact q1,
    owns_of_block h.s.g fun k hk => q2.block k (h.s.g.lt k hk).2 (fun e => h.s.apart k e.symm hk), h.s.apart⟩, h.o, ?_⟩
  exact h.k.setCell hcur (h.o g (.inr (.inr (.inl rfl)))) _

theorem Stg.setG {g n cap : Nat} (h : Stg w own0 sb tv uv (.slice (some ⟨g, 0, none⟩) n cap) ts us gs pk rc W) (hn : gs.length = n) (j r : Nat) :
    Stg w own0 sb tv uv (.slice (some ⟨g, 0, none⟩) n cap) ts us (gs.set j r) pk rc (W.setCell ⟨g, j, none⟩ (.float .f64 r)) := by
  subst hn
  obtain ⟨q1, q2⟩ := h.s.g.stored j (.float .f64 r)
  rw [fRow_set] at q1
  obtain ⟨cur, hcur⟩ := owns_type h.s.g (k := g) rfl
  refine ⟨⟨(q2.block sb (h.s.lt (.inl rfl)) (fun e => owns_ne_row h.s.g h.s.row (by decide) e.symm)).trans h.s.row,
    owns_of_block h.s.t fun k hk => q2.block k (h.s.t.lt k hk).2 (fun e => owns_ne h.s.t h.s.g (by decide) hk e.symm),
    owns_of_block h.s.u fun k hk => q2.block k (h.s.u.lt k hk).2 (fun e => h.s.apart k hk e.symm), by rw [List.length_set]; exact q1, h.s.apart⟩, h.o, ?_⟩
  exact h.k.setCell hcur (h.o g (.inr (.inr (.inr rfl)))) _

theorem Stg.setHead (h : Stg w own0 sb tv uv gv ts us gs pk rc W) (j : Nat) (v : Value) (pk' : Nat) (rc' : Int) (hv : (scells tv uv gv pk rc).setIfInBounds j v = scells tv uv gv pk' rc') :
    Stg w own0 sb tv uv gv ts us gs pk' rc' (W.setCell ⟨sb, j, none⟩ v) := by
  have hrow := heap_setCell_row W sb j _ 67 _ v h.s.row
  rw [hv] at hrow
  have hoff : ∀ k, k ≠ sb → (W.setCell ⟨sb, j, none⟩ v).heap[k]? = W.heap[k]? := fun k hk => heap_setCell_off W sb j k _ _ _ _ h.s.row hk
  refine ⟨⟨hrow, owns_of_block h.s.t fun k hk => hoff k (fun e => by subst e; exact owns_ne_row h.s.t h.s.row (by decide) hk),
    owns_of_block h.s.u fun k hk => hoff k (fun e => by subst e; exact owns_ne_row h.s.u h.s.row (by decide) hk),
    owns_of_block h.s.g fun k hk => hoff k (fun e => by subst e; exact owns_ne_row h.s.g h.s.row (by decide) hk), h.s.apart⟩, h.o, ?_⟩
  exact h.k.setCell h.s.row (h.o sb (.inl rfl)) _

/-- A box of a time is not touched by a store into a schedule. -/
theorem box_off {b g j : Nat} {c cur : Array Value} {t : TypeId} {fr : Nat × Nat} {v : Value} (hb : W.heap[b]? = some (.cells c 40 (0, 0))) (hg : W.heap[g]? = some (.cells cur t fr)) (ht : t ≠ 40) : (W.setCell ⟨g, j, none⟩ v).heap[b]? = some (.cells c 40 (0, 0)) := by
  rw [heap_setCell_off W g j b cur t fr v hg (fun e => ?_)]
  · exact hb
  · subst e
    rw [hb] at hg
    injection hg with hg
    injection hg with _ hg
    exact ht hg.symm

theorem Stg.setPk (h : Stg w own0 sb tv uv gv ts us gs pk rc W) (p : Nat) : Stg w own0 sb tv uv gv ts us gs p rc (W.setCell ⟨sb, 5, none⟩ (.float .f64 p)) := h.setHead 5 _ p rc rfl
theorem Stg.setRc (h : Stg w own0 sb tv uv gv ts us gs pk rc W) (r : Int) : Stg w own0 sb tv uv gv ts us gs pk r (W.setCell ⟨sb, 6, none⟩ (.int .i64 r)) := h.setHead 6 _ pk r rfl
end

theorem rowcell {W : World} {g n cap : Nat} {us : List Nat} (h : W.ownsRow 0 22 1 (.slice (some ⟨g, 0, none⟩) n cap) us.length (fRow us)) (hn : us.length = n) {j : Nat} (hj : j < n) : W.cell? ⟨g, j, none⟩ = some (.float .f64 (us.getD j 0)) ∧ W.frozen? ⟨g, j, none⟩ = false := by
  rw [hn] at h
  refine ⟨?_, h.frozenAt j⟩
  rw [h.cellAt j (by omega)]
  simp [fRow, show j < us.length by omega]

theorem run_store_f {P : Program} {w : World} {a : Addr} {old : Value} (r : Nat) (hc : w.cell? a = some old) (hf : w.frozen? a = false) : (store a (.float .f64 r)).run P w = .ok () (w.setCell a (.float .f64 r)) := by
  rw [run_store P w a _ _ rfl, hc]
  simp [hf]

/-- us' is us with u added on the stretches from a up to b. -/
structure Upd (u a b : Nat) (us us' : List Nat) : Prop where
  len : us'.length = us.length
  on : ∀ k, a ≤ k → k < b → FAdd (us.getD k 0) u (us'.getD k 0)
  off : ∀ k, ¬ (a ≤ k ∧ k < b) → us'.getD k 0 = us.getD k 0

theorem Upd.refl (u a : Nat) (us : List Nat) : Upd u a a us us := ⟨rfl, fun k h1 h2 => by omega, fun _ _ => rfl⟩

theorem getD_set (us : List Nat) (j r k : Nat) (hj : j < us.length) : (us.set j r).getD k 0 = if j = k then r else us.getD k 0 := by
  simp only [List.getD_eq_getElem?_getD, List.getElem?_set]
  by_cases h : j = k
  · subst h; simp [hj]
  · simp [h]

theorem Upd.step {u a b r : Nat} {us us' : List Nat} (h : Upd u a b us us') (hab : a ≤ b) (hb : b < us'.length) (hr : FAdd (us'.getD b 0) u r) : Upd u a (b + 1) us (us'.set b r) := by
  refine ⟨by rw [List.length_set, h.len], fun k h1 h2 => ?_, fun k hk => ?_⟩
  · rw [getD_set _ _ _ _ hb]
    by_cases e : b = k
    · subst e
      rw [if_pos rfl, ← h.off b (by omega)]
      exact hr
    · rw [if_neg e]
      exact h.on k h1 (by omega)
  · rw [getD_set _ _ _ _ hb, if_neg (by omega)]
    exact h.off k (by omega)

/-- q is the maximum of p and the values of the stretches from a up to b, taken in their order. -/
inductive MaxFold (gs : List Nat) (a p : Nat) : Nat → Nat → Prop
  | start : MaxFold gs a p a p
  | step {b q r : Nat} : MaxFold gs a p b q → FMax q (gs.getD b 0) r → MaxFold gs a p (b + 1) r

theorem MaxFold.le {gs : List Nat} {a p b q : Nat} (h : MaxFold gs a p b q) : a ≤ b := by
  induction h with
  | start => exact Nat.le_refl _
  | step _ _ ih => omega

theorem MaxFold.congr {gs gs' : List Nat} {a p b q : Nat} (h : MaxFold gs a p b q) (he : ∀ k, a ≤ k → k < b → gs'.getD k 0 = gs.getD k 0) : MaxFold gs' a p b q := by
  induction h with
  | start => exact .start
  | @step b q r h1 h2 ih =>
    refine .step (ih fun k h3 h4 => he k h3 (by omega)) ?_
    rw [he b h1.le (Nat.lt_succ_self _)]
    exact h2

/-- What the loop has done when it stands at b. -/
structure Part (u : Nat) (urg : Bool) (us gs : List Nat) (pk a b : Nat) (us' gs' : List Nat) (pk' : Nat) : Prop where
  le : a ≤ b
  used : Upd u a b us us'
  urgent : if urg then Upd u a b gs gs' else gs' = gs
  peak : if urg then MaxFold gs' a pk b pk' else pk' = pk

theorem Part.start (u : Nat) (urg : Bool) (us gs : List Nat) (pk a : Nat) : Part u urg us gs pk a a us gs pk := by
  refine ⟨Nat.le_refl _, Upd.refl _ _ _, ?_, ?_⟩
  · cases urg
    · rfl
    · exact Upd.refl _ _ _
  · cases urg
    · rfl
    · exact MaxFold.start

theorem Part.plain {u : Nat} {us gs us' gs' : List Nat} {pk pk' a b r : Nat} (h : Part u false us gs pk a b us' gs' pk') (hb : b < us'.length) (hr : FAdd (us'.getD b 0) u r) :
    Part u false us gs pk a (b + 1) (us'.set b r) gs' pk' := ⟨Nat.le_succ_of_le h.le, h.used.step h.le hb hr, h.urgent, h.peak⟩

theorem Part.pressing {u : Nat} {us gs us' gs' : List Nat} {pk pk' a b r s q : Nat} (h : Part u true us gs pk a b us' gs' pk') (hb : b < us'.length) (hg : b < gs'.length) (hr : FAdd (us'.getD b 0) u r) (hs : FAdd (gs'.getD b 0) u s) (hq : FMax pk' s q) :
    Part u true us gs pk a (b + 1) (us'.set b r) (gs'.set b s) q := by
  refine ⟨Nat.le_succ_of_le h.le, h.used.step h.le hb hr, ?_, ?_⟩
  · have := h.urgent
    exact Upd.step (show Upd u a b gs gs' from this) h.le hg hs
  · have hp : MaxFold gs' a pk b pk' := h.peak
    show MaxFold (gs'.set b s) a pk (b + 1) q
    refine .step (hp.congr fun k _ h2 => ?_) ?_
    · rw [getD_set _ _ _ _ hg, if_neg (by omega)]
    · rw [getD_set _ _ _ _ hg, if_pos rfl]
      exact hq

/-- What the walk of the loop knows at a round. -/
def Round (w : World) (own0 : Nat → Prop) (sb : Nat) (tv uv gv : Value) (ts : List Int) (us gs : List Nat) (pk : Nat) (rc : Int) (u : Nat) (urg : Bool) (i1 i2 : Nat) (bx : Obj) (x : Value) (wr : World) : Prop :=
  ∃ (b : Nat) (us' gs' : List Nat) (pk' : Nat), x = .int .i64 b ∧ (b = i1 ∨ b ≤ i2) ∧ Part u urg us gs pk i1 b us' gs' pk' ∧ Stg w own0 sb tv uv gv ts us' gs' pk' rc wr ∧ wr.heap[w.heap.size]? = some bx

theorem Part.glen {u : Nat} {urg : Bool} {us gs us' gs' : List Nat} {pk pk' a b : Nat} (h : Part u urg us gs pk a b us' gs' pk') : gs'.length = gs.length := by
  have := h.urgent
  cases urg
  · exact congrArg _ this
  · exact Upd.len this
end Go.Proofs.Qxb6604397a
