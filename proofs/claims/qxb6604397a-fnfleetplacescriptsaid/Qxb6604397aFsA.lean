/-
  Seat b6604397a. The fleet of three regions in memory, and what ZZplace does to it.
-/
import Derived.Test.Qxb6604397aFtD
import Derived.Test.Qxb6604397aFtE
import Derived.Test.Qxb6604397aPnA
namespace Go.Proofs.Qxb6604397a
open Go.RowKit

structure SD where
  tv : Value
  uv : Value
  gv : Value
  ts : List Int
  us : List Nat
  gs : List Nat
  pk : Nat
  rc : Int

def SD.nil : SD := ⟨nilS, nilS, nilS, [], [], [], 0, 0⟩
def SD.ok (x : SD) (W : World) (sb : Nat) : Prop := Sched W sb x.tv x.uv x.gv x.ts x.us x.gs x.pk x.rc
def SD.own (x : SD) (sb : Nat) : Nat → Prop := Own sb x.tv x.uv x.gv

def fleetPs (n : Nat) : Array Value := #[.pointer (some ⟨n, 0, none⟩), .pointer (some ⟨n + 1, 0, none⟩), .pointer (some ⟨n + 1 + 1, 0, none⟩)]

theorem fleetPs_at (n : Nat) {r : Nat} (hr : r < 3) : (fleetPs n)[r]? = some (.pointer (some ⟨n + r, 0, none⟩)) := by
  rcases (show r = 0 ∨ r = 1 ∨ r = 2 by omega) with rfl | rfl | rfl <;> rfl

structure FleetSt (n : Nat) (W : World) (x : Nat → SD) : Prop where
  f : Flt W (n + 1 + 1 + 1 + 1) (n + 1 + 1 + 1) (fleetPs n)
  s : ∀ i, i < 3 → (x i).ok W (n + i)
  apart : ∀ i j k, i < 3 → j < 3 → i ≠ j → (x i).own (n + i) k → (x j).own (n + j) k → False
  low : ∀ i k, i < 3 → (x i).own (n + i) k → n ≤ k

def upd (x : Nat → SD) (r : Nat) (y : SD) : Nat → SD := fun i => if i = r then y else x i

section
variable {n : Nat} {W W' : World} {x : Nat → SD}

theorem FleetSt.lt (h : FleetSt n W x) {i k : Nat} (hi : i < 3) (hk : (x i).own (n + i) k) : k < W.heap.size := Sched.lt (h.s i hi) hk

theorem FleetSt.flt_lt (h : FleetSt n W x) : n + 1 + 1 + 1 + 1 < W.heap.size := by
  obtain ⟨fs, h1, _⟩ := h.f.f
  exact (Array.getElem?_eq_some_iff.1 h1).1

theorem FleetSt.below (h : FleetSt n W x) (hb : Below W.heap.size W W') : FleetSt n W' x :=
  ⟨h.f.kept (hb.block _ h.flt_lt) (hb.block _ (by have := h.flt_lt; omega)), fun i hi => Sched.below (h.s i hi) hb (Nat.le_refl _), h.apart, h.low⟩

theorem nil_own {sb k : Nat} (h : SD.nil.own sb k) : k = sb := by
  rcases h with h | h | h | h
  · exact h
  · cases h
  · cases h
  · cases h

theorem FleetSt.fresh {w : World} (h : Fresh w W) : FleetSt w.heap.size W (fun _ => SD.nil) := by
  refine ⟨h.f, fun i hi => ?_, fun i j k _ _ hij h1 h2 => ?_, fun i k _ hk => ?_⟩
  · rcases (show i = 0 ∨ i = 1 ∨ i = 2 by omega) with rfl | rfl | rfl
    · exact h.s0
    · exact h.s1
    · exact h.s2
  · have := nil_own h1; have := nil_own h2; omega
  · have := nil_own hk; omega

/-- What one placement does to its region. -/
structure StepSD (x y : SD) (s d : Int) (u : Nat) (urg : Bool) : Prop where
  ex : ∃ (i1 i2 m : Nat) (f1 f2 : Bool), Found x.ts x.ts.length s i1 f1 ∧ Found (insT f1 i1 s x.ts) (insT f1 i1 s x.ts).length (s + d) i2 f2 ∧ i2 ≤ m ∧ (m = i1 ∨ m ≤ i2) ∧
    Part u urg (insF f2 i2 (insF f1 i1 x.us)) (insF f2 i2 (insF f1 i1 x.gs)) x.pk i1 m y.us y.gs y.pk ∧ y.ts = insT f2 i2 (s + d) (insT f1 i1 s x.ts)
  rc : y.rc = if urg then (if s + d > x.rc then s + d else x.rc) else x.rc

theorem StepSD.inv {x y : SD} {s d : Int} {u : Nat} {urg : Bool} {J : List PJob} (h : StepSD x y s d u urg) (hI : Inv J x.ts x.us x.gs x.rc) : Inv (J ++ [⟨s, d, u, urg⟩]) y.ts y.us y.gs y.rc := by
  obtain ⟨i1, i2, m, f1, f2, a1, a2, a3, a4, a5, a6⟩ := h.ex
  rw [a6, h.rc]
  exact hI.step a1 a2 a3 a4 a5

structure PlaceF (n : Nat) (W : World) (x : Nat → SD) (r : Nat) (s d : Int) (u : Nat) (urg : Bool) (w' : World) (y : SD) : Prop where
  st : FleetSt n w' (upd x r y)
  step : StepSD (x r) y s d u urg
  own : ∀ k, y.own (n + r) k → (x r).own (n + r) k ∨ W.heap.size ≤ k
  keep : Keep ((x r).own (n + r)) W w'

theorem FleetSt.notOwn (h : FleetSt n W x) {i : Nat} (hi : i < 3) : ¬ (x i).own (n + i) (n + 1 + 1 + 1 + 1) ∧ ¬ (x i).own (n + i) (n + 1 + 1 + 1) := flt_own h.f (h.s i hi)

theorem placeF {r : Nat} (h : FleetSt n W x) (hr : r < 3) {e l d s : Int} {u : Nat} (hn : (x r).ts.length ≤ 900000) (hs : Sorted (x r).ts) (hu : (x r).us.length = (x r).ts.length) (hg : (x r).gs.length = (x r).ts.length) (he : In61 e) (hl : In61 l) (hd : In61 d) (hs' : In61 s) :
    Calls Try.prog 13 #[.pointer (some ⟨n + 1 + 1 + 1 + 1, 0, none⟩), .int .i64 r, .agg (jobA e l d), .agg (tm s), .float .f64 u] W fun q w' => q = .returned (.agg (plA r s (s + d) (decide (l < s + d)))) ∧ ∃ y, PlaceF n W x r s d u (decide (l - e - d = 0)) w' y := by
  refine (place13 _ _ _ r (n + r) _ _ _ _ _ _ _ _ e l d s u W hn hs hu hg he hl hd hs' h.f hr (fleetPs_at n hr) (h.s r hr)).mono ?_
  rintro q w' ⟨rfl, i1, i2, m, f1, f2, us', gs', pk', tv', uv', gv', a1, a2, a3, a4, a5, a6⟩
  refine ⟨rfl, ⟨tv', uv', gv', _, us', gs', pk', _⟩, ⟨?_, fun i hi => ?_, fun i j k hi hj hij h1 h2 => ?_, fun i k hi hk => ?_⟩, ⟨⟨i1, i2, m, f1, f2, a1, a2, a3, a4, a5, rfl⟩, rfl⟩, a6.o, a6.k⟩
  · obtain ⟨o1, o2⟩ := h.notOwn hr
    exact h.f.kept (a6.k.block _ h.flt_lt o1) (a6.k.block _ (by have := h.flt_lt; omega) o2)
  · unfold upd
    by_cases e : i = r
    · subst e; rw [if_pos rfl]; exact a6.s
    · rw [if_neg e]
      exact Sched.kept (h.s i hi) fun k hk => a6.k.block k (h.lt hi hk) (fun q => h.apart i r k hi hr e hk q)
  · unfold upd at h1 h2
    by_cases e1 : i = r
    · subst e1
      rw [if_pos rfl] at h1
      rw [if_neg (fun e => hij e.symm)] at h2
      rcases a6.o k h1 with q | q
      · exact h.apart i j k hi hj hij q h2
      · have := h.lt hj h2; omega
    · rw [if_neg e1] at h1
      by_cases e2 : j = r
      · subst e2
        rw [if_pos rfl] at h2
        rcases a6.o k h2 with q | q
        · exact h.apart i j k hi hj hij h1 q
        · have := h.lt hi h1; omega
      · rw [if_neg e2] at h2
        exact h.apart i j k hi hj hij h1 h2
  · unfold upd at hk
    by_cases e : i = r
    · subst e
      rw [if_pos rfl] at hk
      rcases a6.o k hk with q | q
      · exact h.low i k hi q
      · have := h.flt_lt; omega
    · rw [if_neg e] at hk
      exact h.low i k hi hk
end
end Go.Proofs.Qxb6604397a
