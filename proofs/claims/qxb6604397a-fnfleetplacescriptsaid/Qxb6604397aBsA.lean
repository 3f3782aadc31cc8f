/-
  Seat b6604397a. slices.BinarySearchFunc over times (46).
-/
import Derived.Test.Qxb6604397aTiD
import Derived.Deep.RegionHeld3
namespace Go.Proofs.Qxb6604397a
open Go.RowKit

/-- A row of times at block b from off on: the j-th lies ts[j] nanoseconds behind the zero time. -/
def RowT (w : World) (b off n : Nat) (ts : List Int) : Prop :=
  b < w.heap.size ∧ ∀ j, j < n → w.cell? ⟨b, off + j * 3, none⟩ = some (.int .u64 (ts.getD j 0 % 1000000000)) ∧ w.cell? ⟨b, off + j * 3 + 1, none⟩ = some (.int .i64 (ts.getD j 0 / 1000000000)) ∧ w.cell? ⟨b, off + j * 3 + 2, none⟩ = some (.pointer none)

theorem RowT.below {w w' : World} {b off n : Nat} {ts : List Int} (h : RowT w b off n ts) (hb : Below w.heap.size w w') : RowT w' b off n ts := by
  refine ⟨Nat.lt_of_lt_of_le h.1 hb.size, fun j hj => ?_⟩
  obtain ⟨h1, h2, h3⟩ := h.2 j hj
  exact ⟨by rw [hb.cell (by exact h.1)]; exact h1, by rw [hb.cell (by exact h.1)]; exact h2, by rw [hb.cell (by exact h.1)]; exact h3⟩

/-- What the search answers: how many lie ahead of t; and whether t itself stands there. -/
structure Found (ts : List Int) (n : Nat) (t : Int) (i : Nat) (f : Bool) : Prop where
  le : i ≤ n
  lo : ∀ k, k < i → ts.getD k 0 < t
  hi : ∀ k, i ≤ k → k < n → t ≤ ts.getD k 0
  eq : f = true ↔ i < n ∧ ts.getD i 0 = t

def BsPost (ts : List Int) (n : Nat) (t : Int) (e : Ending) : Prop := ∃ (i : Nat) (f : Bool), e = .returned (.tuple #[.int .i64 i, .bool f]) ∧ Found ts n t i f

set_option maxRecDepth 100000 in
set_option maxHeartbeats 2000000 in
theorem bs46 (b off n cap : Nat) (ts : List Int) (t : Int) (w : World) (hn : n ≤ 1000000) (hn0 : 0 < n) (hr : RowT w b off n ts) (hsort : ∀ i j, i < j → j < n → ts.getD i 0 ≤ ts.getD j 0) :
    Calls Try.prog 46 #[.slice (some ⟨b, off, none⟩) n cap, .agg (tm t), .func (.func 47) #[] #[]] w fun e w' => BsPost ts n t e ∧ Below w.heap.size w w' := by
  obtain ⟨tn, htn⟩ : ∃ z, z = t % 1000000000 := ⟨_, rfl⟩
  obtain ⟨tsec, hts⟩ : ∃ z, z = t / 1000000000 := ⟨_, rfl⟩
  have e1 : tm t = #[.int .u64 tn, .int .i64 tsec, .pointer none] := by rw [tm_cells, htn, hts]
  have HT := hid e1
  have HS := hid hsort
  have HR := hid hr
  rw [e1]
  clear e1 hsort hr htn hts
  go_enter Try.func46, Try.ntmps46
  go_wp2
  go_loopw [9, 10] (fun x y wr => ∃ i j : Nat, i ≤ j ∧ j ≤ n ∧ x = .int .i64 i ∧ y = .int .i64 j ∧ (∀ k, k < i → ts.getD k 0 < t) ∧ (∀ k, j ≤ k → k < n → t ≤ ts.getD k 0) ∧ Below (w.heap.size + 1) (w.alloc (.cells #[.int .u64 tn, .int .i64 tsec, .pointer none] 40)) wr)
    (fun x y _ => (intOf y).toNat - (intOf x).toNat)
  case atStart => exact ⟨0, n, by omega, by omega, rfl, rfl, fun k hk => by omega, fun k h1 h2 => by omega, Below.refl _ _⟩
  case round =>
    obtain ⟨i, j, hij, hjn, rfl, rfl, hlo, hhi, hbel⟩ := hrel
    have HL := hid hlo
    have HH := hid hhi
    clear hlo hhi
    have t0 : wr.cell? ⟨w.heap.size, 0, none⟩ = some (.int .u64 tn) := by rw [hbel.cell (by show w.heap.size < w.heap.size + 1; omega)]; exact cell_of_row _ _ _ _ 40 (0, 0) (heap_alloc_new _ _)
    have t1 : wr.cell? ⟨w.heap.size, 1, none⟩ = some (.int .i64 tsec) := by rw [hbel.cell (by show w.heap.size < w.heap.size + 1; omega)]; exact cell_of_row _ _ _ _ 40 (0, 0) (heap_alloc_new _ _)
    have t2 : wr.cell? ⟨w.heap.size, 2, none⟩ = some (.pointer none) := by rw [hbel.cell (by show w.heap.size < w.heap.size + 1; omega)]; exact cell_of_row _ _ _ _ 40 (0, 0) (heap_alloc_new _ _)
    have hrow : RowT wr b off n ts := (HR.out).below (((Below.refl _ _).alloc (Nat.le_refl _) _).trans (hbel.mono (by omega)))
    by_cases hlt : i < j
    · obtain ⟨h, hh⟩ : ∃ h : Nat, h = (i + j) / 2 := ⟨_, rfl⟩
      have hhn : (h : Int) < n := by omega
      have e2 : ((i : Int) + j) / 2 = h := by omega
      obtain ⟨c0, c1, c2⟩ := hrow.2 h (by omega)
      have HI := hid (show i ≤ h ∧ h < j by omega)
      clear hh hrow
      obtain ⟨x, hx⟩ : ∃ x, x = ts.getD h 0 := ⟨_, rfl⟩
      rw [← hx] at c0 c1
      have HX := hid hx
      clear hx
      obtain ⟨xn, hxn⟩ : ∃ z, z = x % 1000000000 := ⟨_, rfl⟩
      obtain ⟨xs, hxs⟩ : ∃ z, z = x / 1000000000 := ⟨_, rfl⟩
      have e3 : tm x = #[.int .u64 xn, .int .i64 xs, .pointer none] := by rw [tm_cells, hxn, hxs]
      rw [← hxn] at c0
      rw [← hxs] at c1
      have HC := hid (show ∀ W, Calls Try.prog 47 #[.agg #[.int .u64 xn, .int .i64 xs, .pointer none], .agg #[.int .u64 tn, .int .i64 tsec, .pointer none]] W fun e w' => e = .returned (.int .i64 (cmpI x t)) ∧ Below W.heap.size W w' from fun W => by
        have := compare47 x t W
        rw [e3, HT.out] at this
        exact this)
      clear hxn hxs e3
      by_cases hxt : x < t
      · have hcm : cmpI x t < 0 := by unfold cmpI; rw [if_pos hxt]; omega
        go_wp2
        go_region_with (go_at_call 47; refine (HC.out _).mono ?_; rintro e w1 ⟨rfl, hb1⟩)
        all_goals
          go_wp2
          go_roundw
          case rel =>
            refine ⟨h + 1, j, by have := HI.out; omega, hjn, by go_num, rfl, fun k hk => ?_, HH.out, Below.trans hbel.drew (Below.mono hb1 (by have := hbel.size; simp at this ⊢; omega))⟩
            by_cases e : k = h
            · subst e; rw [← HX.out]; exact hxt
            · have h1 := HS.out k h (by omega) (by omega)
              rw [← HX.out] at h1; omega
          case measure => have := HI.out; simp [intOf]; omega
      · have hcm : ¬ cmpI x t < 0 := by unfold cmpI; rw [if_neg hxt]; split <;> omega
        go_wp2
        go_region_with (go_at_call 47; refine (HC.out _).mono ?_; rintro e w1 ⟨rfl, hb1⟩)
        all_goals
          go_wp2
          go_roundw
          case rel =>
            refine ⟨i, h, HI.out.1, by have := HI.out; omega, rfl, rfl, HL.out, fun k h1 h2 => ?_, Below.trans hbel.drew (Below.mono hb1 (by have := hbel.size; simp at this ⊢; omega))⟩
            by_cases e : k = h
            · subst e; rw [← HX.out]; omega
            · have h3 := HS.out h k (by omega) h2
              rw [← HX.out] at h3; omega
          case measure => have := HI.out; simp [intOf]; omega
    · have hijeq : i = j := by omega
      clear hlt
      subst hijeq
      by_cases hin : i < n
      · have hin' : (i : Int) < n := by omega
        obtain ⟨c0, c1, c2⟩ := hrow.2 i hin
        clear hrow
        obtain ⟨x, hx⟩ : ∃ x, x = ts.getD i 0 := ⟨_, rfl⟩
        rw [← hx] at c0 c1
        have HX := hid hx
        clear hx
        obtain ⟨xn, hxn⟩ : ∃ z, z = x % 1000000000 := ⟨_, rfl⟩
        obtain ⟨xs, hxs⟩ : ∃ z, z = x / 1000000000 := ⟨_, rfl⟩
        have e3 : tm x = #[.int .u64 xn, .int .i64 xs, .pointer none] := by rw [tm_cells, hxn, hxs]
        rw [← hxn] at c0
        rw [← hxs] at c1
        have HC := hid (show ∀ W, Calls Try.prog 47 #[.agg #[.int .u64 xn, .int .i64 xs, .pointer none], .agg #[.int .u64 tn, .int .i64 tsec, .pointer none]] W fun e w' => e = .returned (.int .i64 (cmpI x t)) ∧ Below W.heap.size W w' from fun W => by
          have := compare47 x t W
          rw [e3, HT.out] at this
          exact this)
        clear hxn hxs e3
        have HF := hid (show Found ts n t i (cmpI x t == 0) from ⟨hjn, HL.out, HH.out, by
          have h1 := HH.out i (Nat.le_refl _) hin
          rw [← HX.out] at h1 ⊢
          unfold cmpI
          constructor
          · intro hz
            refine ⟨hin, ?_⟩
            split at hz
            · cases hz
            · split at hz
              · cases hz
              · omega
          · rintro ⟨_, rfl⟩
            simp⟩)
        have hbw : b < wr.heap.size := Nat.lt_of_lt_of_le HR.out.1 (by have := hbel.size; simp at this; omega)
        have hww : w.heap.size < wr.heap.size := by have := hbel.size; simp at this; omega
        go_wp2
        go_region_held3 (fun w' => w'.cell? ⟨b, off + i * 3, none⟩ = some (.int .u64 xn) ∧ w'.cell? ⟨b, off + i * 3 + 1, none⟩ = some (.int .i64 xs) ∧ w'.cell? ⟨b, off + i * 3 + 2, none⟩ = some (.pointer none) ∧ w'.cell? ⟨w.heap.size, 0, none⟩ = some (.int .u64 tn) ∧ w'.cell? ⟨w.heap.size, 1, none⟩ = some (.int .i64 tsec) ∧ w'.cell? ⟨w.heap.size, 2, none⟩ = some (.pointer none)) (first | go_keep | exact ⟨(hb1.cell (by exact hbw)).trans c0, (hb1.cell (by exact hbw)).trans c1, (hb1.cell (by exact hbw)).trans c2, (hb1.cell (by exact hww)).trans t0, (hb1.cell (by exact hww)).trans t1, (hb1.cell (by exact hww)).trans t2⟩)
          ((go_at_call 47; refine (HC.out _).mono ?_; rintro e w1 ⟨rfl, hb1⟩))
        all_goals
          go_wp2
          go_ret2
          exact ⟨⟨i, _, rfl, HF.out⟩, (((Below.refl _ _).alloc (Nat.le_refl _) _).trans (hbel.drew.mono (by omega))).trans (Below.mono hb1 (by have := hbel.size; simp at this ⊢; omega))⟩
      · have hin' : decide ((i : Int) < n) = false := by simp; omega
        have hie : i = n := by omega
        have HF := hid (show Found ts n t i false from ⟨hjn, HL.out, HH.out, ⟨(fun h => by cases h), (fun h => by omega)⟩⟩)
        clear hie
        go_wp2
        go_quiet (fail)
        go_wp2
        go_ret2
        exact ⟨⟨i, _, rfl, HF.out⟩, below_drewN (((Below.refl _ _).alloc (Nat.le_refl _) _).trans (hbel.mono (by omega))) _⟩
end Go.Proofs.Qxb6604397a
