/-
  Seat b6604397a. (time.Time).Equal (42), Before (43), After (45), Compare (47), over times without a monotonic reading.
-/
import Derived.Test.Qxb6604397aTiB
namespace Go.Proofs.Qxb6604397a
open Go.RowKit

/-- Two such walls have no monotonic bit in common. -/
theorem walls (n1 n2 : Nat) (h1 : n1 < 1000000000) (h2 : n2 < 1000000000) : ∃ m : Nat, bits .and .u64 (n1 : Int) (n2 : Int) = (m : Int) ∧ (bits .and .u64 (m : Int) 9223372036854775808 != 0) = false :=
  ⟨n1 &&& n2, bits_and_u64_nat n1 n2 (by omega) (by omega), mono0 _ (Nat.lt_of_le_of_lt Nat.and_le_left h1)⟩

set_option maxRecDepth 100000 in
set_option maxHeartbeats 400000 in
theorem equal_sl (n1 n2 : Nat) (s1 s2 : Int) (w : World) (h1 : n1 < 1000000000) (h2 : n2 < 1000000000) (hc : s1 < s2) :
    Calls Try.prog 42 #[.agg (tmCells n1 s1), .agg (tmCells n2 s2)] w fun e w' => e = .returned (.bool false) ∧ Below w.heap.size w w' := by
  have k1 := mask30 n1 h1
  have k2 := mono0 n1 h1
  have k3 := mask30 n2 h2
  have k4 := mono0 n2 h2
  obtain ⟨m, k5, k6⟩ := walls n1 n2 h1 h2
  have g1 : ¬ s2 < s1 := by omega
  have g2 : (s1 == s2) = false := by simp; omega
  unfold tmCells
  go_enter Try.func42, Try.ntmps42
  go_wp2
  go_ret
  exact ⟨rfl, ((Below.refl _ _).alloc (Nat.le_refl _) _).alloc (by simp) _⟩

set_option maxRecDepth 100000 in
set_option maxHeartbeats 400000 in
theorem equal_sg (n1 n2 : Nat) (s1 s2 : Int) (w : World) (h1 : n1 < 1000000000) (h2 : n2 < 1000000000) (hc : s2 < s1) :
    Calls Try.prog 42 #[.agg (tmCells n1 s1), .agg (tmCells n2 s2)] w fun e w' => e = .returned (.bool false) ∧ Below w.heap.size w w' := by
  have k1 := mask30 n1 h1
  have k2 := mono0 n1 h1
  have k3 := mask30 n2 h2
  have k4 := mono0 n2 h2
  obtain ⟨m, k5, k6⟩ := walls n1 n2 h1 h2
  have g1 : ¬ s1 < s2 := by omega
  have g2 : (s1 == s2) = false := by simp; omega
  unfold tmCells
  go_enter Try.func42, Try.ntmps42
  go_wp2
  go_ret
  exact ⟨rfl, ((Below.refl _ _).alloc (Nat.le_refl _) _).alloc (by simp) _⟩

set_option maxRecDepth 100000 in
set_option maxHeartbeats 400000 in
theorem equal_nl (n1 n2 : Nat) (s1 s2 : Int) (w : World) (h1 : n1 < 1000000000) (h2 : n2 < 1000000000) (hc : s1 = s2 ∧ (n1 : Int) < n2) :
    Calls Try.prog 42 #[.agg (tmCells n1 s1), .agg (tmCells n2 s2)] w fun e w' => e = .returned (.bool false) ∧ Below w.heap.size w w' := by
  have k1 := mask30 n1 h1
  have k2 := mono0 n1 h1
  have k3 := mask30 n2 h2
  have k4 := mono0 n2 h2
  obtain ⟨m, k5, k6⟩ := walls n1 n2 h1 h2
  obtain ⟨rfl, hc⟩ := hc
  have g3 : ¬ (n2 : Int) < n1 := by omega
  have g4 : ((n1 : Int) == n2) = false := by simp; omega
  unfold tmCells
  go_enter Try.func42, Try.ntmps42
  go_wp2
  go_ret
  exact ⟨rfl, ((Below.refl _ _).alloc (Nat.le_refl _) _).alloc (by simp) _⟩

set_option maxRecDepth 100000 in
set_option maxHeartbeats 400000 in
theorem equal_ne (n1 n2 : Nat) (s1 s2 : Int) (w : World) (h1 : n1 < 1000000000) (h2 : n2 < 1000000000) (hc : s1 = s2 ∧ n1 = n2) :
    Calls Try.prog 42 #[.agg (tmCells n1 s1), .agg (tmCells n2 s2)] w fun e w' => e = .returned (.bool true) ∧ Below w.heap.size w w' := by
  have k1 := mask30 n1 h1
  have k2 := mono0 n1 h1
  have k3 := mask30 n2 h2
  have k4 := mono0 n2 h2
  obtain ⟨m, k5, k6⟩ := walls n1 n2 h1 h2
  obtain ⟨rfl, rfl⟩ := hc
  unfold tmCells
  go_enter Try.func42, Try.ntmps42
  go_wp2
  go_ret
  exact ⟨rfl, ((Below.refl _ _).alloc (Nat.le_refl _) _).alloc (by simp) _⟩

set_option maxRecDepth 100000 in
set_option maxHeartbeats 400000 in
theorem equal_ng (n1 n2 : Nat) (s1 s2 : Int) (w : World) (h1 : n1 < 1000000000) (h2 : n2 < 1000000000) (hc : s1 = s2 ∧ (n2 : Int) < n1) :
    Calls Try.prog 42 #[.agg (tmCells n1 s1), .agg (tmCells n2 s2)] w fun e w' => e = .returned (.bool false) ∧ Below w.heap.size w w' := by
  have k1 := mask30 n1 h1
  have k2 := mono0 n1 h1
  have k3 := mask30 n2 h2
  have k4 := mono0 n2 h2
  obtain ⟨m, k5, k6⟩ := walls n1 n2 h1 h2
  obtain ⟨rfl, hc⟩ := hc
  have g3 : ¬ (n1 : Int) < n2 := by omega
  have g4 : ((n1 : Int) == n2) = false := by simp; omega
  unfold tmCells
  go_enter Try.func42, Try.ntmps42
  go_wp2
  go_ret
  exact ⟨rfl, ((Below.refl _ _).alloc (Nat.le_refl _) _).alloc (by simp) _⟩

set_option maxRecDepth 100000 in
set_option maxHeartbeats 400000 in
theorem before_sl (n1 n2 : Nat) (s1 s2 : Int) (w : World) (h1 : n1 < 1000000000) (h2 : n2 < 1000000000) (hc : s1 < s2) :
    Calls Try.prog 43 #[.agg (tmCells n1 s1), .agg (tmCells n2 s2)] w fun e w' => e = .returned (.bool true) ∧ Below w.heap.size w w' := by
  have k1 := mask30 n1 h1
  have k2 := mono0 n1 h1
  have k3 := mask30 n2 h2
  have k4 := mono0 n2 h2
  obtain ⟨m, k5, k6⟩ := walls n1 n2 h1 h2
  have g1 : ¬ s2 < s1 := by omega
  have g2 : (s1 == s2) = false := by simp; omega
  unfold tmCells
  go_enter Try.func43, Try.ntmps43
  go_wp2
  go_ret
  exact ⟨rfl, ((Below.refl _ _).alloc (Nat.le_refl _) _).alloc (by simp) _⟩

set_option maxRecDepth 100000 in
set_option maxHeartbeats 400000 in
theorem before_sg (n1 n2 : Nat) (s1 s2 : Int) (w : World) (h1 : n1 < 1000000000) (h2 : n2 < 1000000000) (hc : s2 < s1) :
    Calls Try.prog 43 #[.agg (tmCells n1 s1), .agg (tmCells n2 s2)] w fun e w' => e = .returned (.bool false) ∧ Below w.heap.size w w' := by
  have k1 := mask30 n1 h1
  have k2 := mono0 n1 h1
  have k3 := mask30 n2 h2
  have k4 := mono0 n2 h2
  obtain ⟨m, k5, k6⟩ := walls n1 n2 h1 h2
  have g1 : ¬ s1 < s2 := by omega
  have g2 : (s1 == s2) = false := by simp; omega
  unfold tmCells
  go_enter Try.func43, Try.ntmps43
  go_wp2
  go_ret
  exact ⟨rfl, ((Below.refl _ _).alloc (Nat.le_refl _) _).alloc (by simp) _⟩

set_option maxRecDepth 100000 in
set_option maxHeartbeats 400000 in
theorem before_nl (n1 n2 : Nat) (s1 s2 : Int) (w : World) (h1 : n1 < 1000000000) (h2 : n2 < 1000000000) (hc : s1 = s2 ∧ (n1 : Int) < n2) :
    Calls Try.prog 43 #[.agg (tmCells n1 s1), .agg (tmCells n2 s2)] w fun e w' => e = .returned (.bool true) ∧ Below w.heap.size w w' := by
  have k1 := mask30 n1 h1
  have k2 := mono0 n1 h1
  have k3 := mask30 n2 h2
  have k4 := mono0 n2 h2
  obtain ⟨m, k5, k6⟩ := walls n1 n2 h1 h2
  obtain ⟨rfl, hc⟩ := hc
  have g3 : ¬ (n2 : Int) < n1 := by omega
  have g4 : ((n1 : Int) == n2) = false := by simp; omega
  unfold tmCells
  go_enter Try.func43, Try.ntmps43
  go_wp2
  go_ret
  exact ⟨rfl, ((Below.refl _ _).alloc (Nat.le_refl _) _).alloc (by simp) _⟩

set_option maxRecDepth 100000 in
set_option maxHeartbeats 400000 in
theorem before_ne (n1 n2 : Nat) (s1 s2 : Int) (w : World) (h1 : n1 < 1000000000) (h2 : n2 < 1000000000) (hc : s1 = s2 ∧ n1 = n2) :
    Calls Try.prog 43 #[.agg (tmCells n1 s1), .agg (tmCells n2 s2)] w fun e w' => e = .returned (.bool false) ∧ Below w.heap.size w w' := by
  have k1 := mask30 n1 h1
  have k2 := mono0 n1 h1
  have k3 := mask30 n2 h2
  have k4 := mono0 n2 h2
  obtain ⟨m, k5, k6⟩ := walls n1 n2 h1 h2
  obtain ⟨rfl, rfl⟩ := hc
  unfold tmCells
  go_enter Try.func43, Try.ntmps43
  go_wp2
  go_ret
  exact ⟨rfl, ((Below.refl _ _).alloc (Nat.le_refl _) _).alloc (by simp) _⟩

set_option maxRecDepth 100000 in
set_option maxHeartbeats 400000 in
theorem before_ng (n1 n2 : Nat) (s1 s2 : Int) (w : World) (h1 : n1 < 1000000000) (h2 : n2 < 1000000000) (hc : s1 = s2 ∧ (n2 : Int) < n1) :
    Calls Try.prog 43 #[.agg (tmCells n1 s1), .agg (tmCells n2 s2)] w fun e w' => e = .returned (.bool false) ∧ Below w.heap.size w w' := by
  have k1 := mask30 n1 h1
  have k2 := mono0 n1 h1
  have k3 := mask30 n2 h2
  have k4 := mono0 n2 h2
  obtain ⟨m, k5, k6⟩ := walls n1 n2 h1 h2
  obtain ⟨rfl, hc⟩ := hc
  have g3 : ¬ (n1 : Int) < n2 := by omega
  have g4 : ((n1 : Int) == n2) = false := by simp; omega
  unfold tmCells
  go_enter Try.func43, Try.ntmps43
  go_wp2
  go_ret
  exact ⟨rfl, ((Below.refl _ _).alloc (Nat.le_refl _) _).alloc (by simp) _⟩

set_option maxRecDepth 100000 in
set_option maxHeartbeats 400000 in
theorem after_sl (n1 n2 : Nat) (s1 s2 : Int) (w : World) (h1 : n1 < 1000000000) (h2 : n2 < 1000000000) (hc : s1 < s2) :
    Calls Try.prog 45 #[.agg (tmCells n1 s1), .agg (tmCells n2 s2)] w fun e w' => e = .returned (.bool false) ∧ Below w.heap.size w w' := by
  have k1 := mask30 n1 h1
  have k2 := mono0 n1 h1
  have k3 := mask30 n2 h2
  have k4 := mono0 n2 h2
  obtain ⟨m, k5, k6⟩ := walls n1 n2 h1 h2
  have g1 : ¬ s2 < s1 := by omega
  have g2 : (s1 == s2) = false := by simp; omega
  unfold tmCells
  go_enter Try.func45, Try.ntmps45
  go_wp2
  go_ret
  exact ⟨rfl, ((Below.refl _ _).alloc (Nat.le_refl _) _).alloc (by simp) _⟩

set_option maxRecDepth 100000 in
set_option maxHeartbeats 400000 in
theorem after_sg (n1 n2 : Nat) (s1 s2 : Int) (w : World) (h1 : n1 < 1000000000) (h2 : n2 < 1000000000) (hc : s2 < s1) :
    Calls Try.prog 45 #[.agg (tmCells n1 s1), .agg (tmCells n2 s2)] w fun e w' => e = .returned (.bool true) ∧ Below w.heap.size w w' := by
  have k1 := mask30 n1 h1
  have k2 := mono0 n1 h1
  have k3 := mask30 n2 h2
  have k4 := mono0 n2 h2
  obtain ⟨m, k5, k6⟩ := walls n1 n2 h1 h2
  have g1 : ¬ s1 < s2 := by omega
  have g2 : (s1 == s2) = false := by simp; omega
  unfold tmCells
  go_enter Try.func45, Try.ntmps45
  go_wp2
  go_ret
  exact ⟨rfl, ((Below.refl _ _).alloc (Nat.le_refl _) _).alloc (by simp) _⟩

set_option maxRecDepth 100000 in
set_option maxHeartbeats 400000 in
theorem after_nl (n1 n2 : Nat) (s1 s2 : Int) (w : World) (h1 : n1 < 1000000000) (h2 : n2 < 1000000000) (hc : s1 = s2 ∧ (n1 : Int) < n2) :
    Calls Try.prog 45 #[.agg (tmCells n1 s1), .agg (tmCells n2 s2)] w fun e w' => e = .returned (.bool false) ∧ Below w.heap.size w w' := by
  have k1 := mask30 n1 h1
  have k2 := mono0 n1 h1
  have k3 := mask30 n2 h2
  have k4 := mono0 n2 h2
  obtain ⟨m, k5, k6⟩ := walls n1 n2 h1 h2
  obtain ⟨rfl, hc⟩ := hc
  have g3 : ¬ (n2 : Int) < n1 := by omega
  have g4 : ((n1 : Int) == n2) = false := by simp; omega
  unfold tmCells
  go_enter Try.func45, Try.ntmps45
  go_wp2
  go_ret
  exact ⟨rfl, ((Below.refl _ _).alloc (Nat.le_refl _) _).alloc (by simp) _⟩

set_option maxRecDepth 100000 in
set_option maxHeartbeats 400000 in
theorem after_ne (n1 n2 : Nat) (s1 s2 : Int) (w : World) (h1 : n1 < 1000000000) (h2 : n2 < 1000000000) (hc : s1 = s2 ∧ n1 = n2) :
    Calls Try.prog 45 #[.agg (tmCells n1 s1), .agg (tmCells n2 s2)] w fun e w' => e = .returned (.bool false) ∧ Below w.heap.size w w' := by
  have k1 := mask30 n1 h1
  have k2 := mono0 n1 h1
  have k3 := mask30 n2 h2
  have k4 := mono0 n2 h2
  obtain ⟨m, k5, k6⟩ := walls n1 n2 h1 h2
  obtain ⟨rfl, rfl⟩ := hc
  unfold tmCells
  go_enter Try.func45, Try.ntmps45
  go_wp2
  go_ret
  exact ⟨rfl, ((Below.refl _ _).alloc (Nat.le_refl _) _).alloc (by simp) _⟩

set_option maxRecDepth 100000 in
set_option maxHeartbeats 400000 in
theorem after_ng (n1 n2 : Nat) (s1 s2 : Int) (w : World) (h1 : n1 < 1000000000) (h2 : n2 < 1000000000) (hc : s1 = s2 ∧ (n2 : Int) < n1) :
    Calls Try.prog 45 #[.agg (tmCells n1 s1), .agg (tmCells n2 s2)] w fun e w' => e = .returned (.bool true) ∧ Below w.heap.size w w' := by
  have k1 := mask30 n1 h1
  have k2 := mono0 n1 h1
  have k3 := mask30 n2 h2
  have k4 := mono0 n2 h2
  obtain ⟨m, k5, k6⟩ := walls n1 n2 h1 h2
  obtain ⟨rfl, hc⟩ := hc
  have g3 : ¬ (n1 : Int) < n2 := by omega
  have g4 : ((n1 : Int) == n2) = false := by simp; omega
  unfold tmCells
  go_enter Try.func45, Try.ntmps45
  go_wp2
  go_ret
  exact ⟨rfl, ((Below.refl _ _).alloc (Nat.le_refl _) _).alloc (by simp) _⟩

set_option maxRecDepth 100000 in
set_option maxHeartbeats 400000 in
theorem cmp_sl (n1 n2 : Nat) (s1 s2 : Int) (w : World) (h1 : n1 < 1000000000) (h2 : n2 < 1000000000) (hc : s1 < s2) :
    Calls Try.prog 47 #[.agg (tmCells n1 s1), .agg (tmCells n2 s2)] w fun e w' => e = .returned (.int .i64 (-1)) ∧ Below w.heap.size w w' := by
  have k1 := mask30 n1 h1
  have k2 := mono0 n1 h1
  have k3 := mask30 n2 h2
  have k4 := mono0 n2 h2
  obtain ⟨m, k5, k6⟩ := walls n1 n2 h1 h2
  have g1 : ¬ s2 < s1 := by omega
  have g2 : (s1 == s2) = false := by simp; omega
  unfold tmCells
  go_enter Try.func47, Try.ntmps47
  go_wp2
  go_ret
  exact ⟨rfl, ((Below.refl _ _).alloc (Nat.le_refl _) _).alloc (by simp) _⟩

set_option maxRecDepth 100000 in
set_option maxHeartbeats 400000 in
theorem cmp_sg (n1 n2 : Nat) (s1 s2 : Int) (w : World) (h1 : n1 < 1000000000) (h2 : n2 < 1000000000) (hc : s2 < s1) :
    Calls Try.prog 47 #[.agg (tmCells n1 s1), .agg (tmCells n2 s2)] w fun e w' => e = .returned (.int .i64 1) ∧ Below w.heap.size w w' := by
  have k1 := mask30 n1 h1
  have k2 := mono0 n1 h1
  have k3 := mask30 n2 h2
  have k4 := mono0 n2 h2
  obtain ⟨m, k5, k6⟩ := walls n1 n2 h1 h2
  have g1 : ¬ s1 < s2 := by omega
  have g2 : (s1 == s2) = false := by simp; omega
  unfold tmCells
  go_enter Try.func47, Try.ntmps47
  go_wp2
  go_ret
  exact ⟨rfl, ((Below.refl _ _).alloc (Nat.le_refl _) _).alloc (by simp) _⟩

set_option maxRecDepth 100000 in
set_option maxHeartbeats 400000 in
theorem cmp_nl (n1 n2 : Nat) (s1 s2 : Int) (w : World) (h1 : n1 < 1000000000) (h2 : n2 < 1000000000) (hc : s1 = s2 ∧ (n1 : Int) < n2) :
    Calls Try.prog 47 #[.agg (tmCells n1 s1), .agg (tmCells n2 s2)] w fun e w' => e = .returned (.int .i64 (-1)) ∧ Below w.heap.size w w' := by
  have k1 := mask30 n1 h1
  have k2 := mono0 n1 h1
  have k3 := mask30 n2 h2
  have k4 := mono0 n2 h2
  obtain ⟨m, k5, k6⟩ := walls n1 n2 h1 h2
  obtain ⟨rfl, hc⟩ := hc
  have g3 : ¬ (n2 : Int) < n1 := by omega
  have g4 : ((n1 : Int) == n2) = false := by simp; omega
  unfold tmCells
  go_enter Try.func47, Try.ntmps47
  go_wp2
  go_ret
  exact ⟨rfl, ((Below.refl _ _).alloc (Nat.le_refl _) _).alloc (by simp) _⟩

set_option maxRecDepth 100000 in
set_option maxHeartbeats 400000 in
theorem cmp_ne (n1 n2 : Nat) (s1 s2 : Int) (w : World) (h1 : n1 < 1000000000) (h2 : n2 < 1000000000) (hc : s1 = s2 ∧ n1 = n2) :
    Calls Try.prog 47 #[.agg (tmCells n1 s1), .agg (tmCells n2 s2)] w fun e w' => e = .returned (.int .i64 0) ∧ Below w.heap.size w w' := by
  have k1 := mask30 n1 h1
  have k2 := mono0 n1 h1
  have k3 := mask30 n2 h2
  have k4 := mono0 n2 h2
  obtain ⟨m, k5, k6⟩ := walls n1 n2 h1 h2
  obtain ⟨rfl, rfl⟩ := hc
  unfold tmCells
  go_enter Try.func47, Try.ntmps47
  go_wp2
  go_ret
  exact ⟨rfl, ((Below.refl _ _).alloc (Nat.le_refl _) _).alloc (by simp) _⟩

set_option maxRecDepth 100000 in
set_option maxHeartbeats 400000 in
theorem cmp_ng (n1 n2 : Nat) (s1 s2 : Int) (w : World) (h1 : n1 < 1000000000) (h2 : n2 < 1000000000) (hc : s1 = s2 ∧ (n2 : Int) < n1) :
    Calls Try.prog 47 #[.agg (tmCells n1 s1), .agg (tmCells n2 s2)] w fun e w' => e = .returned (.int .i64 1) ∧ Below w.heap.size w w' := by
  have k1 := mask30 n1 h1
  have k2 := mono0 n1 h1
  have k3 := mask30 n2 h2
  have k4 := mono0 n2 h2
  obtain ⟨m, k5, k6⟩ := walls n1 n2 h1 h2
  obtain ⟨rfl, hc⟩ := hc
  have g3 : ¬ (n1 : Int) < n2 := by omega
  have g4 : ((n1 : Int) == n2) = false := by simp; omega
  unfold tmCells
  go_enter Try.func47, Try.ntmps47
  go_wp2
  go_ret
  exact ⟨rfl, ((Below.refl _ _).alloc (Nat.le_refl _) _).alloc (by simp) _⟩

theorem equal42 (a b : Int) (w : World) : Calls Try.prog 42 #[.agg (tm a), .agg (tm b)] w fun e w' => e = .returned (.bool (decide (a = b))) ∧ Below w.heap.size w w' := by
  have ha : (((a % 1000000000).toNat : Nat) : Int) = a % 1000000000 := Int.toNat_of_nonneg (by omega)
  have hb : (((b % 1000000000).toNat : Nat) : Int) = b % 1000000000 := Int.toNat_of_nonneg (by omega)
  unfold tm
  rcases (show a / 1000000000 < b / 1000000000 ∨ b / 1000000000 < a / 1000000000 ∨ (a / 1000000000 = b / 1000000000 ∧ (((a % 1000000000).toNat : Nat) : Int) < ((b % 1000000000).toNat : Nat)) ∨ (a / 1000000000 = b / 1000000000 ∧ (a % 1000000000).toNat = (b % 1000000000).toNat) ∨ (a / 1000000000 = b / 1000000000 ∧ (((b % 1000000000).toNat : Nat) : Int) < ((a % 1000000000).toNat : Nat)) from by omega) with h | h | h | h | h
  · refine (equal_sl _ _ _ _ w (by omega) (by omega) h).mono ?_
    rintro e w' ⟨rfl, hb⟩
    exact ⟨by rw [decide_eq_false (show ¬ (a = b) by omega)], hb⟩
  · refine (equal_sg _ _ _ _ w (by omega) (by omega) h).mono ?_
    rintro e w' ⟨rfl, hb⟩
    exact ⟨by rw [decide_eq_false (show ¬ (a = b) by omega)], hb⟩
  · refine (equal_nl _ _ _ _ w (by omega) (by omega) h).mono ?_
    rintro e w' ⟨rfl, hb⟩
    exact ⟨by rw [decide_eq_false (show ¬ (a = b) by omega)], hb⟩
  · refine (equal_ne _ _ _ _ w (by omega) (by omega) h).mono ?_
    rintro e w' ⟨rfl, hb⟩
    exact ⟨by rw [decide_eq_true (show a = b by omega)], hb⟩
  · refine (equal_ng _ _ _ _ w (by omega) (by omega) h).mono ?_
    rintro e w' ⟨rfl, hb⟩
    exact ⟨by rw [decide_eq_false (show ¬ (a = b) by omega)], hb⟩

theorem before43 (a b : Int) (w : World) : Calls Try.prog 43 #[.agg (tm a), .agg (tm b)] w fun e w' => e = .returned (.bool (decide (a < b))) ∧ Below w.heap.size w w' := by
  have ha : (((a % 1000000000).toNat : Nat) : Int) = a % 1000000000 := Int.toNat_of_nonneg (by omega)
  have hb : (((b % 1000000000).toNat : Nat) : Int) = b % 1000000000 := Int.toNat_of_nonneg (by omega)
  unfold tm
  rcases (show a / 1000000000 < b / 1000000000 ∨ b / 1000000000 < a / 1000000000 ∨ (a / 1000000000 = b / 1000000000 ∧ (((a % 1000000000).toNat : Nat) : Int) < ((b % 1000000000).toNat : Nat)) ∨ (a / 1000000000 = b / 1000000000 ∧ (a % 1000000000).toNat = (b % 1000000000).toNat) ∨ (a / 1000000000 = b / 1000000000 ∧ (((b % 1000000000).toNat : Nat) : Int) < ((a % 1000000000).toNat : Nat)) from by omega) with h | h | h | h | h
  · refine (before_sl _ _ _ _ w (by omega) (by omega) h).mono ?_
    rintro e w' ⟨rfl, hb⟩
    exact ⟨by rw [decide_eq_true (show a < b by omega)], hb⟩
  · refine (before_sg _ _ _ _ w (by omega) (by omega) h).mono ?_
    rintro e w' ⟨rfl, hb⟩
    exact ⟨by rw [decide_eq_false (show ¬ (a < b) by omega)], hb⟩
  · refine (before_nl _ _ _ _ w (by omega) (by omega) h).mono ?_
    rintro e w' ⟨rfl, hb⟩
    exact ⟨by rw [decide_eq_true (show a < b by omega)], hb⟩
  · refine (before_ne _ _ _ _ w (by omega) (by omega) h).mono ?_
    rintro e w' ⟨rfl, hb⟩
    exact ⟨by rw [decide_eq_false (show ¬ (a < b) by omega)], hb⟩
  · refine (before_ng _ _ _ _ w (by omega) (by omega) h).mono ?_
    rintro e w' ⟨rfl, hb⟩
    exact ⟨by rw [decide_eq_false (show ¬ (a < b) by omega)], hb⟩

theorem after45 (a b : Int) (w : World) : Calls Try.prog 45 #[.agg (tm a), .agg (tm b)] w fun e w' => e = .returned (.bool (decide (b < a))) ∧ Below w.heap.size w w' := by
  have ha : (((a % 1000000000).toNat : Nat) : Int) = a % 1000000000 := Int.toNat_of_nonneg (by omega)
  have hb : (((b % 1000000000).toNat : Nat) : Int) = b % 1000000000 := Int.toNat_of_nonneg (by omega)
  unfold tm
  rcases (show a / 1000000000 < b / 1000000000 ∨ b / 1000000000 < a / 1000000000 ∨ (a / 1000000000 = b / 1000000000 ∧ (((a % 1000000000).toNat : Nat) : Int) < ((b % 1000000000).toNat : Nat)) ∨ (a / 1000000000 = b / 1000000000 ∧ (a % 1000000000).toNat = (b % 1000000000).toNat) ∨ (a / 1000000000 = b / 1000000000 ∧ (((b % 1000000000).toNat : Nat) : Int) < ((a % 1000000000).toNat : Nat)) from by omega) with h | h | h | h | h
  · refine (after_sl _ _ _ _ w (by omega) (by omega) h).mono ?_
    rintro e w' ⟨rfl, hb⟩
    exact ⟨by rw [decide_eq_false (show ¬ (b < a) by omega)], hb⟩
  · refine (after_sg _ _ _ _ w (by omega) (by omega) h).mono ?_
    rintro e w' ⟨rfl, hb⟩
    exact ⟨by rw [decide_eq_true (show b < a by omega)], hb⟩
  · refine (after_nl _ _ _ _ w (by omega) (by omega) h).mono ?_
    rintro e w' ⟨rfl, hb⟩
    exact ⟨by rw [decide_eq_false (show ¬ (b < a) by omega)], hb⟩
  · refine (after_ne _ _ _ _ w (by omega) (by omega) h).mono ?_
    rintro e w' ⟨rfl, hb⟩
    exact ⟨by rw [decide_eq_false (show ¬ (b < a) by omega)], hb⟩
  · refine (after_ng _ _ _ _ w (by omega) (by omega) h).mono ?_
    rintro e w' ⟨rfl, hb⟩
    exact ⟨by rw [decide_eq_true (show b < a by omega)], hb⟩

/-- What Compare answers. -/
def cmpI (a b : Int) : Int := if a < b then -1 else if b < a then 1 else 0

theorem compare47 (a b : Int) (w : World) : Calls Try.prog 47 #[.agg (tm a), .agg (tm b)] w fun e w' => e = .returned (.int .i64 (cmpI a b)) ∧ Below w.heap.size w w' := by
  have ha : (((a % 1000000000).toNat : Nat) : Int) = a % 1000000000 := Int.toNat_of_nonneg (by omega)
  have hb : (((b % 1000000000).toNat : Nat) : Int) = b % 1000000000 := Int.toNat_of_nonneg (by omega)
  unfold tm
  rcases (show a / 1000000000 < b / 1000000000 ∨ b / 1000000000 < a / 1000000000 ∨ (a / 1000000000 = b / 1000000000 ∧ (((a % 1000000000).toNat : Nat) : Int) < ((b % 1000000000).toNat : Nat)) ∨ (a / 1000000000 = b / 1000000000 ∧ (a % 1000000000).toNat = (b % 1000000000).toNat) ∨ (a / 1000000000 = b / 1000000000 ∧ (((b % 1000000000).toNat : Nat) : Int) < ((a % 1000000000).toNat : Nat)) from by omega) with h | h | h | h | h
  · refine (cmp_sl _ _ _ _ w (by omega) (by omega) h).mono ?_
    rintro e w' ⟨rfl, hb⟩
    exact ⟨by rw [cmpI, if_pos (show a < b by omega)], hb⟩
  · refine (cmp_sg _ _ _ _ w (by omega) (by omega) h).mono ?_
    rintro e w' ⟨rfl, hb⟩
    exact ⟨by rw [cmpI, if_neg (show ¬ a < b by omega), if_pos (show b < a by omega)], hb⟩
  · refine (cmp_nl _ _ _ _ w (by omega) (by omega) h).mono ?_
    rintro e w' ⟨rfl, hb⟩
    exact ⟨by rw [cmpI, if_pos (show a < b by omega)], hb⟩
  · refine (cmp_ne _ _ _ _ w (by omega) (by omega) h).mono ?_
    rintro e w' ⟨rfl, hb⟩
    exact ⟨by rw [cmpI, if_neg (show ¬ a < b by omega), if_neg (show ¬ b < a by omega)], hb⟩
  · refine (cmp_ng _ _ _ _ w (by omega) (by omega) h).mono ?_
    rintro e w' ⟨rfl, hb⟩
    exact ⟨by rw [cmpI, if_neg (show ¬ a < b by omega), if_pos (show b < a by omega)], hb⟩

end Go.Proofs.Qxb6604397a
