/-
  Seat b6604397a. (time.Time).Add (27).
-/
import Derived.Test.Qxb6604397aTiA
namespace Go.Proofs.Qxb6604397a
open Go.RowKit

theorem bits_or_u64_nat (a b : Nat) (ha : a < 18446744073709551616) (hb : b < 18446744073709551616) : bits .or .u64 (a : Int) (b : Int) = ((a ||| b : Nat) : Int) := by
  have hx : a ||| b < 2 ^ 64 := Nat.or_lt_two_pow (by omega) (by omega)
  show IntKind.u64.wrap ((BitVec.ofInt 64 (a : Int) ||| BitVec.ofInt 64 (b : Int)).toNat : Int) = _
  rw [BitVec.toNat_or, ofInt_nat a ha, ofInt_nat b hb, IntKind.wrap_u64]
  omega

theorem or0 (n : Nat) (h : n < 1000000000) : bits .or .u64 0 (n : Int) = (n : Int) := by
  have := bits_or_u64_nat 0 n (by omega) (by omega)
  rw [Nat.zero_or] at this
  exact this

theorem andNot30 (n : Nat) (h : n < 1000000000) : bits .andNot .u64 (n : Int) 1073741823 = 0 := by
  show IntKind.u64.wrap ((BitVec.ofInt 64 (n : Int) &&& ~~~ BitVec.ofInt 64 (1073741823 : Int)).toNat : Int) = _
  have e : BitVec.ofInt 64 (n : Int) &&& ~~~ BitVec.ofInt 64 (1073741823 : Int) = 0#64 := by
    apply BitVec.eq_of_toNat_eq
    rw [BitVec.toNat_and, ofInt_nat n (by omega), show (~~~ BitVec.ofInt 64 (1073741823 : Int)).toNat = 2 ^ 64 - 2 ^ 30 by decide]
    apply Nat.eq_of_testBit_eq
    intro i
    rw [Nat.testBit_and]
    by_cases hi : i < 30
    · have : (2 ^ 64 - 2 ^ 30 : Nat).testBit i = false := by
        rw [show (2 ^ 64 - 2 ^ 30 : Nat) = 2 ^ 30 * (2 ^ 34 - 1) by decide, Nat.testBit_two_pow_mul]
        simp; omega
      rw [this]; simp
    · rw [Nat.testBit_lt_two_pow (Nat.lt_of_lt_of_le (Nat.lt_of_lt_of_le h (by decide : 1000000000 ≤ 2 ^ 30)) (Nat.pow_le_pow_right (by decide) (by omega)))]
      simp
  rw [e]; rfl

/-- A time without a monotonic reading: a nanoseconds from the zero time. -/
def tmCells (n : Nat) (s : Int) : Array Value := #[.int .u64 n, .int .i64 s, .pointer none]

set_option maxRecDepth 100000 in
set_option maxHeartbeats 400000 in
theorem add_mid (n n' : Nat) (s d q t r : Int) (w : World) (h1 : n < 1000000000) (h1' : n' < 1000000000) (hs0 : -50000000000 ≤ s) (hs1 : s ≤ 50000000000) (ht0 : -10000000000 ≤ t) (ht1 : t ≤ 10000000000)
    (hq : d.tdiv 1000000000 = q) (hr : d.tmod 1000000000 = r) (hr0 : -1000000000 < r) (hr1 : r < 1000000000) (hm : (n : Int) + r = n') (hqt : q = t) :
    Calls Try.prog 27 #[.agg (tmCells n s), .int .i64 d] w fun e w' => e = .returned (.agg (tmCells n' (s + t))) ∧ Below w.heap.size w w' := by
  have k1 := mask30 n h1
  have k2 := mono0 n h1
  have k3 := or0 n' h1'
  have k4 := andNot30 n h1
  have k5 := mono0 n' h1'
  have g1 : ¬ (1000000000 : Int) ≤ (n' : Int) := by omega
  have g2 : ¬ (n' : Int) < 0 := by omega
  unfold tmCells
  by_cases ht2 : 0 < t
  all_goals
    first | (have hgt : s < s + t := by omega) | (have hgt : ¬ s < s + t := by omega)
    go_enter Try.func27, Try.ntmps27
    go_wp2
    go_end0
    go_wp2
    exact bodyPost_ret (v := .agg #[.int .u64 n', .int .i64 (s + t), .pointer none]) (by simp [results, Try.results27, go_sem]) rfl ⟨rfl, ((Below.refl _ _).alloc (Nat.le_refl _) _).alloc (by simp) _⟩

set_option maxRecDepth 100000 in
set_option maxHeartbeats 400000 in
theorem add_up (n n' : Nat) (s d q t r : Int) (w : World) (h1 : n < 1000000000) (h1' : n' < 1000000000) (hs0 : -50000000000 ≤ s) (hs1 : s ≤ 50000000000) (ht0 : -10000000000 ≤ t) (ht1 : t ≤ 10000000000)
    (hq : d.tdiv 1000000000 = q) (hr : d.tmod 1000000000 = r) (hr0 : -1000000000 < r) (hr1 : r < 1000000000) (hm : (n : Int) + r - 1000000000 = n') (hqt : q + 1 = t) :
    Calls Try.prog 27 #[.agg (tmCells n s), .int .i64 d] w fun e w' => e = .returned (.agg (tmCells n' (s + t))) ∧ Below w.heap.size w w' := by
  have k1 := mask30 n h1
  have k2 := mono0 n h1
  have k3 := or0 n' h1'
  have k4 := andNot30 n h1
  have k5 := mono0 n' h1'
  have g1 : (1000000000 : Int) ≤ (n : Int) + r := by omega
  unfold tmCells
  by_cases ht2 : 0 < t
  all_goals
    first | (have hgt : s < s + t := by omega) | (have hgt : ¬ s < s + t := by omega)
    go_enter Try.func27, Try.ntmps27
    go_wp2
    go_end0
    go_wp2
    exact bodyPost_ret (v := .agg #[.int .u64 n', .int .i64 (s + t), .pointer none]) (by simp [results, Try.results27, go_sem]) rfl ⟨rfl, ((Below.refl _ _).alloc (Nat.le_refl _) _).alloc (by simp) _⟩

set_option maxRecDepth 100000 in
set_option maxHeartbeats 400000 in
theorem add_down (n n' : Nat) (s d q t r : Int) (w : World) (h1 : n < 1000000000) (h1' : n' < 1000000000) (hs0 : -50000000000 ≤ s) (hs1 : s ≤ 50000000000) (ht0 : -10000000000 ≤ t) (ht1 : t ≤ 10000000000)
    (hq : d.tdiv 1000000000 = q) (hr : d.tmod 1000000000 = r) (hr0 : -1000000000 < r) (hr1 : r < 1000000000) (hm : (n : Int) + r + 1000000000 = n') (hqt : q - 1 = t) :
    Calls Try.prog 27 #[.agg (tmCells n s), .int .i64 d] w fun e w' => e = .returned (.agg (tmCells n' (s + t))) ∧ Below w.heap.size w w' := by
  have k1 := mask30 n h1
  have k2 := mono0 n h1
  have k3 := or0 n' h1'
  have k4 := andNot30 n h1
  have k5 := mono0 n' h1'
  have g1 : ¬ (1000000000 : Int) ≤ (n : Int) + r := by omega
  have g2 : (n : Int) + r < 0 := by omega
  unfold tmCells
  by_cases ht2 : 0 < t
  all_goals
    first | (have hgt : s < s + t := by omega) | (have hgt : ¬ s < s + t := by omega)
    go_enter Try.func27, Try.ntmps27
    go_wp2
    go_end0
    go_wp2
    exact bodyPost_ret (v := .agg #[.int .u64 n', .int .i64 (s + t), .pointer none]) (by simp [results, Try.results27, go_sem]) rfl ⟨rfl, ((Below.refl _ _).alloc (Nat.le_refl _) _).alloc (by simp) _⟩

/-- The time that lies a nanoseconds behind the zero time. -/
def tm (a : Int) : Array Value := tmCells (a % 1000000000).toNat (a / 1000000000)

theorem tm_cells (a : Int) : tm a = #[.int .u64 (a % 1000000000), .int .i64 (a / 1000000000), .pointer none] := by
  unfold tm tmCells
  rw [Int.toNat_of_nonneg (by omega)]

theorem add27 (a d : Int) (w : World) (ha0 : -9300000000000000000 ≤ a) (ha1 : a ≤ 9300000000000000000) (hd0 : -9223372036854775808 ≤ d) (hd1 : d ≤ 9223372036854775807) :
    Calls Try.prog 27 #[.agg (tm a), .int .i64 d] w fun e w' => e = .returned (.agg (tm (a + d))) ∧ Below w.heap.size w w' := by
  have e1 := Int.mul_tdiv_add_tmod d 1000000000
  have r0 : -1000000000 < d.tmod 1000000000 := by have := Int.lt_tmod_of_pos d (show (0 : Int) < 1000000000 by omega); omega
  have r1 : d.tmod 1000000000 < 1000000000 := Int.tmod_lt_of_pos d (by omega)
  generalize hq : d.tdiv 1000000000 = q at e1
  generalize hr : d.tmod 1000000000 = r at e1 r0 r1
  have hn : (((a % 1000000000).toNat : Nat) : Int) = a % 1000000000 := Int.toNat_of_nonneg (by omega)
  have hn' : ((((a + d) % 1000000000).toNat : Nat) : Int) = (a + d) % 1000000000 := Int.toNat_of_nonneg (by omega)
  unfold tm
  rcases (show ((a % 1000000000) + r = (a + d) % 1000000000 ∧ (a + d) / 1000000000 = a / 1000000000 + q) ∨ ((a % 1000000000) + r - 1000000000 = (a + d) % 1000000000 ∧ (a + d) / 1000000000 = a / 1000000000 + (q + 1)) ∨ ((a % 1000000000) + r + 1000000000 = (a + d) % 1000000000 ∧ (a + d) / 1000000000 = a / 1000000000 + (q - 1)) from by omega) with ⟨h, h'⟩ | ⟨h, h'⟩ | ⟨h, h'⟩
  · rw [h']
    exact add_mid _ _ _ d q q r w (by omega) (by omega) (by omega) (by omega) (by omega) (by omega) hq hr r0 r1 (by omega) rfl
  · rw [h']
    exact add_up _ _ _ d q _ r w (by omega) (by omega) (by omega) (by omega) (by omega) (by omega) hq hr r0 r1 (by omega) rfl
  · rw [h']
    exact add_down _ _ _ d q _ r w (by omega) (by omega) (by omega) (by omega) (by omega) (by omega) hq hr r0 r1 (by omega) rfl
end Go.Proofs.Qxb6604397a
