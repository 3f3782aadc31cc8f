/-
  Seat b6604397a. package time: nsec (37), sec (41), addSec (38), Add (27), over times without a monotonic reading: '⟨n nanoseconds, s seconds⟩'.
-/
import Derived.Test.Qxb6604397aReA
import Derived.Laws.Bits64
namespace Go.Proofs.Qxb6604397a
open Go.RowKit

theorem ofInt_nat (a : Nat) (ha : a < 18446744073709551616) : (BitVec.ofInt 64 (a : Int)).toNat = a := by
  rw [BitVec.ofInt_natCast, BitVec.toNat_ofNat]; exact Nat.mod_eq_of_lt (by omega)

theorem bits_and_u64_nat (a b : Nat) (ha : a < 18446744073709551616) (hb : b < 18446744073709551616) : bits .and .u64 (a : Int) (b : Int) = ((a &&& b : Nat) : Int) := by
  have hx : a &&& b < 18446744073709551616 := Nat.lt_of_le_of_lt Nat.and_le_left ha
  show IntKind.u64.wrap ((BitVec.ofInt 64 (a : Int) &&& BitVec.ofInt 64 (b : Int)).toNat : Int) = _
  rw [BitVec.toNat_and, ofInt_nat a ha, ofInt_nat b hb, IntKind.wrap_u64]
  omega

theorem mask30 (n : Nat) (h : n < 1000000000) : bits .and .u64 (n : Int) 1073741823 = (n : Int) := by
  have := bits_and_u64_nat n 1073741823 (by omega) (by omega)
  have e : n &&& 1073741823 = n := by
    have := Nat.and_two_pow_sub_one_eq_mod n 30
    rw [show (2 : Nat) ^ 30 - 1 = 1073741823 by decide, show (2 : Nat) ^ 30 = 1073741824 by decide] at this
    rw [this]; omega
  rw [e] at this
  exact this

theorem mono0 (n : Nat) (h : n < 1000000000) : (bits .and .u64 (n : Int) 9223372036854775808 != 0) = false := by
  have := bits_and_u64_nat n 9223372036854775808 (by omega) (by omega)
  have e : n &&& 9223372036854775808 = 0 := by
    apply Nat.eq_of_testBit_eq
    intro i
    rw [show (9223372036854775808 : Nat) = 2 ^ 63 by decide, Nat.testBit_and, Nat.testBit_two_pow, Nat.zero_testBit]
    by_cases hi : 63 = i
    · subst hi; rw [Nat.testBit_lt_two_pow (Nat.lt_of_lt_of_le h (by decide))]; rfl
    · simp [hi]
  rw [e] at this
  rw [show (9223372036854775808 : Int) = ((9223372036854775808 : Nat) : Int) from rfl, this]
  rfl

set_option maxRecDepth 100000 in
theorem nsec (B n : Nat) (w : World) (h1 : n < 1000000000) (hc : w.cell? ⟨B, 0, none⟩ = some (.int .u64 n)) :
    Calls Try.prog 37 #[.pointer (some ⟨B, 0, none⟩)] w fun e w' => e = .returned (.int .i32 n) ∧ w' = w := by
  have hm := mask30 n h1
  go_enter Try.func37, Try.ntmps37
  go_wp2
  go_ret
  exact ⟨rfl, rfl⟩

set_option maxRecDepth 100000 in
theorem sec (B n : Nat) (s : Int) (w : World) (h1 : n < 1000000000) (hc : w.cell? ⟨B, 0, none⟩ = some (.int .u64 n)) (hc1 : w.cell? ⟨B, 1, none⟩ = some (.int .i64 s)) :
    Calls Try.prog 41 #[.pointer (some ⟨B, 0, none⟩)] w fun e w' => e = .returned (.int .i64 s) ∧ w' = w := by
  have hm := mono0 n h1
  go_enter Try.func41, Try.ntmps41
  go_wp2
  go_ret
  exact ⟨rfl, rfl⟩

set_option maxRecDepth 100000 in
theorem addSec (B n : Nat) (s d : Int) (w : World) (h1 : n < 1000000000) (hc : w.cell? ⟨B, 0, none⟩ = some (.int .u64 n)) (hc1 : w.cell? ⟨B, 1, none⟩ = some (.int .i64 s)) (hf : w.frozen? ⟨B, 1, none⟩ = false)
    (hs0 : -100000000000 ≤ s) (hs1 : s ≤ 100000000000) (hd0 : -100000000000 ≤ d) (hd1 : d ≤ 100000000000) :
    Calls Try.prog 38 #[.pointer (some ⟨B, 0, none⟩), .int .i64 d] w fun e w' => e = .returned (.tuple #[]) ∧ w' = w.setCell ⟨B, 1, none⟩ (.int .i64 (s + d)) := by
  have hm := mono0 n h1
  by_cases hd : 0 < d
  · have hgt : s < s + d := by omega
    go_enter Try.func38, Try.ntmps38
    go_wp2
    go_end0
    exact ⟨rfl, rfl⟩
  · have hgt : ¬ s < s + d := by omega
    go_enter Try.func38, Try.ntmps38
    go_wp2
    go_end0
    exact ⟨rfl, rfl⟩
end Go.Proofs.Qxb6604397a
