/-
  Seat b6604397a. The small functions of the two 'ReserveAt' laws: floorMod (31), math.IsNaN (32), zzReads (9), (*reserve).at (25), ZZreserveAt (8).
-/
import Derived.Test.Qxb6604397aRows
import Derived.WalkKit
import Derived.ProofKit
import Derived.WalkSpells
import Derived.WalkLawsBesides
import Derived.BigQuiet
import Derived.Deep.QuietTactic
import Derived.Below
import Derived.Laws.Tables
namespace Go.Proofs.Qxb6604397a
open Go.RowKit

theorem hid {p : Prop} (h : p) : Hid p := h

theorem size23 : (Try.prog.info? 23).map (·.size) = some 1440 := by kernel_rfl

/-- Is this number no number? -/
def nan (x : Nat) : Bool := FloatKind.f64.format.order x x != some Ordering.eq

theorem mod_neg {a : Int} {k : Nat} (hk : a % 1440 = k) (hm : a.tmod 1440 < 0) : wrap64 (a.tmod 1440 + 1440) = k := by
  have h1 : a.tmod 1440 = a % 1440 ∨ a.tmod 1440 = a % 1440 - 1440 := by
    rw [Int.tmod_eq_emod]
    split
    · left; simp
    · right; rfl
  have h2 : 0 ≤ a % 1440 ∧ a % 1440 < 1440 := by omega
  unfold wrap64
  omega
theorem mod_pos {a : Int} {k : Nat} (hk : a % 1440 = k) (hm : ¬ a.tmod 1440 < 0) : a.tmod 1440 = k := by
  have h1 : a.tmod 1440 = a % 1440 ∨ a.tmod 1440 = a % 1440 - 1440 := by
    rw [Int.tmod_eq_emod]
    split
    · left; simp
    · right; rfl
  omega

set_option maxRecDepth 100000 in
theorem floorMod (a : Int) (k : Nat) (w : World) (hk : a % 1440 = k) :
    Calls Try.prog 31 #[.int .i64 a, .int .i64 1440] w fun e w' => e = .returned (.int .i64 k) ∧ w' = w := by
  have HK := hid hk
  clear hk
  by_cases hm : a.tmod 1440 < 0
  · go_enter Try.func31, Try.ntmps31
    go_wp2
    go_ret
    exact ⟨congrArg (fun z => Ending.returned (.int .i64 z)) (mod_neg HK.out hm), rfl⟩
  · go_enter Try.func31, Try.ntmps31
    go_wp2
    go_ret
    exact ⟨congrArg (fun z => Ending.returned (.int .i64 z)) (mod_pos HK.out (by omega)), rfl⟩

set_option maxRecDepth 100000 in
theorem isNaN (x : Nat) (w : World) : Calls Try.prog 32 #[.float .f64 x] w fun e w' => e = .returned (.bool (nan x)) ∧ w' = w := by
  go_enter Try.func32, Try.ntmps32
  go_wp2
  go_ret
  exact ⟨rfl, rfl⟩

set_option maxRecDepth 100000 in
theorem reads_nan (x : Nat) (w : World) (h : nan x = true) : Calls Try.prog 9 #[.float .f64 x, .float .f64 0, .bool false] w fun e w' => e = .returned (.bool true) ∧ w' = w := by
  have h' : (FloatKind.f64.format.order x x != some Ordering.eq) = true := h
  have h0 : FloatKind.f64.format.order 0 0 = some Ordering.eq := by decide +kernel
  clear h
  go_enter Try.func9, Try.ntmps9
  go_wp2
  all_goals go_ret
  all_goals exact ⟨rfl, rfl⟩

set_option maxRecDepth 100000 in
theorem reads_num (x : Nat) (w : World) (h : nan x = false) : Calls Try.prog 9 #[.float .f64 x, .float .f64 x, .bool true] w fun e w' => e = .returned (.bool true) ∧ w' = w := by
  have h' : FloatKind.f64.format.order x x = some Ordering.eq := by simpa [nan] using h
  clear h
  go_enter Try.func9, Try.ntmps9
  go_wp2
  all_goals go_ret
  all_goals exact ⟨rfl, rfl⟩

/-- What the reserve answers where it remembers x. -/
def ansV (x : Nat) : Nat := if nan x then 0 else x

set_option maxRecDepth 100000 in
theorem at25 (R : Nat) (m : Int) (k x : Nat) (w : World) (hk : m % 1440 = k) (hc : w.cell? ⟨R, 10080 + k, none⟩ = some (.float .f64 x)) :
    Calls Try.prog 25 #[.pointer (some ⟨R, 0, none⟩), .int .i64 m] w fun e w' => e = .returned (.tuple #[.float .f64 (ansV x), .bool (!nan x)]) ∧ ∃ n, w' = w.drewN n := by
  have hkl : (k : Int) < 1440 := by omega
  have HK := hid hk
  clear hk
  cases hn : nan x
  all_goals
    go_enter Try.func25, Try.ntmps25
    go_wp2
    go_quiet ((go_at_call 31; exact Calls.quiet_of_same (floorMod m k _ HK.out)))
    go_wp2_with (go_at_call 32; refine (isNaN _ _).mono ?_; rintro e w1 ⟨rfl, hw⟩; subst w1)
    go_ret2
    exact ⟨by simp [ansV, hn], _, rfl⟩
end Go.Proofs.Qxb6604397a
