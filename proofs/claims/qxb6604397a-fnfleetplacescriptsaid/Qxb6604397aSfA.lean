/-
  Seat b6604397a. The script's small functions: zzBytes (10), zzUrgent (29), zzSameF (30).
-/
import Derived.Test.Qxb6604397aFtA
import Derived.Test.Qxb6604397aFlA
namespace Go.Proofs.Qxb6604397a
open Go.RowKit

/-- One call of the script. -/
structure PC where
  r : Int
  e : Int
  l : Int
  d : Int
  s : Int
  u : Nat

def pcL (c : PC) : List Value := [.int .i64 c.r, .int .i64 c.e, .int .i64 c.l, .int .i64 c.d, .int .i64 c.s, .float .f64 c.u]
def pcA (c : PC) : Array Value := #[.int .i64 c.r, .int .i64 c.e, .int .i64 c.l, .int .i64 c.d, .int .i64 c.s, .float .f64 c.u]

set_option maxRecDepth 100000 in
theorem bytes10 (pa : Option Addr) (n cap : Nat) (w : World) (hn : n ≤ 9223372036854775807) : Calls Try.prog 10 #[.slice pa n cap] w fun e w' => e = .returned (.bool (decide (n ≤ 1048576))) ∧ w' = w := by
  by_cases h : n ≤ 1048576
  · have h1 : ¬ (n : Int) > 1048576 := by omega
    have h2 : IntKind.i64.wrap (n : Int) = n := by
      simp only [IntKind.wrap, IntKind.bits, IntKind.signed]; simp; omega
    rw [decide_eq_true h]
    go_enter Try.func10, Try.ntmps10
    go_wp2
    go_ret
    exact ⟨rfl, rfl⟩
  · have h1 : (n : Int) > 1048576 := by omega
    rw [decide_eq_false h]
    go_enter Try.func10, Try.ntmps10
    go_wp2
    go_ret
    exact ⟨rfl, rfl⟩

set_option maxRecDepth 100000 in
theorem urgent29 (r e l d s : Int) (u : Nat) (w : World) (he : In61 e) (hl : In61 l) :
    Calls Try.prog 29 #[.agg #[.int .i64 r, .int .i64 e, .int .i64 l, .int .i64 d, .int .i64 s, .float .f64 u]] w fun q w' => q = .returned (.bool (decide (l - e = d))) ∧ Below w.heap.size w w' := by
  have z : IntKind.i64.wrap (l - e) = l - e := by
    unfold In61 at he hl
    simp only [IntKind.wrap, IntKind.bits, IntKind.signed]; simp; omega
  clear he hl
  go_enter Try.func29, Try.ntmps29
  go_wp2
  go_ret
  exact ⟨rfl, (Below.refl _ _).alloc (Nat.le_refl _) _⟩

/-- What zzSameF says. -/
def sameF (a b : Nat) : Bool := FloatKind.f64.format.order a b == some .eq || (FloatKind.f64.format.order a a != some .eq && FloatKind.f64.format.order b b != some .eq)

set_option maxRecDepth 100000 in
theorem sameF30 (a b : Nat) (w : World) : Calls Try.prog 30 #[.float .f64 a, .float .f64 b] w fun q w' => q = .returned (.bool (sameF a b)) ∧ w' = w := by
  cases h1 : FloatKind.f64.format.order a b == some .eq
  · cases h2 : FloatKind.f64.format.order a a != some .eq
    · have hs : sameF a b = false := by unfold sameF; rw [h1, h2]; rfl
      rw [hs]
      go_enter Try.func30, Try.ntmps30
      go_wp2
      go_ret
      exact ⟨rfl, rfl⟩
    · have hs : sameF a b = (FloatKind.f64.format.order b b != some .eq) := by unfold sameF; rw [h1, h2]; simp
      rw [hs]
      go_enter Try.func30, Try.ntmps30
      go_wp2
      go_ret
      exact ⟨rfl, rfl⟩
  · have hs : sameF a b = true := by unfold sameF; rw [h1]; rfl
    rw [hs]
    go_enter Try.func30, Try.ntmps30
    go_wp2
    go_ret
    exact ⟨rfl, rfl⟩
end Go.Proofs.Qxb6604397a
