/-
  Seat b6603649a. The small functions of the two 'Behind' laws: b1IsHeap (15), b1AllAfter (16), the two byte bounds (14, 21).
-/
import Derived.Test.Qxb6603649aRows
import Derived.WalkKit
import Derived.ProofKit
import Derived.WalkSpells
import Derived.WalkLawsBesides
import Derived.BigQuiet
import Derived.Deep.QuietTactic
import Derived.Below
namespace Go.Proofs.Qxb6603649a
open Go.RowKit

/-- A slice of int64 of 'len' elements whose first numbers are those of zs. -/
def RowI (w : World) (a : Option Addr) (len : Nat) (zs : List Int) : Prop :=
  0 < len → ∃ b off, a = some ⟨b, off, none⟩ ∧ b < w.heap.size ∧ ∀ j, j < len → w.cell? ⟨b, off + j, none⟩ = some (.int .i64 (zs.getD j 0))

theorem wrapI (n : Int) (h : -9223372036854775808 ≤ n ∧ n ≤ 9223372036854775807) : IntKind.i64.wrap n = n := by
  simp [IntKind.wrap, IntKind.bits, IntKind.signed]; omega

/-- What b1AllAfter says where it says yes. -/
def AfterPost (len : Nat) (zs : List Int) (u : Int) (e : Ending) : Prop :=
  ∃ r : Bool, e = .returned (.bool r) ∧ (r = true → ∀ j, j < len → u < zs.getD j 0)

/-- What b1IsHeap says where it says yes. -/
def HeapPost (len : Nat) (zs : List Int) (e : Ending) : Prop :=
  ∃ r : Bool, e = .returned (.bool r) ∧ (r = true → ∀ j, 1 ≤ j → j < len → zs.getD ((j - 1) / 2) 0 ≤ zs.getD j 0)

set_option maxRecDepth 100000 in
theorem bytes21 (x u : Int) (a : Option Addr) (len cap : Nat) (w : World) (hl : len ≤ 9223372036854775807) :
    Calls Try.prog 21 #[.int .u64 x, .int .i64 u, .slice a len cap] w fun e w' => e = .returned (.bool (decide (len ≤ 1048576))) ∧ w' = w := by
  by_cases h : len ≤ 1048576
  · have h1 : ¬ (1048576 : Int) < (len : Int) := by omega
    go_enter Try.func21, Try.ntmps21
    go_wp2
    go_ret
    exact ⟨by simp, rfl⟩
  · have h1 : (1048576 : Int) < (len : Int) := by omega
    go_enter Try.func21, Try.ntmps21
    go_wp2
    go_ret
    exact ⟨by simp [h], rfl⟩

set_option maxRecDepth 100000 in
theorem bytes14 (n : Bool) (x u : Int) (a : Option Addr) (len cap : Nat) (t : Int) (w : World) (hl : len ≤ 9223372036854775807) :
    Calls Try.prog 14 #[.bool n, .int .u64 x, .int .i64 u, .slice a len cap, .int .i64 t] w fun e w' => e = .returned (.bool (decide (len ≤ 1048576))) ∧ w' = w := by
  by_cases h : len ≤ 1048576
  · have h1 : ¬ (1048576 : Int) < (len : Int) := by omega
    go_enter Try.func14, Try.ntmps14
    go_wp2
    go_ret
    exact ⟨by simp, rfl⟩
  · have h1 : (1048576 : Int) < (len : Int) := by omega
    go_enter Try.func14, Try.ntmps14
    go_wp2
    go_ret
    exact ⟨by simp [h], rfl⟩

set_option maxRecDepth 100000 in
theorem allAfter (a : Option Addr) (len cap : Nat) (zs : List Int) (u : Int) (w : World) (hl : len ≤ 1048576) (hr : RowI w a len zs) :
    Calls Try.prog 16 #[.slice a len cap, .int .i64 u] w fun e w' => AfterPost len zs u e ∧ w' = w := by
  by_cases h0 : len = 0
  · subst h0
    go_enter Try.func16, Try.ntmps16
    go_wp2
    refine wp_loop_rounds 1 ?_
    rw [rounds_succ]
    go_wp2
    go_ret
    exact ⟨⟨true, rfl, fun _ j hj => by omega⟩, rfl⟩
  · obtain ⟨b, off, rfl, hb, hc'⟩ := hr (by omega)
    have HC : Hid (∀ j, j < len → w.cell? ⟨b, off + j, none⟩ = some (.int .i64 (zs.getD j 0))) := hc'
    clear hc' hr
    go_enter Try.func16, Try.ntmps16
    go_wp2
    go_loop [5] (fun i => ∃ k : Nat, k ≤ len ∧ i = .int .i64 k ∧ ∀ j, j < k → u < zs.getD j 0) (fun i => len - (intOf i).toNat)
    case atStart => exact ⟨0, Nat.zero_le _, rfl, fun j hj => by omega⟩
    case round =>
      obtain ⟨k, hk, rfl, hall⟩ := hrel
      have HA : Hid (∀ j, j < k → u < zs.getD j 0) := hall
      clear hall
      by_cases hlt : k < len
      · have hck := HC.out k hlt
        obtain ⟨z, hz⟩ : ∃ z, z = zs.getD k 0 := ⟨_, rfl⟩
        rw [← hz] at hck
        have HZ : Hid (z = zs.getD k 0) := hz
        clear hz
        by_cases hu : z ≤ u
        · go_wp2
          go_ret
          exact ⟨⟨false, rfl, fun h => by cases h⟩, rfl⟩
        · go_wp2
          go_round
          case rel =>
            refine ⟨k + 1, by omega, by go_num, fun j hj => ?_⟩
            by_cases e : j = k
            · subst e; rw [← HZ.out]; omega
            · exact HA.out j (by omega)
          case measure => simp [intOf]; omega
      · have : k = len := by omega
        subst this
        go_wp2
        go_ret
        exact ⟨⟨true, rfl, fun _ => HA.out⟩, rfl⟩

set_option maxRecDepth 100000 in
theorem isHeap (a : Option Addr) (len cap : Nat) (zs : List Int) (w : World) (hl : len ≤ 1048576) (hr : RowI w a len zs) :
    Calls Try.prog 15 #[.slice a len cap] w fun e w' => HeapPost len zs e ∧ ∃ n, w' = w.drewN n := by
  by_cases h0 : len = 0
  · subst h0
    go_enter Try.func15, Try.ntmps15
    go_wp2
    refine wp_loop_rounds 1 ?_
    rw [rounds_succ]
    go_wp2
    go_ret
    exact ⟨⟨true, rfl, fun _ j hj => by omega⟩, 0, rfl⟩
  · obtain ⟨b, off, rfl, hb, hc'⟩ := hr (by omega)
    have HC : Hid (∀ j, j < len → w.cell? ⟨b, off + j, none⟩ = some (.int .i64 (zs.getD j 0))) := hc'
    clear hc' hr
    go_enter Try.func15, Try.ntmps15
    go_wp2
    go_loopw [3] (fun i wr => ∃ k : Nat, 1 ≤ k ∧ k ≤ len ∧ i = .int .i64 k ∧ (∀ j, 1 ≤ j → j < k → zs.getD ((j - 1) / 2) 0 ≤ zs.getD j 0) ∧ ∃ n, wr = w.drewN n) (fun i _ => len - (intOf i).toNat)
    case atStart => exact ⟨1, by omega, by omega, rfl, fun j h1 hj => by omega, 0, rfl⟩
    case round =>
      obtain ⟨k, hk1, hk, rfl, hall, nd, rfl⟩ := hrel
      have HA : Hid (∀ j, 1 ≤ j → j < k → zs.getD ((j - 1) / 2) 0 ≤ zs.getD j 0) := hall
      clear hall
      by_cases hlt : k < len
      · obtain ⟨p, hp⟩ : ∃ p, p = (k - 1) / 2 := ⟨_, rfl⟩
        have hpl : p < len := by omega
        have hck : w.cell? ⟨b, off + k, none⟩ = some (.int .i64 (zs.getD k 0)) := HC.out k hlt
        have hcp : w.cell? ⟨b, off + p, none⟩ = some (.int .i64 (zs.getD p 0)) := HC.out p hpl
        obtain ⟨zk, hzk⟩ : ∃ z, z = zs.getD k 0 := ⟨_, rfl⟩
        obtain ⟨zp, hzp⟩ : ∃ z, z = zs.getD p 0 := ⟨_, rfl⟩
        rw [← hzk] at hck
        rw [← hzp] at hcp
        have e1 : IntKind.i64.wrap ((k : Int) - 1) = ((k - 1 : Nat) : Int) := by rw [wrapI _ (by omega)]; omega
        have e3 : IntKind.i64.wrap (((k - 1 : Nat) : Int) / 2) = (p : Int) := by rw [wrapI _ (by omega)]; omega
        have HK : Hid (zk = zs.getD k 0) := hzk
        have HP : Hid (zp = zs.getD ((k - 1) / 2) 0) := by rw [hzp, hp]; rfl
        clear hzk hzp hp
        by_cases hu : zk < zp
        · go_wp2
          go_quiet (fail)
          go_wp2
          go_ret
          exact ⟨⟨false, rfl, fun h => by cases h⟩, _, World.drewN_drewN _ _ _⟩
        · go_wp2
          go_quiet (fail)
          go_wp2
          go_roundw
          case rel =>
            refine ⟨k + 1, by omega, by omega, by go_num, fun j h1 hj => ?_, _, rfl⟩
            by_cases e : j = k
            · subst e; rw [← HP.out, ← HK.out]; omega
            · exact HA.out j h1 (by omega)
          case measure => simp [intOf]; omega
      · have : k = len := by omega
        subst this
        go_wp2
        go_ret
        exact ⟨⟨true, rfl, fun _ => HA.out⟩, _, rfl⟩
end Go.Proofs.Qxb6603649a
