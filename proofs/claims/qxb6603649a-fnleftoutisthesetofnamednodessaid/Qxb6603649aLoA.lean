/-
  Seat b6603649a. The small functions of the two 'LeftOut' laws: b1Add (22), b1Bytes (8), b1RefsReachable (9), the two byte bounds (7, 13).
-/
import Derived.Test.Qxb6603649aRows
import Derived.WalkKit
import Derived.ProofKit
import Derived.WalkSpells
import Derived.WalkLawsBesides
import Derived.BigQuiet
import Derived.Deep.QuietTactic
import Derived.Below
namespace Go.Proofs.Qxb6603649a
open Go.RowKit

theorem hid {p : Prop} (h : p) : Hid p := h

/-- The eighteen fields of a ConfigFields. -/
structure Cfg where
  s0 : ByteArray
  s1 : ByteArray
  n2 : Int
  n3 : Int
  s4 : ByteArray
  n5 : Int
  n6 : Int
  b7 : Bool
  b8 : Bool
  b9 : Bool
  n10 : Int
  b11 : Bool
  n12 : Int
  n13 : Int
  n14 : Int
  s15 : ByteArray
  b16 : Bool
  b17 : Bool

def Cfg.cells (c : Cfg) : Array Value :=
  #[.string c.s0, .string c.s1, .int .u64 c.n2, .int .u64 c.n3, .string c.s4, .int .u64 c.n5, .int .i64 c.n6, .bool c.b7, .bool c.b8, .bool c.b9,
    .int .u64 c.n10, .bool c.b11, .int .u64 c.n12, .int .u64 c.n13, .int .u64 c.n14, .string c.s15, .bool c.b16, .bool c.b17]

/-- Its four strings are no longer than a string can be. -/
structure Cfg.Ok (c : Cfg) : Prop where
  h0 : c.s0.size ≤ 9223372036854775807
  h1 : c.s1.size ≤ 9223372036854775807
  h4 : c.s4.size ≤ 9223372036854775807
  h15 : c.s15.size ≤ 9223372036854775807

/-- A slice of strings of 'len' elements whose first strings are those of ss. -/
def RowS (w : World) (a : Option Addr) (len : Nat) (ss : List ByteArray) : Prop :=
  0 < len → ∃ b off, a = some ⟨b, off, none⟩ ∧ b < w.heap.size ∧ ∀ j, j < len → w.cell? ⟨b, off + j, none⟩ = some (.string (ss.getD j ByteArray.empty)) ∧ (ss.getD j ByteArray.empty).size ≤ 9223372036854775807

theorem RowS.below {w w' : World} {a : Option Addr} {len : Nat} {ss : List ByteArray} (h : RowS w a len ss) (hb : Below w.heap.size w w') : RowS w' a len ss := by
  intro hp
  obtain ⟨b, off, rfl, hlt, hc⟩ := h hp
  exact ⟨b, off, rfl, Nat.lt_of_lt_of_le hlt hb.size, fun j hj => ⟨by rw [hb.cell (by exact hlt)]; exact (hc j hj).1, (hc j hj).2⟩⟩

def SomeInt (e : Ending) : Prop := ∃ r : Int, e = .returned (.int .i64 r) ∧ 0 ≤ r ∧ r ≤ 1048577
def SomeBool (e : Ending) : Prop := ∃ r : Bool, e = .returned (.bool r)

set_option maxRecDepth 100000 in
theorem add22 (t n : Int) (w : World) (h0 : 0 ≤ t) (h1 : t ≤ 1048577) (hn0 : 0 ≤ n) (hn1 : n ≤ 9223372036854775807) :
    Calls Try.prog 22 #[.int .i64 t, .int .i64 n] w fun e w' => SomeInt e ∧ w' = w := by
  by_cases ha : 1048576 < n
  · go_enter Try.func22, Try.ntmps22
    go_wp2
    go_ret
    exact ⟨⟨_, rfl, by omega, by omega⟩, rfl⟩
  · by_cases hb : 1048576 - n < t
    · go_enter Try.func22, Try.ntmps22
      go_wp2
      go_ret
      exact ⟨⟨_, rfl, by omega, by omega⟩, rfl⟩
    · go_enter Try.func22, Try.ntmps22
      go_wp2
      go_ret
      exact ⟨⟨_, rfl, by omega, by omega⟩, rfl⟩

set_option maxRecDepth 100000 in
theorem refs9 (c : Cfg) (w : World) : Calls Try.prog 9 #[.agg c.cells] w fun e w' => SomeBool e ∧ Below w.heap.size w w' := by
  unfold Cfg.cells
  obtain ⟨s0, s1, n2, n3, s4, n5, n6, b7, b8, b9, n10, b11, n12, n13, n14, s15, b16, b17⟩ := c
  by_cases hq : (n6 == 0) = true
  all_goals
    first | (have hq' : (n6 == 0) = true := hq) | (have hq' : (n6 == 0) = false := by simpa using hq)
    clear hq
    cases b7 <;> cases b16
    all_goals
      go_enter Try.func9, Try.ntmps9
      go_wp2
      go_ret
      exact ⟨⟨_, rfl⟩, (Below.refl _ _).alloc (Nat.le_refl _) _⟩
set_option maxRecDepth 100000 in
set_option maxHeartbeats 2000000 in
theorem bytes7 (c : Cfg) (hc : c.Ok) (a : Option Addr) (len cap : Nat) (ss : List ByteArray) (w : World) (hm : len ≤ 9223372036854775807) (hr : RowS w a len ss) :
    Calls Try.prog 7 #[.agg c.cells, .slice a len cap] w fun e w' => SomeBool e ∧ Below w.heap.size w w' := by
  unfold Cfg.cells
  obtain ⟨h0, h1, h4, h15⟩ := hc
  by_cases hz : len = 0
  · subst hz
    go_enter Try.func7, Try.ntmps7
    go_wp2
    all_goals first
      | (go_ret; exact ⟨⟨_, rfl⟩, (Below.refl _ _).alloc (Nat.le_refl _) _⟩)
      | (refine wp_loop_rounds 1 ?_; rw [rounds_succ]; go_wp2; all_goals (go_ret; exact ⟨⟨_, rfl⟩, (Below.refl _ _).alloc (Nat.le_refl _) _⟩))
  · obtain ⟨b, off, rfl, hb, hc'⟩ := hr (by omega)
    have HC := hid hc'
    clear hc' hr
    go_enter Try.func7, Try.ntmps7
    go_wp2
    all_goals first
      | (go_ret; exact ⟨⟨_, rfl⟩, (Below.refl _ _).alloc (Nat.le_refl _) _⟩)
      | skip
    go_loop [5, 6] (fun t i => ∃ (k : Nat) (y : Int), k ≤ len ∧ i = .int .i64 k ∧ t = .int .i64 y ∧ 0 ≤ y ∧ y ≤ 1048576) (fun _ i => len - (intOf i).toNat)
    case atStart => exact ⟨0, _, by omega, rfl, rfl, by omega, by omega⟩
    case round =>
      obtain ⟨k, y, hk, rfl, rfl, hy0, hy1⟩ := hrel
      by_cases hlt : k < len
      · obtain ⟨sk, hsk⟩ : ∃ z, z = ss.getD k ByteArray.empty := ⟨_, rfl⟩
        have hck : (w.alloc (.cells #[Value.string c.s0, Value.string c.s1, Value.int IntKind.u64 c.n2, Value.int IntKind.u64 c.n3, Value.string c.s4, Value.int IntKind.u64 c.n5, Value.int IntKind.i64 c.n6, Value.bool c.b7, Value.bool c.b8, Value.bool c.b9, Value.int IntKind.u64 c.n10, Value.bool c.b11, Value.int IntKind.u64 c.n12, Value.int IntKind.u64 c.n13, Value.int IntKind.u64 c.n14, Value.string c.s15, Value.bool c.b16, Value.bool c.b17] 24)).cell? ⟨b, off + k, none⟩ = some (.string sk) := by
          rw [World.cell?_of_block (w := w) (Below.heap_alloc _ _ _ (by exact hb)), (HC.out k hlt).1, hsk]
        have hsz : sk.size ≤ 9223372036854775807 := by rw [hsk]; exact (HC.out k hlt).2
        clear hsk
        go_wp2
        all_goals first
          | (go_ret; exact ⟨⟨_, rfl⟩, (Below.refl _ _).alloc (Nat.le_refl _) _⟩)
          | skip
        go_round
        case rel => exact ⟨k + 1, _, by omega, by go_num, rfl, by omega, by omega⟩
        case measure => simp [intOf]; omega
      · have hkl : k = len := by omega
        clear hk
        subst hkl
        go_wp2
        all_goals go_ret
        all_goals exact ⟨⟨_, rfl⟩, (Below.refl _ _).alloc (Nat.le_refl _) _⟩
set_option maxRecDepth 100000 in
set_option maxHeartbeats 2000000 in
theorem bytes13 (c : Cfg) (hc : c.Ok) (a : Option Addr) (len cap : Nat) (ss : List ByteArray) (pr : ByteArray) (hp : pr.size ≤ 9223372036854775807) (w : World) (hm : len ≤ 9223372036854775807) (hr : RowS w a len ss) :
    Calls Try.prog 13 #[.agg c.cells, .slice a len cap, .string pr] w fun e w' => SomeBool e ∧ Below w.heap.size w w' := by
  unfold Cfg.cells
  obtain ⟨h0, h1, h4, h15⟩ := hc
  by_cases hz : len = 0
  · subst hz
    go_enter Try.func13, Try.ntmps13
    go_wp2
    all_goals first
      | (go_ret; exact ⟨⟨_, rfl⟩, (Below.refl _ _).alloc (Nat.le_refl _) _⟩)
      | (refine wp_loop_rounds 1 ?_; rw [rounds_succ]; go_wp2; all_goals (go_ret; exact ⟨⟨_, rfl⟩, (Below.refl _ _).alloc (Nat.le_refl _) _⟩))
  · obtain ⟨b, off, rfl, hb, hc'⟩ := hr (by omega)
    have HC := hid hc'
    clear hc' hr
    go_enter Try.func13, Try.ntmps13
    go_wp2
    all_goals first
      | (go_ret; exact ⟨⟨_, rfl⟩, (Below.refl _ _).alloc (Nat.le_refl _) _⟩)
      | skip
    go_loop [7, 8] (fun t i => ∃ (k : Nat) (y : Int), k ≤ len ∧ i = .int .i64 k ∧ t = .int .i64 y ∧ 0 ≤ y ∧ y ≤ 1048576) (fun _ i => len - (intOf i).toNat)
    case atStart => exact ⟨0, _, by omega, rfl, rfl, by omega, by omega⟩
    case round =>
      obtain ⟨k, y, hk, rfl, rfl, hy0, hy1⟩ := hrel
      by_cases hlt : k < len
      · obtain ⟨sk, hsk⟩ : ∃ z, z = ss.getD k ByteArray.empty := ⟨_, rfl⟩
        have hck : (w.alloc (.cells #[Value.string c.s0, Value.string c.s1, Value.int IntKind.u64 c.n2, Value.int IntKind.u64 c.n3, Value.string c.s4, Value.int IntKind.u64 c.n5, Value.int IntKind.i64 c.n6, Value.bool c.b7, Value.bool c.b8, Value.bool c.b9, Value.int IntKind.u64 c.n10, Value.bool c.b11, Value.int IntKind.u64 c.n12, Value.int IntKind.u64 c.n13, Value.int IntKind.u64 c.n14, Value.string c.s15, Value.bool c.b16, Value.bool c.b17] 24)).cell? ⟨b, off + k, none⟩ = some (.string sk) := by
          rw [World.cell?_of_block (w := w) (Below.heap_alloc _ _ _ (by exact hb)), (HC.out k hlt).1, hsk]
        have hsz : sk.size ≤ 9223372036854775807 := by rw [hsk]; exact (HC.out k hlt).2
        clear hsk
        go_wp2
        all_goals first
          | (go_ret; exact ⟨⟨_, rfl⟩, (Below.refl _ _).alloc (Nat.le_refl _) _⟩)
          | skip
        go_round
        case rel => exact ⟨k + 1, _, by omega, by go_num, rfl, by omega, by omega⟩
        case measure => simp [intOf]; omega
      · have hkl : k = len := by omega
        clear hk
        subst hkl
        go_wp2
        all_goals go_ret
        all_goals exact ⟨⟨_, rfl⟩, (Below.refl _ _).alloc (Nat.le_refl _) _⟩

set_option maxRecDepth 100000 in
theorem bytes8 (c : Cfg) (hc : c.Ok) (a : Option Addr) (len cap : Nat) (ss : List ByteArray) (pr : ByteArray) (hp : pr.size ≤ 9223372036854775807) (w : World) (hm : len ≤ 1048576) (hr : RowS w a len ss) :
    Calls Try.prog 8 #[.agg c.cells, .slice a len cap, .string pr] w fun e w' => SomeInt e ∧ Below w.heap.size w w' := by
  unfold Cfg.cells
  obtain ⟨h0, h1, h4, h15⟩ := hc
  by_cases hz : len = 0
  · subst hz
    go_enter Try.func8, Try.ntmps8
    go_wp2_with (go_at_call 22; refine (add22 _ _ _ (by omega) (by omega) (by omega) (by omega)).mono ?_; rintro e w1 ⟨⟨r, rfl, hr0, hr1⟩, hw⟩; subst w1)
    refine wp_loop_rounds 1 ?_
    rw [rounds_succ]
    go_wp2
    go_ret
    exact ⟨⟨_, rfl, by omega, by omega⟩, (Below.refl _ _).alloc (Nat.le_refl _) _⟩
  · obtain ⟨b, off, rfl, hb, hc'⟩ := hr (by omega)
    have HC := hid hc'
    clear hc' hr
    go_enter Try.func8, Try.ntmps8
    go_wp2_with (go_at_call 22; refine (add22 _ _ _ (by omega) (by omega) (by omega) (by omega)).mono ?_; rintro e w1 ⟨⟨r, rfl, hr0, hr1⟩, hw⟩; subst w1)
    go_loop [7, 8] (fun t i => ∃ (k : Nat) (y : Int), k ≤ len ∧ i = .int .i64 k ∧ t = .int .i64 y ∧ 0 ≤ y ∧ y ≤ 1048577) (fun _ i => len - (intOf i).toNat)
    case atStart => exact ⟨0, _, by omega, rfl, rfl, by omega, by omega⟩
    case round =>
      obtain ⟨k, y, hk, rfl, rfl, hy0, hy1⟩ := hrel
      by_cases hlt : k < len
      · obtain ⟨sk, hsk⟩ : ∃ z, z = ss.getD k ByteArray.empty := ⟨_, rfl⟩
        have hck : (w.alloc (.cells #[Value.string c.s0, Value.string c.s1, Value.int IntKind.u64 c.n2, Value.int IntKind.u64 c.n3, Value.string c.s4, Value.int IntKind.u64 c.n5, Value.int IntKind.i64 c.n6, Value.bool c.b7, Value.bool c.b8, Value.bool c.b9, Value.int IntKind.u64 c.n10, Value.bool c.b11, Value.int IntKind.u64 c.n12, Value.int IntKind.u64 c.n13, Value.int IntKind.u64 c.n14, Value.string c.s15, Value.bool c.b16, Value.bool c.b17] 24)).cell? ⟨b, off + k, none⟩ = some (.string sk) := by
          rw [World.cell?_of_block (w := w) (Below.heap_alloc _ _ _ (by exact hb)), (HC.out k hlt).1, hsk]
        have hsz : sk.size ≤ 9223372036854775807 := by rw [hsk]; exact (HC.out k hlt).2
        clear hsk
        go_wp2_with (go_at_call 22; refine (add22 _ _ _ (by omega) (by omega) (by omega) (by omega)).mono ?_; rintro e w1 ⟨⟨r, rfl, hr0, hr1⟩, hw⟩; subst w1)
        go_round
        case rel => exact ⟨k + 1, _, by omega, by go_num, rfl, by omega, by omega⟩
        case measure => simp [intOf]; omega
      · have hkl : k = len := by omega
        clear hk
        subst hkl
        go_wp2
        go_ret
        exact ⟨⟨_, rfl, by omega, by omega⟩, (Below.refl _ _).alloc (Nat.le_refl _) _⟩
end Go.Proofs.Qxb6603649a
