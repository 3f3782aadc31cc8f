/-
  Seat b6603649a. b1CopyInts (17), (*queue).behind (26), ZZbehind (20), ZZnilQueue (18).
-/
import Derived.Test.Qxb6603649aBeA
namespace Go.Proofs.Qxb6603649a
open Go.RowKit

theorem info2 : (Try.prog.info? 2).map (fun i => (i.zero, i.size, i.bytes)) = some (some (.int .i64 0), 1, 8) := by kernel_rfl

/-- What the copy is: a slice of as many elements, in new memory (or nil), with the same numbers. -/
def CopyPost (len : Nat) (zs : List Int) (w : World) (e : Ending) (w' : World) : Prop :=
  ∃ a', e = .returned (.slice a' len len) ∧ RowI w' a' len zs ∧ Below w.heap.size w w'

set_option maxRecDepth 100000 in
theorem copyInts (a : Option Addr) (len cap : Nat) (zs : List Int) (w : World) (hl : len ≤ 1048576) (hn : a = none → len = 0) (hr : RowI w a len zs) :
    Calls Try.prog 17 #[.slice a len cap] w fun e w' => CopyPost len zs w e w' := by
  have hne := fun wx n c => Lib.run_eql_slice_nil (P := Try.prog) wx 44 2 a n c 0 0 Try.underlying44
  obtain ⟨i0, hi, hz0, hz1, hz2⟩ := info_parts info2
  cases a with
  | none =>
    obtain rfl := hn rfl
    go_enter Try.func17, Try.ntmps17
    go_wp2
    go_ret
    exact ⟨none, rfl, fun h => by omega, Below.refl _ _⟩
  | some ad =>
    by_cases h0 : len = 0
    · subst h0
      go_enter Try.func17, Try.ntmps17
      go_wp2_with (first
        | (at_make; refine wpList_make_full _ rfl _ _ 44 rfl w.heap.size 2 i0 (.int .i64 0) 1 Try.underlying44 hi hz0 hz1 _ _ _ _ 0 rfl rfl (by omega) (by omega) (by omega) (by unfold maxLen; omega) (Nat.le_refl _) ?_; intro w1 hown1 hgrow1))
      refine wp_loop_rounds 1 ?_
      rw [rounds_succ]
      go_wp2
      go_ret
      exact ⟨_, rfl, fun h => by omega, (Below.refl _ _).grown hgrow1 (Nat.le_refl _) (fun k hk => by cases hk)⟩
    · obtain ⟨b, off, hab, hb, hc'⟩ := hr (by omega)
      obtain rfl := Option.some.inj hab
      have HC : Hid (∀ j, j < len → w.cell? ⟨b, off + j, none⟩ = some (.int .i64 (zs.getD j 0))) := hc'
      clear hc' hr hab
      go_enter Try.func17, Try.ntmps17
      go_wp2_with (first
        | (at_make; refine wpList_make_full _ rfl _ _ 44 rfl w.heap.size 2 i0 (.int .i64 0) 1 Try.underlying44 hi hz0 hz1 _ _ _ _ len rfl rfl rfl rfl (by rw [hz2]; omega) (by unfold maxLen; omega) (Nat.le_refl _) ?_; intro w1 hown1 hgrow1))
      go_loopw [4] (fun i wr => ∃ k : Nat, k ≤ len ∧ i = .int .i64 k ∧ (∃ xs, wr.ownsRow w.heap.size 2 1 (.slice (some ⟨w.heap.size, 0, none⟩) len len) len xs ∧ ∀ j, j < k → xs[j]? = some (.int .i64 (zs.getD j 0))) ∧ Below w.heap.size w wr) (fun i _ => len - (intOf i).toNat)
      case atStart => exact ⟨0, Nat.zero_le _, rfl, ⟨_, hown1, fun j hj => by omega⟩, (Below.refl _ _).grown hgrow1 (Nat.le_refl _) (fun k hk => by cases hk)⟩
      case round =>
        obtain ⟨k, hk, rfl, ⟨xs, hown, hxs'⟩, hbel⟩ := hrel
        have HX : Hid (∀ j, j < k → xs[j]? = some (.int .i64 (zs.getD j 0))) := hxs'
        clear hxs' hown1 hgrow1
        by_cases hlt : k < len
        · obtain ⟨z, hz⟩ : ∃ z, z = zs.getD k 0 := ⟨_, rfl⟩
          have hck : wr.cell? ⟨b, off + k, none⟩ = some (.int .i64 z) := by rw [hbel.cell (by exact hb), HC.out k hlt, hz]
          have hlen : xs.length = len := by have := hown.1; omega
          have hfz := hown.frozenAt k
          have hcb := hown.cellAt k (by omega)
          rw [List.getElem?_eq_getElem (by omega)] at hcb
          obtain ⟨v0, hv0⟩ : ∃ v0, v0 = xs[k]'(by omega) := ⟨_, rfl⟩
          rw [← hv0] at hcb
          have HZ : Hid (z = zs.getD k 0) := hz
          clear hz hv0
          have HL : Hid (xs.length = len) := hlen
          clear hlen
          go_wp2
          go_roundw
          case rel =>
            have hst := hown.stored k (.int .i64 z)
            refine ⟨k + 1, by omega, by go_num, ⟨_, hst.1, fun j hj => ?_⟩, hbel.setCell (Nat.le_refl _) _⟩
            by_cases e : j = k
            · subst e; rw [List.getElem?_set_self (by rw [HL.out]; exact hlt), HZ.out]
            · rw [List.getElem?_set_ne (by omega)]; exact HX.out j (by omega)
          case measure => simp [intOf]; omega
        · have : k = len := by omega
          subst this
          go_wp2
          go_ret
          exact ⟨_, rfl, fun _ => ⟨_, 0, rfl, (hown.lt _ rfl).2, fun j hj => by rw [Nat.zero_add, hown.cellAt j (by omega)]; exact HX.out j hj⟩, hbel⟩

/-- The queue at block B waits for n jobs; the first of them, if there is one, has the deadline d0. -/
def QueueHas (w : World) (B n : Nat) (d0 : Int) : Prop :=
  ∃ a cap, w.cell? ⟨B, 6, none⟩ = some (.slice a n cap) ∧ (0 < n → ∃ g J, a = some ⟨g, 0, none⟩ ∧ w.cell? ⟨g, 0, none⟩ = some (.pointer (some ⟨J, 0, none⟩)) ∧ w.cell? ⟨J, 4, none⟩ = some (.int .i64 d0))

/-- What 'behind' answers of such a queue. -/
def behB (n : Nat) (d0 now : Int) : Bool := decide (0 < n) && decide (d0 ≤ now)

set_option maxRecDepth 100000 in
theorem behind_nil (now : Int) (w : World) : Calls Try.prog 26 #[.pointer none, .int .i64 now] w fun e w' => e = .returned (.bool false) ∧ w' = w := by
  go_enter Try.func26, Try.ntmps26
  go_wp2
  go_ret
  exact ⟨rfl, rfl⟩

set_option maxRecDepth 100000 in
theorem behind_some (B n : Nat) (d0 now : Int) (w : World) (h : QueueHas w B n d0) : Calls Try.prog 26 #[.pointer (some ⟨B, 0, none⟩), .int .i64 now] w fun e w' => e = .returned (.bool (behB n d0 now)) ∧ w' = w := by
  obtain ⟨a, cap, h1, h2⟩ := h
  by_cases h0 : n = 0
  · subst h0
    go_enter Try.func26, Try.ntmps26
    go_wp2
    go_ret
    exact ⟨rfl, rfl⟩
  · obtain ⟨g, J, rfl, h3, h4⟩ := h2 (by omega)
    clear h2
    have hp : (0 : Int) < (n : Int) := by omega
    by_cases hd : d0 ≤ now
    · go_enter Try.func26, Try.ntmps26
      go_wp2
      go_ret
      exact ⟨by simp [behB]; omega, rfl⟩
    · go_enter Try.func26, Try.ntmps26
      go_wp2
      go_ret
      exact ⟨by simp [behB]; omega, rfl⟩

set_option maxRecDepth 100000 in
theorem zbehind_nil (now : Int) (w : World) : Calls Try.prog 20 #[.pointer none, .int .i64 now] w fun e w' => e = .returned (.bool false) ∧ w' = w := by
  go_enter Try.func20, Try.ntmps20
  go_wp2_with (go_at_call 26; refine (behind_nil _ _).mono ?_; rintro e w' ⟨rfl, rfl⟩)
  go_ret
  exact ⟨rfl, rfl⟩

set_option maxRecDepth 100000 in
theorem zbehind_some (B n : Nat) (d0 now : Int) (w : World) (h : QueueHas w B n d0) : Calls Try.prog 20 #[.pointer (some ⟨B, 0, none⟩), .int .i64 now] w fun e w' => e = .returned (.bool (behB n d0 now)) ∧ w' = w := by
  go_enter Try.func20, Try.ntmps20
  go_wp2_with (go_at_call 26; refine (behind_some B n d0 now _ h).mono ?_; rintro e w' ⟨rfl, rfl⟩)
  go_ret
  exact ⟨rfl, rfl⟩

set_option maxRecDepth 100000 in
theorem nilQueue (w : World) : Calls Try.prog 18 #[] w fun e w' => e = .returned (.pointer none) ∧ w' = w := by
  go_enter Try.func18, Try.ntmps18
  go_wp2
  go_ret
  exact ⟨rfl, rfl⟩


/-- The cells of a new queue: the map of its jobs at block m, that of its lessees at the next. -/
def queueCells (m : Nat) (x : Int) : Array Value :=
  #[.map (some m), .slice none 0 0, .int .i64 0, .int .i64 0, .int .u8 2, .int .i64 0, .slice none 0 0,
    .int .i64 0, .int .i64 0, .int .i64 0, .int .i64 0, .slice none 0 0, .int .i64 0, .int .i64 0,
    .int .u8 3, .int .i64 0, .int .i64 0, .int .u64 0, .int .u64 0, .map (some (m + 1)), .pointer none, .pointer none,
    .int .i64 0, .int .u64 x, .int .u64 0, .int .i64 0, .int .u64 0]

set_option maxRecDepth 100000 in
theorem newQueue (x : Int) (w : World) : Calls Try.prog 25 #[.int .u64 x] w fun e w' => e = .returned (.pointer (some ⟨w.heap.size + 2, 0, none⟩)) ∧ w' = ((w.alloc (.map #[] 0)).alloc (.map #[] 0)).alloc (.cells (queueCells w.heap.size x) 71) := by
  have hmm := @run_makeMap Try.prog
  go_enter Try.func25, Try.ntmps25
  go_wp2
  go_ret
  exact ⟨rfl, rfl⟩
end Go.Proofs.Qxb6603649a
