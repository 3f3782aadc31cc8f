/-
  Seat b6604397a. (time.Time).Sub (28), zzAt (15), zzNs (16).
-/
import Derived.Test.Qxb6604397aTiC
import Derived.Deep.RegionWith
namespace Go.Proofs.Qxb6604397a
open Go.RowKit

theorem bcell {W w1 : World} (hb : Below W.heap.size W w1) : (∀ b o, b < W.heap.size → w1.cell? ⟨b, o, none⟩ = W.cell? ⟨b, o, none⟩) ∧ (∀ b o, b < W.heap.size → w1.frozen? ⟨b, o, none⟩ = W.frozen? ⟨b, o, none⟩) :=
  ⟨fun b o h => hb.cell (p := ⟨b, o, none⟩) h, fun b o h => hb.frozen (p := ⟨b, o, none⟩) h⟩

set_option maxRecDepth 100000 in
set_option maxHeartbeats 1000000 in
theorem sub28 (a b : Int) (w : World) (ha0 : -4700000000000000000 ≤ a) (ha1 : a ≤ 4700000000000000000) (hb0 : -4500000000000000000 ≤ b) (hb1 : b ≤ 4500000000000000000) :
    Calls Try.prog 28 #[.agg (tm a), .agg (tm b)] w fun e w' => e = .returned (.int .i64 (a - b)) ∧ Below w.heap.size w w' := by
  obtain ⟨n1, hn1⟩ : ∃ n : Nat, a % 1000000000 = n := ⟨(a % 1000000000).toNat, by omega⟩
  obtain ⟨n2, hn2⟩ : ∃ n : Nat, b % 1000000000 = n := ⟨(b % 1000000000).toNat, by omega⟩
  obtain ⟨s1, hs1⟩ : ∃ s, a / 1000000000 = s := ⟨_, rfl⟩
  obtain ⟨s2, hs2⟩ : ∃ s, b / 1000000000 = s := ⟨_, rfl⟩
  have h1 : n1 < 1000000000 := by omega
  have h2 : n2 < 1000000000 := by omega
  have e1 : tm a = #[.int .u64 n1, .int .i64 s1, .pointer none] := by rw [tm_cells, hn1, hs1]
  have e2 : tm b = #[.int .u64 n2, .int .i64 s2, .pointer none] := by rw [tm_cells, hn2, hs2]
  have hd : (s1 - s2) * 1000000000 + ((n1 : Int) - n2) = a - b := by omega
  have hg : (s1 - s2) * 1000000000 ≤ 9223372036854775807 ∧ -9223372036854775808 ≤ (s1 - s2) * 1000000000 := by omega
  have b1 : s1 ≤ 4700000000 ∧ -4700000000 ≤ s1 := by omega
  have b2 : s2 ≤ 4700000000 ∧ -4700000000 ≤ s2 := by omega
  have k1 := mask30 n1 h1
  have k2 := mono0 n1 h1
  have k3 := mask30 n2 h2
  have k4 := mono0 n2 h2
  obtain ⟨m, k5, k6⟩ := walls n1 n2 h1 h2
  have E1 := hid e1
  have E2 := hid e2
  rw [e1, e2]
  clear e1 e2 hn1 hn2 hs1 hs2
  have HA := hid (show ∀ W, Calls Try.prog 27 #[.agg #[.int .u64 n2, .int .i64 s2, .pointer none], .int .i64 (a - b)] W fun e w' => e = .returned (.agg #[.int .u64 n1, .int .i64 s1, .pointer none]) ∧ Below W.heap.size W w' from fun W => by
    have := add27 b (a - b) W (by omega) (by omega) (by omega) (by omega)
    rw [show b + (a - b) = a by omega, E1.out, E2.out] at this
    exact this)
  have HQ := hid (show ∀ W, Calls Try.prog 42 #[.agg #[.int .u64 n1, .int .i64 s1, .pointer none], .agg #[.int .u64 n1, .int .i64 s1, .pointer none]] W fun e w' => e = .returned (.bool true) ∧ Below W.heap.size W w' from fun W => by
    have := equal42 a a W
    rw [decide_eq_true rfl, E1.out] at this
    exact this)
  have HC := hid (show ∀ w1, Below (((w.alloc (Obj.cells #[.int .u64 n1, .int .i64 s1, .pointer none] 40)).alloc (Obj.cells #[.int .u64 n2, .int .i64 s2, .pointer none] 40)).drew).heap.size ((w.alloc (Obj.cells #[.int .u64 n1, .int .i64 s1, .pointer none] 40)).alloc (Obj.cells #[.int .u64 n2, .int .i64 s2, .pointer none] 40)).drew w1 →
      w1.cell? ⟨w.heap.size, 0, none⟩ = some (.int .u64 n1) ∧ w1.cell? ⟨w.heap.size, 1, none⟩ = some (.int .i64 s1) ∧ w1.cell? ⟨w.heap.size, 2, none⟩ = some (.pointer none) from fun w1 hb => by
    have hh : w1.heap[w.heap.size]? = some (Obj.cells #[.int .u64 n1, .int .i64 s1, .pointer none] 40) := (hb.block w.heap.size (by simp; omega)).trans (heap_alloc2_old w _ _)
    exact ⟨cell_of_row w1 _ _ _ 40 (0, 0) hh, cell_of_row w1 _ _ _ 40 (0, 0) hh, cell_of_row w1 _ _ _ 40 (0, 0) hh⟩)
  clear E1 E2
  go_enter Try.func28, Try.ntmps28
  go_wp2
  go_region_with (first
    | (go_at_call 27; refine (HA.out _).mono ?_; rintro e w1 ⟨rfl, hb1⟩; obtain ⟨c0, c1, c2⟩ := HC.out w1 hb1)
    | (go_at_call 42; refine (HQ.out _).mono ?_; rintro e w2 ⟨rfl, hb2⟩))
  all_goals
    go_wp2
    go_ret
    exact ⟨rfl, ((((Below.refl _ _).alloc (Nat.le_refl _) _).alloc (by simp) _).drew.trans (hb1.mono (by simp; omega))).trans (hb2.mono (by have := hb1.size; simp at this; omega))⟩

set_option maxRecDepth 100000 in
theorem at15 (a : Int) (w : World) (ha0 : -9223372036854775808 ≤ a) (ha1 : a ≤ 9223372036854775807) :
    Calls Try.prog 15 #[.int .i64 a] w fun e w' => e = .returned (.agg (tm a)) ∧ Below w.heap.size w w' := by
  obtain ⟨n1, hn1⟩ : ∃ n : Nat, a % 1000000000 = n := ⟨(a % 1000000000).toNat, by omega⟩
  obtain ⟨s1, hs1⟩ : ∃ s, a / 1000000000 = s := ⟨_, rfl⟩
  have e1 : tm a = #[.int .u64 n1, .int .i64 s1, .pointer none] := by rw [tm_cells, hn1, hs1]
  have HA := hid (show ∀ W, Calls Try.prog 27 #[.agg #[.int .u64 0, .int .i64 0, .pointer none], .int .i64 a] W fun e w' => e = .returned (.agg #[.int .u64 n1, .int .i64 s1, .pointer none]) ∧ Below W.heap.size W w' from fun W => by
    have := add27 0 a W (by omega) (by omega) ha0 ha1
    rw [show 0 + a = a by omega, e1] at this
    exact this)
  rw [e1]
  clear e1 hn1 hs1
  go_enter Try.func15, Try.ntmps15
  go_wp2_with (first
    | (go_at_call 27; refine (HA.out _).mono ?_; rintro e w1 ⟨rfl, hb1⟩; obtain ⟨hc, hf⟩ := bcell hb1))
  exact bodyPost_ret (v := .agg #[.int .u64 n1, .int .i64 s1, .pointer none]) (by simp [results, Try.results15, go_sem, hc]) rfl ⟨rfl, (((((Below.refl _ _).alloc (Nat.le_refl _) _).trans (hb1.mono (by simp))).setCell (by simp) _).setCell (by simp) _).setCell (by simp) _⟩

set_option maxRecDepth 100000 in
theorem ns16 (a : Int) (w : World) (ha0 : -4700000000000000000 ≤ a) (ha1 : a ≤ 4700000000000000000) :
    Calls Try.prog 16 #[.agg (tm a)] w fun e w' => e = .returned (.int .i64 a) ∧ Below w.heap.size w w' := by
  obtain ⟨n1, hn1⟩ : ∃ n : Nat, a % 1000000000 = n := ⟨(a % 1000000000).toNat, by omega⟩
  obtain ⟨s1, hs1⟩ : ∃ s, a / 1000000000 = s := ⟨_, rfl⟩
  have e1 : tm a = #[.int .u64 n1, .int .i64 s1, .pointer none] := by rw [tm_cells, hn1, hs1]
  have HA := hid (show ∀ W, Calls Try.prog 28 #[.agg #[.int .u64 n1, .int .i64 s1, .pointer none], .agg #[.int .u64 0, .int .i64 0, .pointer none]] W fun e w' => e = .returned (.int .i64 a) ∧ Below W.heap.size W w' from fun W => by
    have := sub28 a 0 W ha0 ha1 (by omega) (by omega)
    rw [show a - 0 = a by omega, e1] at this
    exact this)
  rw [e1]
  clear e1 hn1 hs1
  go_enter Try.func16, Try.ntmps16
  go_wp2_with (first
    | (go_at_call 28; refine (HA.out _).mono ?_; rintro e w1 ⟨rfl, hb1⟩))
  go_ret
  exact ⟨rfl, ((Below.refl _ _).alloc (Nat.le_refl _) _).trans (hb1.mono (by simp))⟩
end Go.Proofs.Qxb6604397a
