/-
  Seat b6604397a. slack (34), zzInTime (11), placement (35), zzJob (14).
-/
import Derived.Test.Qxb6604397aTiD
import Derived.Deep.RegionHeld3
import Derived.Sort.AtCall
import Derived.BigQuiet
namespace Go.Proofs.Qxb6604397a
open Go.RowKit

def jobA (e l d : Int) : Array Value :=
  #[.int .u64 (e % 1000000000), .int .i64 (e / 1000000000), .pointer none, .int .u64 (l % 1000000000), .int .i64 (l / 1000000000), .pointer none, .int .i64 d]

def In61 (x : Int) : Prop := -2305843009213693952 ≤ x ∧ x ≤ 2305843009213693952
instance (x : Int) : Decidable (In61 x) := by unfold In61; infer_instance

set_option maxRecDepth 100000 in
theorem inTime11 (x : Int) (w : World) : Calls Try.prog 11 #[.int .i64 x] w fun e w' => e = .returned (.bool (decide (In61 x))) ∧ w' = w := by
  by_cases h1 : -2305843009213693952 ≤ x
  · by_cases h2 : x ≤ 2305843009213693952
    · have : decide (In61 x) = true := decide_eq_true ⟨h1, h2⟩
      rw [this]
      go_enter Try.func11, Try.ntmps11
      go_wp2
      go_ret
      exact ⟨rfl, rfl⟩
    · have : decide (In61 x) = false := decide_eq_false (fun h => by unfold In61 at h; omega)
      rw [this]
      go_enter Try.func11, Try.ntmps11
      go_wp2
      go_ret
      exact ⟨rfl, rfl⟩
  · have : decide (In61 x) = false := decide_eq_false (fun h => by unfold In61 at h; omega)
    rw [this]
    go_enter Try.func11, Try.ntmps11
    go_wp2
    go_ret
    exact ⟨rfl, rfl⟩

set_option maxRecDepth 100000 in
set_option maxHeartbeats 1000000 in
theorem slack34 (e l d : Int) (w : World) (he : In61 e) (hl : In61 l) (hd : In61 d) :
    Calls Try.prog 34 #[.agg (jobA e l d)] w fun r w' => r = .returned (.int .i64 (l - e - d)) ∧ Below w.heap.size w w' := by
  unfold In61 at he hl hd
  have e1 : tm e = #[.int .u64 (e % 1000000000), .int .i64 (e / 1000000000), .pointer none] := tm_cells e
  have e2 : tm l = #[.int .u64 (l % 1000000000), .int .i64 (l / 1000000000), .pointer none] := tm_cells l
  have HC := hid (show ∀ W : World, Calls Try.prog 28 #[.agg #[.int .u64 (l % 1000000000), .int .i64 (l / 1000000000), .pointer none], .agg #[.int .u64 (e % 1000000000), .int .i64 (e / 1000000000), .pointer none]] W fun r w' => r = .returned (.int .i64 (l - e)) ∧ Below W.heap.size W w' from fun W => by
    have := sub28 l e W (by omega) (by omega) (by omega) (by omega)
    rw [e1, e2] at this
    exact this)
  have z1 : IntKind.i64.wrap (l - e - d) = l - e - d := by
    simp only [IntKind.wrap, IntKind.bits, IntKind.signed]; simp; omega
  unfold jobA
  clear e1 e2 he hl hd
  generalize e % 1000000000 = en at *
  generalize e / 1000000000 = es at *
  generalize l % 1000000000 = ln at *
  generalize l / 1000000000 = ls at *
  generalize hx : l - e = x at *
  clear hx
  have HK := hid (show ∀ w1 : World, Below (w.alloc (.cells #[.int .u64 en, .int .i64 es, .pointer none, .int .u64 ln, .int .i64 ls, .pointer none, .int .i64 d] 46)).drew.heap.size (w.alloc (.cells #[.int .u64 en, .int .i64 es, .pointer none, .int .u64 ln, .int .i64 ls, .pointer none, .int .i64 d] 46)).drew w1 →
      w1.cell? ⟨w.heap.size, 0, none⟩ = some (.int .u64 en) ∧ w1.cell? ⟨w.heap.size, 1, none⟩ = some (.int .i64 es) ∧ w1.cell? ⟨w.heap.size, 2, none⟩ = some (.pointer none) ∧ w1.cell? ⟨w.heap.size, 3, none⟩ = some (.int .u64 ln) ∧ w1.cell? ⟨w.heap.size, 4, none⟩ = some (.int .i64 ls) ∧ w1.cell? ⟨w.heap.size, 5, none⟩ = some (.pointer none) ∧ w1.cell? ⟨w.heap.size, 6, none⟩ = some (.int .i64 d) from fun w1 hb => by
    have hh := (hb.block w.heap.size (by simp)).trans (heap_alloc_new w _)
    exact ⟨cell_of_row w1 _ _ _ 46 (0, 0) hh, cell_of_row w1 _ _ _ 46 (0, 0) hh, cell_of_row w1 _ _ _ 46 (0, 0) hh, cell_of_row w1 _ _ _ 46 (0, 0) hh, cell_of_row w1 _ _ _ 46 (0, 0) hh, cell_of_row w1 _ _ _ 46 (0, 0) hh, cell_of_row w1 _ _ _ 46 (0, 0) hh⟩)
  go_enter Try.func34, Try.ntmps34
  go_wp2
  go_region_held3 (fun w1 => w1.cell? ⟨w.heap.size, 0, none⟩ = some (.int .u64 en) ∧ w1.cell? ⟨w.heap.size, 1, none⟩ = some (.int .i64 es) ∧ w1.cell? ⟨w.heap.size, 2, none⟩ = some (.pointer none) ∧ w1.cell? ⟨w.heap.size, 3, none⟩ = some (.int .u64 ln) ∧ w1.cell? ⟨w.heap.size, 4, none⟩ = some (.int .i64 ls) ∧ w1.cell? ⟨w.heap.size, 5, none⟩ = some (.pointer none) ∧ w1.cell? ⟨w.heap.size, 6, none⟩ = some (.int .i64 d)) (first | go_keep | exact HK.out w1 hb1)
    ((go_at_call 28; refine (HC.out _).mono ?_; rintro e w1 ⟨rfl, hb1⟩))
  go_wp2
  go_ret
  exact ⟨rfl, (((Below.refl _ _).alloc (Nat.le_refl _) _).drew).trans (hb1.mono (by simp))⟩

def runA (r e l d s : Int) : Array Value :=
  #[.int .i64 0, .int .u64 (e % 1000000000), .int .i64 (e / 1000000000), .pointer none, .int .u64 (l % 1000000000), .int .i64 (l / 1000000000), .pointer none, .int .i64 d,
    .float .f64 0, .float .f64 0, .slice none 0 0, .float .f64 0, .int .i64 r, .int .u64 (s % 1000000000), .int .i64 (s / 1000000000), .pointer none]

def plA (r s t : Int) (late : Bool) : Array Value :=
  #[.int .i64 r, .int .u64 (s % 1000000000), .int .i64 (s / 1000000000), .pointer none, .int .u64 (t % 1000000000), .int .i64 (t / 1000000000), .pointer none, .bool late]

theorem row8 {W : World} {B : Nat} {t : TypeId} {a0 a1 a2 a3 a4 a5 a6 a7 : Value} (h : W.heap[B]? = some (.cells #[a0, a1, a2, a3, a4, a5, a6, a7] t (0, 0))) :
    W.cell? ⟨B, 0, none⟩ = some a0 ∧ W.cell? ⟨B, 1, none⟩ = some a1 ∧ W.cell? ⟨B, 2, none⟩ = some a2 ∧ W.cell? ⟨B, 3, none⟩ = some a3 ∧ W.cell? ⟨B, 4, none⟩ = some a4 ∧ W.cell? ⟨B, 5, none⟩ = some a5 ∧ W.cell? ⟨B, 6, none⟩ = some a6 ∧ W.cell? ⟨B, 7, none⟩ = some a7 ∧ ∀ i, W.frozen? ⟨B, i, none⟩ = false :=
  ⟨cell_of_row W _ _ _ t (0, 0) h, cell_of_row W _ _ _ t (0, 0) h, cell_of_row W _ _ _ t (0, 0) h, cell_of_row W _ _ _ t (0, 0) h, cell_of_row W _ _ _ t (0, 0) h, cell_of_row W _ _ _ t (0, 0) h, cell_of_row W _ _ _ t (0, 0) h, cell_of_row W _ _ _ t (0, 0) h, fun _ => frozen_of_row W _ _ _ _ h⟩

set_option maxRecDepth 100000 in
set_option maxHeartbeats 4000000 in
theorem placement35 (r e l d s : Int) (w : World) (hd : In61 d) (hs : In61 s) :
    Calls Try.prog 35 #[.agg (runA r e l d s)] w fun q w' => q = .returned (.agg (plA r s (s + d) (decide (l < s + d)))) ∧ Below w.heap.size w w' := by
  unfold In61 at hs hd
  have e1 := tm_cells s
  have e2 := tm_cells l
  have e3 := tm_cells (s + d)
  have HC := hid (show ∀ W : World, Calls Try.prog 27 #[.agg #[.int .u64 (s % 1000000000), .int .i64 (s / 1000000000), .pointer none], .int .i64 d] W fun r w' => r = .returned (.agg #[.int .u64 ((s + d) % 1000000000), .int .i64 ((s + d) / 1000000000), .pointer none]) ∧ Below W.heap.size W w' from fun W => by
    have := add27 s d W (by omega) (by omega) (by omega) (by omega)
    rw [e1, e3] at this
    exact this)
  have HA := hid (show ∀ W : World, Calls Try.prog 45 #[.agg #[.int .u64 ((s + d) % 1000000000), .int .i64 ((s + d) / 1000000000), .pointer none], .agg #[.int .u64 (l % 1000000000), .int .i64 (l / 1000000000), .pointer none]] W fun r w' => r = .returned (.bool (decide (l < s + d))) ∧ Below W.heap.size W w' from fun W => by
    have := after45 (s + d) l W
    rw [e2, e3] at this
    exact this)
  unfold runA plA
  clear e1 e2 e3 hs hd
  generalize decide (l < s + d) = late at *
  generalize hx : s + d = x at *
  clear hx
  generalize e % 1000000000 = en at *
  generalize e / 1000000000 = es at *
  generalize l % 1000000000 = ln at *
  generalize l / 1000000000 = ls at *
  generalize s % 1000000000 = sn at *
  generalize s / 1000000000 = ss at *
  generalize x % 1000000000 = xn at *
  generalize x / 1000000000 = xs at *
  go_enter Try.func35, Try.ntmps35
  go_wp2_with (first
    | (go_at_call 27; refine (HC.out _).mono ?_; rintro e w1 ⟨rfl, hb1⟩))
  have hR : w1.heap[w.heap.size]? = some (.cells #[.int .i64 0, .int .u64 en, .int .i64 es, .pointer none, .int .u64 ln, .int .i64 ls, .pointer none, .int .i64 d, .float .f64 0, .float .f64 0, .slice none 0 0, .float .f64 0, .int .i64 r, .int .u64 sn, .int .i64 ss, .pointer none] 85 (0, 0)) :=
    (hb1.block w.heap.size (by simp; omega)).trans (heap_alloc2_old w _ _)
  have hP : w1.heap[w.heap.size + 1]? = some (.cells #[.int .i64 0, .int .u64 0, .int .i64 0, .pointer none, .int .u64 0, .int .i64 0, .pointer none, .bool false] 42 (0, 0)) :=
    (hb1.block (w.heap.size + 1) (by simp)).trans (heap_alloc2_new w _ _)
  have hsz : w.heap.size + 2 ≤ w1.heap.size := by have := hb1.size; simp at this; omega
  have hBW : Below w.heap.size w (w1.alloc (.cells #[.int .u64 xn, .int .i64 xs, .pointer none] 40)) := ((((Below.refl _ _).alloc (Nat.le_refl _) _).alloc (by simp) _).trans (hb1.mono (by simp; omega))).alloc (by omega) _
  have hE : (w1.alloc (.cells #[.int .u64 xn, .int .i64 xs, .pointer none] 40)).heap[w1.heap.size]? = some (.cells #[.int .u64 xn, .int .i64 xs, .pointer none] 40 (0, 0)) := heap_alloc_new _ _
  replace hR := (heap_alloc_old w1 (.cells #[.int .u64 xn, .int .i64 xs, .pointer none] 40) (show w.heap.size < w1.heap.size by omega)).trans hR
  replace hP := (heap_alloc_old w1 (.cells #[.int .u64 xn, .int .i64 xs, .pointer none] 40) (show w.heap.size + 1 < w1.heap.size by omega)).trans hP
  have hsW : w1.heap.size < (w1.alloc (.cells #[.int .u64 xn, .int .i64 xs, .pointer none] 40)).heap.size := by simp
  obtain ⟨B, hB⟩ : ∃ B, B = w1.heap.size := ⟨_, rfl⟩
  rw [← hB] at hE hsW hsz
  have HX := hid (show ∀ W : World, Below (w1.alloc (.cells #[.int .u64 xn, .int .i64 xs, .pointer none] 40)).heap.size (w1.alloc (.cells #[.int .u64 xn, .int .i64 xs, .pointer none] 40)) W →
      (W.cell? ⟨w.heap.size, 12, none⟩ = some (.int .i64 r) ∧ W.cell? ⟨w.heap.size, 13, none⟩ = some (.int .u64 sn) ∧ W.cell? ⟨w.heap.size, 14, none⟩ = some (.int .i64 ss) ∧ W.cell? ⟨w.heap.size, 15, none⟩ = some (.pointer none) ∧ W.cell? ⟨w.heap.size, 4, none⟩ = some (.int .u64 ln) ∧ W.cell? ⟨w.heap.size, 5, none⟩ = some (.int .i64 ls) ∧ W.cell? ⟨w.heap.size, 6, none⟩ = some (.pointer none) ∧ W.cell? ⟨B, 0, none⟩ = some (.int .u64 xn) ∧ W.cell? ⟨B, 1, none⟩ = some (.int .i64 xs) ∧ W.cell? ⟨B, 2, none⟩ = some (.pointer none)) ∧
      W.heap[w.heap.size + 1]? = some (.cells #[.int .i64 0, .int .u64 0, .int .i64 0, .pointer none, .int .u64 0, .int .i64 0, .pointer none, .bool false] 42 (0, 0)) from fun W hb => by
    have h1 := (hb.block w.heap.size (by omega)).trans hR
    have h2 := (hb.block B (by omega)).trans hE
    exact ⟨⟨cell_of_row W _ _ _ 85 (0, 0) h1, cell_of_row W _ _ _ 85 (0, 0) h1, cell_of_row W _ _ _ 85 (0, 0) h1, cell_of_row W _ _ _ 85 (0, 0) h1, cell_of_row W _ _ _ 85 (0, 0) h1, cell_of_row W _ _ _ 85 (0, 0) h1, cell_of_row W _ _ _ 85 (0, 0) h1, cell_of_row W _ _ _ 40 (0, 0) h2, cell_of_row W _ _ _ 40 (0, 0) h2, cell_of_row W _ _ _ 40 (0, 0) h2⟩, (hb.block _ (by omega)).trans hP⟩)
  have HBW := hid hBW
  obtain ⟨⟨c1, c2, c3, c4, c5, c6, c7, c8, c9, c10⟩, -⟩ := HX.out _ (Below.refl _ _)
  rw [← hB]
  have hne : B ≠ w.heap.size + 1 := by omega
  have hne2 : w.heap.size + 1 ≠ B := by omega
  clear hBW hR hP hE hb1 hB
  generalize w1.alloc (.cells #[.int .u64 xn, .int .i64 xs, .pointer none] 40) = W at *
  go_region_held3 (fun W => W.cell? ⟨w.heap.size, 12, none⟩ = some (.int .i64 r) ∧ W.cell? ⟨w.heap.size, 13, none⟩ = some (.int .u64 sn) ∧ W.cell? ⟨w.heap.size, 14, none⟩ = some (.int .i64 ss) ∧ W.cell? ⟨w.heap.size, 15, none⟩ = some (.pointer none) ∧ W.cell? ⟨w.heap.size, 4, none⟩ = some (.int .u64 ln) ∧ W.cell? ⟨w.heap.size, 5, none⟩ = some (.int .i64 ls) ∧ W.cell? ⟨w.heap.size, 6, none⟩ = some (.pointer none) ∧ W.cell? ⟨B, 0, none⟩ = some (.int .u64 xn) ∧ W.cell? ⟨B, 1, none⟩ = some (.int .i64 xs) ∧ W.cell? ⟨B, 2, none⟩ = some (.pointer none)) (first | go_keep | exact x1)
    ((go_at_call 45; refine (HA.out _).mono ?_; rintro e w2 ⟨rfl, hb2⟩; obtain ⟨x1, x2⟩ := HX.out w2 ((Below.refl _ _).drew.trans hb2); obtain ⟨y0, y1, y2, y3, y4, y5, y6, y7, y8⟩ := row8 x2))
  have hBf : Below w.heap.size w w2 := HBW.out.drew.trans (hb2.mono (by have := HBW.out.size; simpa using this))
  go_wp2
  have hl : w.heap.size ≤ w.heap.size + 1 := by omega
  exact bodyPost_ret (v := .agg #[.int .i64 r, .int .u64 sn, .int .i64 ss, .pointer none, .int .u64 xn, .int .i64 xs, .pointer none, .bool late]) (by simp [results, Try.results35, go_sem, y0, y1, y2, y3, y4, y5, y6, y7]) rfl
    ⟨rfl, (((((((hBf.setCell hl _).setCell hl _).setCell hl _).setCell hl _).setCell hl _).setCell hl _).setCell hl _).setCell hl _⟩

theorem row7 {W : World} {B : Nat} {t : TypeId} {a0 a1 a2 a3 a4 a5 a6 : Value} (h : W.heap[B]? = some (.cells #[a0, a1, a2, a3, a4, a5, a6] t (0, 0))) :
    W.cell? ⟨B, 0, none⟩ = some a0 ∧ W.cell? ⟨B, 1, none⟩ = some a1 ∧ W.cell? ⟨B, 2, none⟩ = some a2 ∧ W.cell? ⟨B, 3, none⟩ = some a3 ∧ W.cell? ⟨B, 4, none⟩ = some a4 ∧ W.cell? ⟨B, 5, none⟩ = some a5 ∧ W.cell? ⟨B, 6, none⟩ = some a6 ∧ ∀ i, W.frozen? ⟨B, i, none⟩ = false :=
  ⟨cell_of_row W _ _ _ t (0, 0) h, cell_of_row W _ _ _ t (0, 0) h, cell_of_row W _ _ _ t (0, 0) h, cell_of_row W _ _ _ t (0, 0) h, cell_of_row W _ _ _ t (0, 0) h, cell_of_row W _ _ _ t (0, 0) h, cell_of_row W _ _ _ t (0, 0) h, fun _ => frozen_of_row W _ _ _ _ h⟩

set_option maxRecDepth 100000 in
set_option maxHeartbeats 4000000 in
theorem job14 (e l d : Int) (w : World) (he : In61 e) (hl : In61 l) :
    Calls Try.prog 14 #[.int .i64 e, .int .i64 l, .int .i64 d] w fun q w' => q = .returned (.agg (jobA e l d)) ∧ Below w.heap.size w w' := by
  unfold In61 at he hl
  have e1 := tm_cells e
  have e2 := tm_cells l
  have HC1 := hid (show ∀ W : World, Calls Try.prog 15 #[.int .i64 e] W fun r w' => r = .returned (.agg #[.int .u64 (e % 1000000000), .int .i64 (e / 1000000000), .pointer none]) ∧ Below W.heap.size W w' from fun W => by
    have := at15 e W (by omega) (by omega)
    rw [e1] at this
    exact this)
  have HC2 := hid (show ∀ W : World, Calls Try.prog 15 #[.int .i64 l] W fun r w' => r = .returned (.agg #[.int .u64 (l % 1000000000), .int .i64 (l / 1000000000), .pointer none]) ∧ Below W.heap.size W w' from fun W => by
    have := at15 l W (by omega) (by omega)
    rw [e2] at this
    exact this)
  unfold jobA
  clear e1 e2 he hl
  generalize e % 1000000000 = en at *
  generalize e / 1000000000 = es at *
  generalize l % 1000000000 = ln at *
  generalize l / 1000000000 = ls at *
  go_enter Try.func14, Try.ntmps14
  go_wp2_with (first
    | (go_at_call_has 15 (e); refine (HC1.out _).mono ?_; rintro r w1 ⟨rfl, hb1⟩)
    | (go_at_call_has 15 (l); refine (HC2.out _).mono ?_; rintro r w2 ⟨rfl, hb2⟩; have x0 := (hb2.block w.heap.size (by have := hb1.size; simp at this; omega)).trans ((hb1.block w.heap.size (by simp)).trans (heap_alloc_new w _)); obtain ⟨y0, y1, y2, y3, y4, y5, y6, y7⟩ := row7 x0))
  have hBf : Below w.heap.size w w2 := (((Below.refl _ _).alloc (Nat.le_refl _) _).trans (hb1.mono (by simp))).trans (hb2.mono (by have := hb1.size; simp at this; omega))
  have hl : w.heap.size ≤ w.heap.size := Nat.le_refl _
  exact bodyPost_ret (v := .agg #[.int .u64 en, .int .i64 es, .pointer none, .int .u64 ln, .int .i64 ls, .pointer none, .int .i64 d]) (by simp [results, Try.results14, go_sem, y0, y1, y2, y3, y4, y5, y6]) rfl
    ⟨rfl, ((((((hBf.setCell hl _).setCell hl _).setCell hl _).setCell hl _).setCell hl _).setCell hl _).setCell hl _⟩
end Go.Proofs.Qxb6604397a
