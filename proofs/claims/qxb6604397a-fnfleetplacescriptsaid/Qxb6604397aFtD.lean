/-
  Seat b6604397a. ZZplace (13): the walk.
-/
import Derived.Test.Qxb6604397aFtC
namespace Go.Proofs.Qxb6604397a
open Go.RowKit

set_option maxRecDepth 100000 in
set_option maxHeartbeats 8000000 in
theorem place13 (fb lb : Nat) (ps : Array Value) (r : Nat) (sb : Nat) (tv uv gv : Value) (ts : List Int) (us gs : List Nat) (pk : Nat) (rc : Int) (e l d s : Int) (u : Nat) (w : World) (hn : ts.length ≤ 900000) (hs : Sorted ts) (hu : us.length = ts.length) (hg : gs.length = ts.length)
    (he : In61 e) (hl : In61 l) (hd : In61 d) (hs' : In61 s) (hF : Flt w fb lb ps) (hr : r < 3) (hp : ps[r]? = some (.pointer (some ⟨sb, 0, none⟩))) (h : Sched w sb tv uv gv ts us gs pk rc) :
    Calls Try.prog 13 #[.pointer (some ⟨fb, 0, none⟩), .int .i64 r, .agg (jobA e l d), .agg (tm s), .float .f64 u] w fun q w' => q = .returned (.agg (plA r s (s + d) (decide (l < s + d)))) ∧ PlacePost sb tv uv gv ts us gs pk rc s d u (decide (l - e - d = 0)) w w' := by
  obtain ⟨jb, hjb⟩ : ∃ o, o = Obj.cells (jobA e l d) 46 (0, 0) := ⟨_, rfl⟩
  obtain ⟨sbx, hsbx⟩ : ∃ o, o = Obj.cells (tm s) 40 (0, 0) := ⟨_, rfl⟩
  obtain ⟨zb, hzb⟩ : ∃ o, o = Obj.cells #[.int .i64 0, .int .u64 0, .int .i64 0, .pointer none, .int .u64 0, .int .i64 0, .pointer none, .bool false] 42 (0, 0) := ⟨_, rfl⟩
  obtain ⟨W0, hW0⟩ : ∃ W, W = ((w.alloc jb).alloc sbx).alloc zb := ⟨_, rfl⟩
  have hsz : W0.heap.size = w.heap.size + 3 := by rw [hW0]; simp
  have hB0 : Below w.heap.size w W0 := by rw [hW0]; exact (((Below.refl _ _).alloc (Nat.le_refl _) _).alloc (by simp) _).alloc (by simp; omega) _
  obtain ⟨hnf, hnl⟩ := flt_own hF h
  have hown : ∀ k, Own sb tv uv gv k → k < w.heap.size := fun k hk => h.lt hk
  have hflt : fb < w.heap.size ∧ lb < w.heap.size := by
    obtain ⟨fs, h1, _⟩ := hF.f
    exact ⟨(Array.getElem?_eq_some_iff.1 h1).1, (Array.getElem?_eq_some_iff.1 hF.l).1⟩
  have b0 : W0.heap[w.heap.size]? = some jb := by
    rw [hW0, heap_alloc_old _ _ (by simp; omega), heap_alloc_old _ _ (by simp)]; exact heap_alloc_new _ _
  have b1 : W0.heap[w.heap.size + 1]? = some sbx := by
    rw [hW0, heap_alloc_old _ _ (by simp)]; simpa using heap_alloc_new (w.alloc jb) sbx
  have b2 : W0.heap[w.heap.size + 2]? = some zb := by
    rw [hW0]; simpa using heap_alloc_new ((w.alloc jb).alloc sbx) zb
  have hb26 : w.heap.size < W0.heap.size := by omega
  -- what every later world agrees on
  have HX := hid (show ∀ W : World, (∀ k, k < w.heap.size + 3 → ¬ Own sb tv uv gv k → W.heap[k]? = W0.heap[k]?) →
      (W.cell? ⟨fb, 1, none⟩ = some (.slice (some ⟨lb, 0, none⟩) 3 3) ∧ W.cell? ⟨lb, r, none⟩ = some (.pointer (some ⟨sb, 0, none⟩)) ∧
        W.cell? ⟨w.heap.size, 0, none⟩ = some (.int .u64 (e % 1000000000)) ∧ W.cell? ⟨w.heap.size, 1, none⟩ = some (.int .i64 (e / 1000000000)) ∧ W.cell? ⟨w.heap.size, 2, none⟩ = some (.pointer none) ∧
        W.cell? ⟨w.heap.size, 3, none⟩ = some (.int .u64 (l % 1000000000)) ∧ W.cell? ⟨w.heap.size, 4, none⟩ = some (.int .i64 (l / 1000000000)) ∧ W.cell? ⟨w.heap.size, 5, none⟩ = some (.pointer none) ∧ W.cell? ⟨w.heap.size, 6, none⟩ = some (.int .i64 d) ∧
        W.cell? ⟨w.heap.size + 1, 0, none⟩ = some (.int .u64 (s % 1000000000)) ∧ W.cell? ⟨w.heap.size + 1, 1, none⟩ = some (.int .i64 (s / 1000000000)) ∧ W.cell? ⟨w.heap.size + 1, 2, none⟩ = some (.pointer none)) ∧
      W.heap[w.heap.size + 1 + 1]? = some (.cells #[.int .i64 0, .int .u64 0, .int .i64 0, .pointer none, .int .u64 0, .int .i64 0, .pointer none, .bool false] 42 (0, 0)) from fun W ha => by
    have no : ∀ k, w.heap.size ≤ k → ¬ Own sb tv uv gv k := fun k hk q => by have := hown k q; omega
    have a0 := (ha w.heap.size (by omega) (no _ (by omega))).trans b0
    have a1 := (ha (w.heap.size + 1) (by omega) (no _ (by omega))).trans b1
    have a2 := (ha (w.heap.size + 2) (by omega) (no _ (by omega))).trans b2
    have af := (ha fb (by omega) hnf).trans (hB0.block fb hflt.1)
    have al := (ha lb (by omega) hnl).trans (hB0.block lb hflt.2)
    have hFW := hF.kept af al
    rw [hjb, jobA] at a0
    rw [hsbx, tm_cells] at a1
    rw [hzb] at a2
    obtain ⟨q0, q1, q2, q3, q4, q5, q6, -⟩ := row7 a0
    obtain ⟨p0, p1, p2⟩ := row3 a1
    exact ⟨⟨hFW.f1, (cell_of_row W _ _ _ _ _ hFW.l).trans hp, q0, q1, q2, q3, q4, q5, q6, p0, p1, p2⟩, a2⟩)
  have HC := hid (show ∀ (W : World), Below w.heap.size w W → Flt W fb lb ps → Calls Try.prog 26 #[.pointer (some ⟨fb, 0, none⟩), .int .i64 r, .agg #[.int .u64 (e % 1000000000), .int .i64 (e / 1000000000), .pointer none, .int .u64 (l % 1000000000), .int .i64 (l / 1000000000), .pointer none, .int .i64 d], .agg #[.int .u64 (s % 1000000000), .int .i64 (s / 1000000000), .pointer none], .float .f64 u] W fun q w' => q = .returned (.agg #[.int .i64 r, .int .u64 (s % 1000000000), .int .i64 (s / 1000000000), .pointer none, .int .u64 ((s + d) % 1000000000), .int .i64 ((s + d) / 1000000000), .pointer none, .bool (decide (l < s + d))]) ∧ PlacePost sb tv uv gv ts us gs pk rc s d u (decide (l - e - d = 0)) W w' from fun W hW hFW => by
    have := place26 fb lb ps r sb tv uv gv ts us gs pk rc e l d s u W hn hs hu hg he hl hd hs' hFW hr hp (h.below hW (Nat.le_refl _))
    rw [tm_cells] at this
    exact this)
  have HFW := hid (hF.kept (hB0.block fb hflt.1) (hB0.block lb hflt.2))
  have HO := hid hown
  have HB := hid hB0
  have HZ := hid hsz
  have hrI : (r : Int) < 3 := by omega
  rw [hjb, hsbx, hzb, jobA, tm_cells] at hW0
  rw [tm_cells]
  unfold jobA plA
  obtain ⟨⟨c1, c2, c3, c4, c5, c6, c7, c8, c9, c10, c11, c12⟩, -⟩ := HX.out W0 (fun _ _ _ => rfl)
  clear hjb hsbx hzb b0 b1 b2 hflt hnf hnl hp hF h he hl hd hs' hn hs hu hg hsz hB0 hown hb26
  generalize hdc : decide (l - e - d = 0) = urg at *
  generalize l - e - d = sl at *
  generalize decide (l < s + d) = late at *
  generalize hx : s + d = x at *
  generalize e % 1000000000 = en at *
  generalize e / 1000000000 = es at *
  generalize l % 1000000000 = ln at *
  generalize l / 1000000000 = ls at *
  generalize s % 1000000000 = sn at *
  generalize s / 1000000000 = ss at *
  generalize x % 1000000000 = xn at *
  generalize x / 1000000000 = xs at *
  have HA2 := hid (show ∀ w2 : World, PlacePost sb tv uv gv ts us gs pk rc s d u urg W0 w2 → w2.heap[w.heap.size + 1 + 1]? = some (.cells #[.int .i64 0, .int .u64 0, .int .i64 0, .pointer none, .int .u64 0, .int .i64 0, .pointer none, .bool false] 42 (0, 0)) from fun w2 g2 =>
    (HX.out w2 fun k hk hn => g2.keep.block k (by have := HZ.out; omega) hn).2)
  have HN := hid (show (w.heap.size ≤ w.heap.size + 1 + 1 ∧ w.heap.size + 1 + 1 < W0.heap.size) from by have := HZ.out; exact ⟨by omega, by omega⟩)
  clear hdc hx HX HZ
  rw [hW0] at c3 c4 c5 c6 c7 c8 c9 c10 c11 c12
  rw [hW0] at HFW HB HA2 HN
  clear hW0
  go_enter Try.func13, Try.ntmps13
  go_wp2_with (first
    | (go_at_call 26; refine (HC.out _ HB.out HFW.out).mono ?_; rintro q w2 ⟨rfl, g2⟩; obtain ⟨y0, y1, y2, y3, y4, y5, y6, y7, y8⟩ := row8 (HA2.out w2 g2)))
  exact bodyPost_ret (v := .agg #[.int .i64 r, .int .u64 sn, .int .i64 ss, .pointer none, .int .u64 xn, .int .i64 xs, .pointer none, .bool late]) (by simp [results, Try.results13, go_sem, y0, y1, y2, y3, y4, y5, y6, y7]) rfl
    ⟨rfl, g2.out HB.out HO.out (by (iterate 8 refine Keep.set ?_ (.inl HN.out) _); exact Keep.refl _ _)⟩
end Go.Proofs.Qxb6604397a
