/-
  Seat b6604397a. (*Fleet).place (26): the walk.
-/
import Derived.Test.Qxb6604397aFtB
import Derived.Test.Qxb6604397aPlC
namespace Go.Proofs.Qxb6604397a
open Go.RowKit

theorem row3 {W : World} {B : Nat} {t : TypeId} {a0 a1 a2 : Value} (h : W.heap[B]? = some (.cells #[a0, a1, a2] t (0, 0))) :
    W.cell? ⟨B, 0, none⟩ = some a0 ∧ W.cell? ⟨B, 1, none⟩ = some a1 ∧ W.cell? ⟨B, 2, none⟩ = some a2 :=
  ⟨cell_of_row W _ _ _ t (0, 0) h, cell_of_row W _ _ _ t (0, 0) h, cell_of_row W _ _ _ t (0, 0) h⟩

set_option maxRecDepth 100000 in
set_option maxHeartbeats 8000000 in
theorem place26 (fb lb : Nat) (ps : Array Value) (r : Nat) (sb : Nat) (tv uv gv : Value) (ts : List Int) (us gs : List Nat) (pk : Nat) (rc : Int) (e l d s : Int) (u : Nat) (w : World) (hn : ts.length ≤ 900000) (hs : Sorted ts) (hu : us.length = ts.length) (hg : gs.length = ts.length)
    (he : In61 e) (hl : In61 l) (hd : In61 d) (hs' : In61 s) (hF : Flt w fb lb ps) (hr : r < 3) (hp : ps[r]? = some (.pointer (some ⟨sb, 0, none⟩))) (h : Sched w sb tv uv gv ts us gs pk rc) :
    Calls Try.prog 26 #[.pointer (some ⟨fb, 0, none⟩), .int .i64 r, .agg (jobA e l d), .agg (tm s), .float .f64 u] w fun q w' => q = .returned (.agg (plA r s (s + d) (decide (l < s + d)))) ∧ PlacePost sb tv uv gv ts us gs pk rc s d u (decide (l - e - d = 0)) w w' := by
  obtain ⟨jb, hjb⟩ : ∃ o, o = Obj.cells (jobA e l d) 46 (0, 0) := ⟨_, rfl⟩
  obtain ⟨sbx, hsbx⟩ : ∃ o, o = Obj.cells (tm s) 40 (0, 0) := ⟨_, rfl⟩
  obtain ⟨zb, hzb⟩ : ∃ o, o = Obj.cells #[.int .i64 0, .int .u64 0, .int .i64 0, .pointer none, .int .u64 0, .int .i64 0, .pointer none, .bool false] 42 (0, 0) := ⟨_, rfl⟩
  obtain ⟨W0, hW0⟩ : ∃ W, W = ((w.alloc jb).alloc sbx).alloc zb := ⟨_, rfl⟩
  have hsz : W0.heap.size = w.heap.size + 3 := by rw [hW0]; simp
  have hB0 : Below w.heap.size w W0 := by rw [hW0]; exact (((Below.refl _ _).alloc (Nat.le_refl _) _).alloc (by simp) _).alloc (by simp; omega) _
  obtain ⟨hnf, hnl⟩ := flt_own hF h
  have hown : ∀ k, Own sb tv uv gv k → k < w.heap.size := fun k hk => h.lt hk
  have hflt : fb < w.heap.size ∧ lb < w.heap.size := by
    obtain ⟨fs, h1, _⟩ := hF.f
    exact ⟨(Array.getElem?_eq_some_iff.1 h1).1, (Array.getElem?_eq_some_iff.1 hF.l).1⟩
  have b0 : W0.heap[w.heap.size]? = some jb := by
    rw [hW0, heap_alloc_old _ _ (by simp; omega), heap_alloc_old _ _ (by simp)]; exact heap_alloc_new _ _
  have b1 : W0.heap[w.heap.size + 1]? = some sbx := by
    rw [hW0, heap_alloc_old _ _ (by simp)]; simpa using heap_alloc_new (w.alloc jb) sbx
  have b2 : W0.heap[w.heap.size + 2]? = some zb := by
    rw [hW0]; simpa using heap_alloc_new ((w.alloc jb).alloc sbx) zb
  have hb26 : w.heap.size < W0.heap.size := by omega
  -- what every later world agrees on
  have HX := hid (show ∀ W : World, (∀ k, k < w.heap.size + 3 → ¬ Own sb tv uv gv k → W.heap[k]? = W0.heap[k]?) →
      (W.cell? ⟨fb, 1, none⟩ = some (.slice (some ⟨lb, 0, none⟩) 3 3) ∧ W.cell? ⟨lb, r, none⟩ = some (.pointer (some ⟨sb, 0, none⟩)) ∧
        W.cell? ⟨w.heap.size, 0, none⟩ = some (.int .u64 (e % 1000000000)) ∧ W.cell? ⟨w.heap.size, 1, none⟩ = some (.int .i64 (e / 1000000000)) ∧ W.cell? ⟨w.heap.size, 2, none⟩ = some (.pointer none) ∧
        W.cell? ⟨w.heap.size, 3, none⟩ = some (.int .u64 (l % 1000000000)) ∧ W.cell? ⟨w.heap.size, 4, none⟩ = some (.int .i64 (l / 1000000000)) ∧ W.cell? ⟨w.heap.size, 5, none⟩ = some (.pointer none) ∧ W.cell? ⟨w.heap.size, 6, none⟩ = some (.int .i64 d) ∧
        W.cell? ⟨w.heap.size + 1, 0, none⟩ = some (.int .u64 (s % 1000000000)) ∧ W.cell? ⟨w.heap.size + 1, 1, none⟩ = some (.int .i64 (s / 1000000000)) ∧ W.cell? ⟨w.heap.size + 1, 2, none⟩ = some (.pointer none)) ∧
      W.heap[w.heap.size + 1 + 1]? = some (.cells #[.int .i64 0, .int .u64 0, .int .i64 0, .pointer none, .int .u64 0, .int .i64 0, .pointer none, .bool false] 42 (0, 0)) from fun W ha => by
    have no : ∀ k, w.heap.size ≤ k → ¬ Own sb tv uv gv k := fun k hk q => by have := hown k q; omega
    have a0 := (ha w.heap.size (by omega) (no _ (by omega))).trans b0
    have a1 := (ha (w.heap.size + 1) (by omega) (no _ (by omega))).trans b1
    have a2 := (ha (w.heap.size + 2) (by omega) (no _ (by omega))).trans b2
    have af := (ha fb (by omega) hnf).trans (hB0.block fb hflt.1)
    have al := (ha lb (by omega) hnl).trans (hB0.block lb hflt.2)
    have hFW := hF.kept af al
    rw [hjb, jobA] at a0
    rw [hsbx, tm_cells] at a1
    rw [hzb] at a2
    obtain ⟨q0, q1, q2, q3, q4, q5, q6, -⟩ := row7 a0
    obtain ⟨p0, p1, p2⟩ := row3 a1
    exact ⟨⟨hFW.f1, (cell_of_row W _ _ _ _ _ hFW.l).trans hp, q0, q1, q2, q3, q4, q5, q6, p0, p1, p2⟩, a2⟩)
  have HC1 := hid (show ∀ W : World, Calls Try.prog 34 #[.agg #[.int .u64 (e % 1000000000), .int .i64 (e / 1000000000), .pointer none, .int .u64 (l % 1000000000), .int .i64 (l / 1000000000), .pointer none, .int .i64 d]] W fun q w' => q = .returned (.int .i64 (l - e - d)) ∧ Below W.heap.size W w' from fun W => slack34 e l d W he hl hd)
  have HC2 := hid (show ∀ (W : World) (b : Bool), Below w.heap.size w W → Calls Try.prog 33 #[.pointer (some ⟨sb, 0, none⟩), .agg #[.int .u64 (s % 1000000000), .int .i64 (s / 1000000000), .pointer none], .int .i64 d, .float .f64 u, .bool b] W fun q w' => q = .returned (.tuple #[]) ∧ PlacePost sb tv uv gv ts us gs pk rc s d u b W w' from fun W b hW => by
    have := place33 sb tv uv gv ts us gs pk rc s d u b W hn hs hu hg hs'.1 hs'.2 hd.1 hd.2 (h.below hW (Nat.le_refl _))
    rw [tm_cells] at this
    exact this)
  have HC3 := hid (show ∀ W : World, Calls Try.prog 35 #[.agg #[.int .i64 0, .int .u64 (e % 1000000000), .int .i64 (e / 1000000000), .pointer none, .int .u64 (l % 1000000000), .int .i64 (l / 1000000000), .pointer none, .int .i64 d,
    .float .f64 0, .float .f64 0, .slice none 0 0, .float .f64 0, .int .i64 r, .int .u64 (s % 1000000000), .int .i64 (s / 1000000000), .pointer none]] W fun q w' => q = .returned (.agg #[.int .i64 r, .int .u64 (s % 1000000000), .int .i64 (s / 1000000000), .pointer none, .int .u64 ((s + d) % 1000000000), .int .i64 ((s + d) / 1000000000), .pointer none, .bool (decide (l < s + d))]) ∧ Below W.heap.size W w' from fun W => placement35 r e l d s W hd hs')
  have HO := hid hown
  have HB := hid hB0
  have HZ := hid hsz
  have hrI : (r : Int) < 3 := by omega
  rw [hjb, hsbx, hzb, jobA, tm_cells] at hW0
  rw [tm_cells]
  unfold jobA plA
  obtain ⟨⟨c1, c2, c3, c4, c5, c6, c7, c8, c9, c10, c11, c12⟩, -⟩ := HX.out W0 (fun _ _ _ => rfl)
  clear hjb hsbx hzb b0 b1 b2 hflt hnf hnl hp hF h he hl hd hs' hn hs hu hg hsz hB0 hown hb26
  generalize hdc : decide (l - e - d = 0) = urg at *
  generalize l - e - d = sl at *
  generalize decide (l < s + d) = late at *
  generalize hx : s + d = x at *
  generalize e % 1000000000 = en at *
  generalize e / 1000000000 = es at *
  generalize l % 1000000000 = ln at *
  generalize l / 1000000000 = ls at *
  generalize s % 1000000000 = sn at *
  generalize s / 1000000000 = ss at *
  generalize x % 1000000000 = xn at *
  generalize x / 1000000000 = xs at *
  have HA1 := hid (show ∀ w1 : World, Below W0.drew.heap.size W0.drew w1 → (w1.cell? ⟨fb, 1, none⟩ = some (.slice (some ⟨lb, 0, none⟩) 3 3) ∧ w1.cell? ⟨lb, r, none⟩ = some (.pointer (some ⟨sb, 0, none⟩)) ∧
        w1.cell? ⟨w.heap.size, 0, none⟩ = some (.int .u64 en) ∧ w1.cell? ⟨w.heap.size, 1, none⟩ = some (.int .i64 es) ∧ w1.cell? ⟨w.heap.size, 2, none⟩ = some (.pointer none) ∧
        w1.cell? ⟨w.heap.size, 3, none⟩ = some (.int .u64 ln) ∧ w1.cell? ⟨w.heap.size, 4, none⟩ = some (.int .i64 ls) ∧ w1.cell? ⟨w.heap.size, 5, none⟩ = some (.pointer none) ∧ w1.cell? ⟨w.heap.size, 6, none⟩ = some (.int .i64 d) ∧
        w1.cell? ⟨w.heap.size + 1, 0, none⟩ = some (.int .u64 sn) ∧ w1.cell? ⟨w.heap.size + 1, 1, none⟩ = some (.int .i64 ss) ∧ w1.cell? ⟨w.heap.size + 1, 2, none⟩ = some (.pointer none)) ∧ Below w.heap.size w w1 ∧ ∀ k, k < w.heap.size + 3 → w1.heap[k]? = W0.heap[k]? from fun w1 g1 => by
    have q : ∀ k, k < w.heap.size + 3 → w1.heap[k]? = W0.heap[k]? := fun k hk => g1.block k (by have := HZ.out; show k < W0.heap.size; omega)
    refine ⟨(HX.out w1 fun k hk _ => q k hk).1, HB.out.drew.trans (g1.mono (by have := HB.out.size; simpa using this)), q⟩)
  have HA2 := hid (show ∀ (w1 w2 : World) (b : Bool), Below W0.drew.heap.size W0.drew w1 → PlacePost sb tv uv gv ts us gs pk rc s d u b w1 w2 → (w2.cell? ⟨fb, 1, none⟩ = some (.slice (some ⟨lb, 0, none⟩) 3 3) ∧ w2.cell? ⟨lb, r, none⟩ = some (.pointer (some ⟨sb, 0, none⟩)) ∧
        w2.cell? ⟨w.heap.size, 0, none⟩ = some (.int .u64 en) ∧ w2.cell? ⟨w.heap.size, 1, none⟩ = some (.int .i64 es) ∧ w2.cell? ⟨w.heap.size, 2, none⟩ = some (.pointer none) ∧
        w2.cell? ⟨w.heap.size, 3, none⟩ = some (.int .u64 ln) ∧ w2.cell? ⟨w.heap.size, 4, none⟩ = some (.int .i64 ls) ∧ w2.cell? ⟨w.heap.size, 5, none⟩ = some (.pointer none) ∧ w2.cell? ⟨w.heap.size, 6, none⟩ = some (.int .i64 d) ∧
        w2.cell? ⟨w.heap.size + 1, 0, none⟩ = some (.int .u64 sn) ∧ w2.cell? ⟨w.heap.size + 1, 1, none⟩ = some (.int .i64 ss) ∧ w2.cell? ⟨w.heap.size + 1, 2, none⟩ = some (.pointer none)) ∧ ∀ k, k < w.heap.size + 3 → ¬ Own sb tv uv gv k → w2.heap[k]? = W0.heap[k]? from fun w1 w2 b g1 g2 => by
    have q : ∀ k, k < w.heap.size + 3 → ¬ Own sb tv uv gv k → w2.heap[k]? = W0.heap[k]? := fun k hk hn => (g2.keep.block k (by have := g1.size; have := HZ.out; simp at *; omega) hn).trans ((HA1.out w1 g1).2.2 k hk)
    exact ⟨(HX.out w2 q).1, q⟩)
  have HU := hid hdc
  clear hdc hx
  go_enter Try.func26, Try.ntmps26
  go_wp2
  rw [← hW0]
  have HW := hid hW0
  clear hW0
  go_region_held3 (fun W => W.cell? ⟨fb, 1, none⟩ = some (.slice (some ⟨lb, 0, none⟩) 3 3) ∧ W.cell? ⟨lb, r, none⟩ = some (.pointer (some ⟨sb, 0, none⟩)) ∧
        W.cell? ⟨w.heap.size, 0, none⟩ = some (.int .u64 en) ∧ W.cell? ⟨w.heap.size, 1, none⟩ = some (.int .i64 es) ∧ W.cell? ⟨w.heap.size, 2, none⟩ = some (.pointer none) ∧
        W.cell? ⟨w.heap.size, 3, none⟩ = some (.int .u64 ln) ∧ W.cell? ⟨w.heap.size, 4, none⟩ = some (.int .i64 ls) ∧ W.cell? ⟨w.heap.size, 5, none⟩ = some (.pointer none) ∧ W.cell? ⟨w.heap.size, 6, none⟩ = some (.int .i64 d) ∧
        W.cell? ⟨w.heap.size + 1, 0, none⟩ = some (.int .u64 sn) ∧ W.cell? ⟨w.heap.size + 1, 1, none⟩ = some (.int .i64 ss) ∧ W.cell? ⟨w.heap.size + 1, 2, none⟩ = some (.pointer none)) (first | go_keep | exact x2 | exact x1)
    ((first
      | (go_at_call 34; refine (HC1.out _).mono ?_; rintro q w1 ⟨rfl, g1⟩; obtain ⟨x1, B1, -⟩ := HA1.out w1 g1)
      | (go_at_call 33; refine (HC2.out _ _ B1).mono ?_; rintro q w2 ⟨rfl, g2⟩; obtain ⟨x2, A2⟩ := HA2.out w1 w2 _ g1 g2)))
  have hw1 : w.heap.size + 3 ≤ w1.heap.size := by have h1 := g1.size; have h2 := HZ.out; simp at h1; omega
  have hw2 : w1.heap.size ≤ w2.heap.size := g2.keep.size
  have HG := hid (show PlacePost sb tv uv gv ts us gs pk rc s d u urg w1 w2 from by
    have h1 : (sl == 0) = urg := HU.out
    rw [h1] at g2
    exact g2)
  have HA3 := hid (show ∀ w3 : World, Below w2.heap.size w2 w3 → w3.heap[w.heap.size + 1 + 1]? = some (.cells #[.int .i64 0, .int .u64 0, .int .i64 0, .pointer none, .int .u64 0, .int .i64 0, .pointer none, .bool false] 42 (0, 0)) from fun w3 g3 =>
    (HX.out w3 fun k hk hn => (g3.block k (by omega)).trans (A2 k hk hn)).2)
  obtain ⟨z1, z2, z3, z4, z5, z6, z7, z8, z9, z10, z11, z12⟩ := x2
  clear c1 c2 c3 c4 c5 c6 c7 c8 c9 c10 c11 c12 x1 A2 g2 g1 HA1 HA2 HX HC1 HC2 HW
  go_wp2_with (first
    | (go_at_call 35; refine (HC3.out _).mono ?_; rintro q w3 ⟨rfl, g3⟩; obtain ⟨y0, y1, y2, y3, y4, y5, y6, y7, y8⟩ := row8 (HA3.out w3 g3)))
  have hn : (w.heap.size ≤ w.heap.size + 1 + 1 ∧ w.heap.size + 1 + 1 < w1.heap.size) ∨ w3.heap.size ≤ w.heap.size + 1 + 1 := .inl ⟨by omega, by omega⟩
  exact bodyPost_ret (v := .agg #[.int .i64 r, .int .u64 sn, .int .i64 ss, .pointer none, .int .u64 xn, .int .i64 xs, .pointer none, .bool late]) (by simp [results, Try.results26, go_sem, y0, y1, y2, y3, y4, y5, y6, y7]) rfl
    ⟨rfl, (HG.out.below g3).out B1 HO.out (by (iterate 8 refine Keep.set ?_ hn _); exact Keep.refl _ _)⟩
end Go.Proofs.Qxb6604397a
