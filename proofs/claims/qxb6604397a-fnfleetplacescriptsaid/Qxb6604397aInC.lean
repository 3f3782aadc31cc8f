/-
  Seat b6604397a. slices.Insert over times (48): the road to a new row.
-/
import Derived.Test.Qxb6604397aInB
namespace Go.Proofs.Qxb6604397a
open Go.RowKit

theorem zero_size40 (k : Nat) : (Builtin.zeroCells (Value.agg #[.int .u64 0, .int .i64 0, .pointer none]).cells k).size = k * 3 := by
  simp [Builtin.zeroCells, Value.cells]

set_option maxRecDepth 100000 in
theorem ins48_grow (base n i g cap vb : Nat) (cur : Array Value) (xs vs : List Value) (vcur : Array Value) (w : World) (hn : n ≤ 1000000) (hin : i < n) (hroom : cap < n + 1) (hnc : n ≤ cap) (hbase : base ≤ w.heap.size) (hh : w.heap[g]? = some (.cells cur 40 (0, 0))) (hcs : cur.size = cap * 3)
    (htk : cur.toList.take (n * 3) = xs) (hvh : w.heap[vb]? = some (.cells vcur 40 (0, 0))) (hvc : vcur.toList = vs) (hvl : vs.length = 3) (h1 : ∀ u ∈ vs, u.oneCell' = true) (h1x : ∀ u ∈ xs, u.oneCell' = true) :
    Calls Try.prog 48 #[.slice (some ⟨g, 0, none⟩) n cap, .int .i64 i, .slice (some ⟨vb, 0, none⟩) 1 1] w fun e w' => InsPost40 base n (i * 3) xs vs (some g) w e w' := by
  obtain ⟨i0, hi, hz0, hzs, hzb⟩ := info_parts info40
  have hgw : g < w.heap.size := (Array.getElem?_eq_some_iff.1 hh).1
  have hvw : vb < w.heap.size := (Array.getElem?_eq_some_iff.1 hvh).1
  have hxl : xs.length = n * 3 := by rw [← htk, List.length_take, Array.length_toList, hcs]; omega
  have z1 : ¬ ((i : Int) = (n : Int)) := by omega
  have z2 : (cap : Int) < (n : Int) + 1 := by omega
  have z4 : (i : Int) ≤ n := by omega
  have z5 : (i : Int) + 1 ≤ (n : Int) + 1 := by omega
  have z6 : 0 ≤ (i : Int) + 1 := by omega
  have z9 : IntKind.i64.wrap ((i : Int) + 1) = (i : Int) + 1 := by
    simp only [IntKind.wrap, IntKind.bits, IntKind.signed]; simp; omega
  have z10 : (n : Int) + 1 - (i : Int) = ((n + 1 - i : Nat) : Int) := by omega
  have hik : i + (n + 1 - i) = n + 1 := by omega
  have hcurj : ∀ j v, xs[j]? = some v → cur[j]? = some v := fun j v hj => by
    have hjl : j < n * 3 := by have := (List.getElem?_eq_some_iff.1 hj).1; omega
    rw [← htk, List.getElem?_take, if_pos (by omega)] at hj
    simpa using hj
  have hold : (Builtin.firstCells i0.size i (.slice (some ⟨g, 0, none⟩) i cap)).run Try.prog w.drew = .ok (xs.take (i * 3)).toArray w.drew := by
    rw [hzs]
    exact run_firstCells_some w.drew 3 i ⟨g, 0, none⟩ i cap (xs.take (i * 3)) (by rw [List.length_take]; omega) (fun j v hj => by
      rw [Addr.add_lit, Nat.zero_add]
      show w.cell? ⟨g, j, none⟩ = _
      rw [cell_of_row w _ _ _ _ _ hh]
      rw [List.getElem?_take] at hj
      split at hj
      · exact hcurj j v hj
      · cases hj)
  have hrz : ∀ ty, (Builtin.append_ #[53, 3] ty #[.slice (some ⟨g, 0, none⟩) i cap, .int .i64 ((n : Int) + 1 - (i : Int))]).run Try.prog w =
      .ok (.slice (some ⟨w.heap.size, 0, none⟩) (n + 1) (grownCap w (n + 1) cap 40)) (w.drew.alloc (.cells ((xs.take (i * 3)).toArray ++ Builtin.zeroCells (Value.agg #[.int .u64 0, .int .i64 0, .pointer none]).cells (n + 1 - i) ++ Builtin.zeroCells (Value.agg #[.int .u64 0, .int .i64 0, .pointer none]).cells (grownCap w (n + 1) cap 40 - (n + 1))) 40)) := fun ty => by
    have h := Lib.run_append_grow_zeros w 53 3 ty 40 i0 _ .i64 .i64 Try.underlying53 Try.underlying3 hi hz0 (some ⟨g, 0, none⟩) i cap (xs.take (i * 3)) hold (n + 1 - i) (by omega) (by omega) (by omega) (by omega) (by rw [hzb]; omega) (by rw [hzb, hik]; exact growslice_fits hroom (by omega))
    rw [hik] at h
    rw [z10]
    exact h
  obtain ⟨G, hG⟩ : ∃ G, G = grownCap w (n + 1) cap 40 := ⟨_, rfl⟩
  have hGn : n + 1 ≤ G := by rw [hG]; exact grownCap_ge w _ _ _
  have hG63 : G ≤ maxLen := by rw [hG]; exact grownCap_le_maxLen w (n + 1) cap 40 (by unfold maxLen; omega)
  obtain ⟨Z, hZ⟩ : ∃ Z : List Value, Z = (Builtin.zeroCells (Value.agg #[.int .u64 0, .int .i64 0, .pointer none]).cells (n + 1 - i) ++ Builtin.zeroCells (Value.agg #[.int .u64 0, .int .i64 0, .pointer none]).cells (G - (n + 1))).toList := ⟨_, rfl⟩
  have hZl : Z.length = (G - i) * 3 := by rw [hZ, Array.length_toList, Array.size_append, zero_size40, zero_size40]; omega
  obtain ⟨ROW, hROW⟩ : ∃ ROW : Array Value, ROW = (xs.take (i * 3) ++ Z).toArray := ⟨_, rfl⟩
  have hRs : ROW.size = G * 3 := by rw [hROW]; simp; omega
  have hrow2 : (xs.take (i * 3)).toArray ++ Builtin.zeroCells (Value.agg #[.int .u64 0, .int .i64 0, .pointer none]).cells (n + 1 - i) ++ Builtin.zeroCells (Value.agg #[.int .u64 0, .int .i64 0, .pointer none]).cells (grownCap w (n + 1) cap 40 - (n + 1)) = ROW := by
    rw [hROW, hZ, ← hG]
    apply Array.toList_inj.1
    simp
  rw [hrow2, ← hG] at hrz
  have HZ := hid hrz
  obtain ⟨X, hX⟩ : ∃ X, X = xs.drop (i * 3) := ⟨_, rfl⟩
  have hXl : X.length = (n - i) * 3 := by rw [hX, List.length_drop, hxl]; omega
  have A5 := hid (show ∀ u ∈ X, u.oneCell' = true from fun u hu => h1x u (by rw [hX] at hu; exact List.mem_of_mem_drop hu))
  obtain ⟨R1, hR1⟩ : ∃ R1 : List Value, R1 = splice ROW.toList (i * 3) vs := ⟨_, rfl⟩
  have hRl : ROW.toList.length = G * 3 := by rw [Array.length_toList, hRs]
  have hR1l : R1.length = G * 3 := by rw [hR1, length_splice _ _ _ (by omega), hRl]
  obtain ⟨R2, hR2⟩ : ∃ R2 : List Value, R2 = splice R1 ((i + 1) * 3) X := ⟨_, rfl⟩
  have hR2l : R2.length = G * 3 := by rw [hR2, length_splice _ _ _ (by omega), hR1l]
  have HT := hid (show R2.take ((n + 1) * 3) = xs.take (i * 3) ++ (vs ++ xs.drop (i * 3)) from by
    have := splice_new Z xs vs (i * 3) 3 (by omega) hvl
    rw [hR2, hR1, hX, hROW, show (n + 1) * 3 = xs.length + 3 by omega, show (i + 1) * 3 = i * 3 + 3 by omega]
    exact this)
  obtain ⟨W1, hW1⟩ : ∃ W1, W1 = w.drew.alloc (.cells ROW 40) := ⟨_, rfl⟩
  have e1 : W1.heap[w.heap.size]? = some (.cells ROW 40 (0, 0)) := by rw [hW1]; exact heap_alloc_new w.drew _
  have e2 : ∀ k, k < w.heap.size → W1.heap[k]? = w.heap[k]? := fun k hk => by rw [hW1]; exact heap_alloc_old w.drew _ hk
  have HM := hid (show n - i = Nat.min (n - i) (n - i) from by
    show _ = min _ _
    rw [Nat.min_def]; split <;> omega)
  have HM1 := hid (show 1 = Nat.min 1 (n + 1 - i) from by
    show _ = min _ _
    rw [Nat.min_def]; split <;> omega)
  have f1 : (W1.setRow w.heap.size R1.toArray).drew.heap[w.heap.size]? = some (.cells R1.toArray 40 (0, 0)) := setRow_heap W1 _ ROW _ 40 _ e1
  have f2 : ∀ k, k < w.heap.size → (W1.setRow w.heap.size R1.toArray).drew.heap[k]? = w.heap[k]? := fun k hk => (setRow_other W1 _ k _ (by omega)).trans (e2 k hk)
  have A1 := hid (show ∀ j u, vs[j]? = some u → W1.cell? ((⟨vb, 0, none⟩ : Addr).add j) = some u from fun j u hj => by
    rw [Addr.add_lit, Nat.zero_add, cell_of_row W1 _ _ _ _ _ ((e2 _ hvw).trans hvh)]
    rw [← hvc] at hj
    simpa using hj)
  have A3 := hid (show ∀ j v, X[j]? = some v → (W1.setRow w.heap.size R1.toArray).drew.cell? ((⟨g, i * 3, none⟩ : Addr).add j) = some v from fun j v hj => by
    rw [Addr.add_lit, cell_of_row _ _ _ _ _ _ ((f2 _ hgw).trans hh)]
    rw [hX, List.getElem?_drop] at hj
    exact hcurj _ v hj)
  have F1 := hid (show i * 3 + vs.length ≤ ROW.size from by omega)
  have F2 := hid (show (i + 1) * 3 + X.length ≤ R1.toArray.size from by simp; omega)
  have E1 := hid e1
  have E2 := hid f1
  have H1 := hid hR1
  have HE := hid (show InsPost40 base n (i * 3) xs vs (some g) w (.returned (.slice (some ⟨w.heap.size, 0, none⟩) (n + 1) G)) ((W1.setRow w.heap.size R1.toArray).drew.setRow w.heap.size (splice R1.toArray.toList ((i + 1) * 3) X).toArray) from by
    refine ⟨_, rfl, ⟨by simp; omega, .inr ⟨w.heap.size, G, R2.toArray, rfl, hbase, ?_, hGn, hG63, by simp [hR2l], HT.out⟩⟩, ?_⟩
    · rw [List.toList_toArray, ← hR2]
      exact setRow_heap _ _ _ _ 40 _ f1
    · refine ⟨⟨by rw [hW1]; rfl, by rw [hW1]; rfl, by rw [hW1]; rfl, by rw [hW1]; simp, fun k hk hne => ?_⟩, fun k hk => .inr (Nat.le_of_eq (Option.some.inj hk))⟩
      rw [setRow_other _ _ _ _ (by omega)]
      exact f2 k hk)
  have z7 : ¬ G = i + 1 := by omega
  have z8 : ¬ cap = i := by omega
  have z11 : ¬ G = i := by omega
  have hG63' : G ≤ 9223372036854775807 := by unfold maxLen at hG63; omega
  rw [← hW1] at HZ
  clear hX hR1 hR2 htk hZ hROW hrow2 hrz hold hG hG63 z10 hik e1 e2 f1 f2 hcurj hi hz0 hzs hzb hW1
  go_enter Try.func48, Try.ntmps48
  go_wp2_with (first
    | (at_builtin; refine Lib.wpList_append_run _ rfl _ _ _ _ rfl _ _ rfl rfl _ _ (HZ.out _) ?_)
    | (with_reducible show wpList _ _ _ (Oper.mk _ (Op.call _) _ _ _ _ :: _) _ _; refine wpList_copy_k rfl (.tmp 43) (.tmp 44) 53 53 rfl 40 3 1 Try.underlying53 size40 w.heap.size (i * 3) (n + 1 - i) (G - i) ⟨vb, 0, none⟩ 1 1 rfl rfl ROW 40 E1.out vs HM1.out (by omega) A1.out F1.out h1 ?_; rw [← H1.out]))


  go_region_law (refine step_copy_k rfl (.tmp 50) (.tmp 53) 53 53 rfl 40 3 (n - i) Try.underlying53 size40 w.heap.size ((i + 1) * 3) (n - i) (G - (i + 1)) ⟨g, i * 3, none⟩ (n - i) (cap - i) (by simp [Act.eval, Act.put]) (by simp [Act.eval, Act.put]) R1.toArray 40 E2.out X HM.out hXl A3.out F2.out A5.out ?_)
  go_wp2
  go_ret
  exact HE.out

/-- slices.Insert of one time at i, whatever the road. -/
theorem ins48 (base n i vb : Nat) (v : Value) (xs vs : List Value) (vcur : Array Value) (w : World) (hn : n ≤ 1000000) (hin : i ≤ n) (hown : w.ownsRow base 40 3 v n xs) (hbase : base ≤ w.heap.size) (hvb : v.ownBlock ≠ some vb) (hvh : w.heap[vb]? = some (.cells vcur 40 (0, 0)))
    (hvc : vcur.toList = vs) (hvl : vs.length = 3) (h1 : ∀ u ∈ vs, u.oneCell' = true) (h1x : ∀ u ∈ xs, u.oneCell' = true) :
    Calls Try.prog 48 #[v, .int .i64 i, .slice (some ⟨vb, 0, none⟩) 1 1] w fun e w' => InsPost40 base n (i * 3) xs vs v.ownBlock w e w' := by
  rcases Nat.lt_or_ge i n with hlt | hge
  · rcases hown.2 with ⟨_, h0⟩ | ⟨g, cap, cur, rfl, hg, hh, hnc, hcm, hcs, htk⟩
    · omega
    · rcases Nat.lt_or_ge cap (n + 1) with hr | hr
      · exact ins48_grow base n i g cap vb cur xs vs vcur w hn hlt hr hnc hbase hh hcs htk hvh hvc hvl h1 h1x
      · exact ins48_room base n i g cap vb cur xs vs vcur w hn hlt hr hcm hg hh hcs htk (fun e => hvb (by rw [e]; rfl)) hvh hvc hvl h1 h1x
  · obtain rfl : i = n := by omega
    exact ins48_end base i v xs vs vb w hn hown hbase hvl (fun j u hj => by
      rw [Addr.add_lit, Nat.zero_add, cell_of_row w _ _ _ _ _ hvh]
      rw [← hvc] at hj
      simpa using hj) h1
end Go.Proofs.Qxb6604397a
