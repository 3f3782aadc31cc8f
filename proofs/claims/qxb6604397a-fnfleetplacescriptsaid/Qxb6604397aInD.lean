/-
  Seat b6604397a. slices.Insert over numbers (49): InB's and InC's text, the names turned.
-/
import Derived.Test.Qxb6604397aInC
namespace Go.Proofs.Qxb6604397a
open Go.RowKit


theorem info22 : (Try.prog.info? 22).map (fun i => (i.zero, i.size, i.bytes)) = some (some (.float .f64 0), 1, 8) := by kernel_rfl
theorem size22 : (Try.prog.info? 22).map (·.size) = some 1 := by kernel_rfl

/-- What an Insert leaves: a slice in memory of the call's own that holds xs with the cells vs laid in at p. -/
def InsPost22 (base n p : Nat) (xs vs : List Value) (row : Option Nat) (w : World) (e : Ending) (w' : World) : Prop :=
  ∃ v', e = .returned v' ∧ w'.ownsRow base 22 1 v' (n + 1) (xs.take p ++ (vs ++ xs.drop p)) ∧ w.grownBy w' row ∧ ∀ k, v'.ownBlock = some k → row = some k ∨ w.heap.size ≤ k

set_option maxRecDepth 100000 in
theorem ins49_end (base n : Nat) (v : Value) (xs vs : List Value) (vb : Nat) (w : World) (hn : n ≤ 1000000) (hown : w.ownsRow base 22 1 v n xs) (hbase : base ≤ w.heap.size) (hvl : vs.length = 1)
    (hvs : ∀ j u, vs[j]? = some u → w.cell? ((⟨vb, 0, none⟩ : Addr).add j) = some u) (h1 : ∀ u ∈ vs, u.oneCell' = true) :
    Calls Try.prog 49 #[v, .int .i64 n, .slice (some ⟨vb, 0, none⟩) 1 1] w fun e w' => InsPost22 base n n xs vs v.ownBlock w e w' := by
  obtain ⟨i0, hi, hz0, hz1, hz2⟩ := info_parts info22
  have hxl : xs.length = n * 1 := hown.1
  have hfin : ∀ (v' : Value) (w' : World), w'.ownsRow base 22 1 v' (n + 1) (xs ++ vs) → w'.ownsRow base 22 1 v' (n + 1) (xs.take n ++ (vs ++ xs.drop n)) := fun v' w' h => by
    rw [List.take_of_length_le (by omega), List.drop_of_length_le (by omega), List.append_nil]; exact h
  have HF := hid hfin
  clear hfin
  rcases hown.2 with ⟨rfl, rfl⟩ | ⟨g, cap, cur, rfl, hg, hh, hnc, hcm, hcs, htk⟩
  · go_enter Try.func49, Try.ntmps49
    go_wp2_with (first
      | (at_builtin; refine wpList_append_apart _ rfl _ _ 55 rfl base 22 i0 (.float .f64 0) 1 8 Try.underlying55 hi hz0 hz1 hz2 rfl (by decide) _ _ _ rfl hown ⟨vb, 0, none⟩ 1 1 vs rfl (by omega) hvs h1 (by unfold maxLen; omega) (by omega) hbase ?_; intro v' w1 hown1 hgrow1 hap))
    go_ret
    exact ⟨v', rfl, HF.out v' _ hown1, hgrow1, hap⟩
  · have hnc' : (n : Int) ≤ cap := by omega
    go_enter Try.func49, Try.ntmps49
    go_wp2_with (first
      | (at_builtin; refine wpList_append_apart _ rfl _ _ 55 rfl base 22 i0 (.float .f64 0) 1 8 Try.underlying55 hi hz0 hz1 hz2 rfl (by decide) _ _ _ rfl hown ⟨vb, 0, none⟩ 1 1 vs rfl (by omega) hvs h1 (by unfold maxLen; omega) (by omega) hbase ?_; intro v' w1 hown1 hgrow1 hap))
    all_goals
      go_ret
      exact ⟨v', rfl, HF.out v' _ hown1, hgrow1, hap⟩

/-- The library's own 'overlaps' of two slices in two blocks. -/
theorem overlaps52 (vb g o kA kB lb cb : Nat) (tA tB : TypeId) (w : World) (hne : vb ≠ g) (hsa : w.shape? vb = some (tA, kA)) (hsb : w.shape? g = some (tB, kB)) (hkB : kB ≠ 0) (hfa : w.frozen? ⟨vb, 0, none⟩ = false) (hfe : w.frozen? ⟨vb, kA, none⟩ = false) :
    (callFunc 52 #[.slice (some ⟨vb, 0, none⟩) 1 1, .slice (some ⟨g, o, none⟩) lb cb]).run Try.prog w = .ok (.value (.bool false)) w := by
  rw [run_callFunc_extern Try.func52 (by kernel_rfl) (by kernel_rfl) (by kernel_rfl) (e := Extern.SlicesOverlaps.overlaps #[55, 55] #[4]) (by kernel_rfl),
    Lib.run_overlaps_apart w 55 4 22 Try.underlying55 1 (fun w => by kernel_rfl) ⟨vb, 0, none⟩ ⟨g, o, none⟩ 1 1 lb cb hne tA tB kA kB hsa hsb hkB hfa hfe]
  rfl

set_option maxRecDepth 100000 in
theorem ins49_room (base n i g cap vb : Nat) (cur : Array Value) (xs vs : List Value) (vcur : Array Value) (w : World) (hn : n ≤ 1000000) (hin : i < n) (hroom : n + 1 ≤ cap) (hcm : cap ≤ maxLen) (hg : base ≤ g) (hh : w.heap[g]? = some (.cells cur 22 (0, 0))) (hcs : cur.size = cap * 1)
    (htk : cur.toList.take (n * 1) = xs) (hvb : vb ≠ g) (hvh : w.heap[vb]? = some (.cells vcur 22 (0, 0))) (hvc : vcur.toList = vs) (hvl : vs.length = 1) (h1 : ∀ u ∈ vs, u.oneCell' = true) (h1x : ∀ u ∈ xs, u.oneCell' = true) :
    Calls Try.prog 49 #[.slice (some ⟨g, 0, none⟩) n cap, .int .i64 i, .slice (some ⟨vb, 0, none⟩) 1 1] w fun e w' => InsPost22 base n i xs vs (some g) w e w' := by
  have hov := fun o lb cb => overlaps52 vb g o vcur.size cur.size lb cb 22 22 w hvb (by simp [World.shape?, hvh]) (by simp [World.shape?, hh]) (by omega) (frozen_of_row w _ _ _ _ hvh) (frozen_of_row w _ _ _ _ hvh)
  have hxl : xs.length = n * 1 := by rw [← htk, List.length_take, Array.length_toList, hcs]; omega
  have z1 : ¬ ((i : Int) = (n : Int)) := by omega
  have z2 : ¬ ((cap : Int) < (n : Int) + 1) := by omega
  have z3 : (n : Int) + 1 ≤ cap := by omega
  have z4 : (i : Int) ≤ n := by omega
  have z5 : (i : Int) + 1 ≤ (n : Int) + 1 := by omega
  have z6 : 0 ≤ (i : Int) + 1 := by omega
  have z10 : (i : Int) ≤ (n : Int) + 1 := by omega
  have z7 : ¬ cap = i + 1 := by omega
  have z8 : ¬ cap = i := by omega
  have z9 : IntKind.i64.wrap ((i : Int) + 1) = (i : Int) + 1 := by
    simp only [IntKind.wrap, IntKind.bits, IntKind.signed]; simp; omega
  have hcl : cur.toList.length = cap * 1 := by rw [Array.length_toList, hcs]
  have HCL := hid hcl
  obtain ⟨X, hX⟩ : ∃ X, X = xs.drop i := ⟨_, rfl⟩
  have hXl : X.length = (n - i) * 1 := by rw [hX, List.length_drop, hxl]; omega
  have A3 := hid (show ∀ j v, X[j]? = some v → w.drew.cell? ((⟨g, i, none⟩ : Addr).add j) = some v from fun j v hj => by
    have hjl : j < (n - i) * 1 := by have := (List.getElem?_eq_some_iff.1 hj).1; omega
    rw [Addr.add_lit]
    show w.cell? ⟨g, i + j, none⟩ = _
    rw [cell_of_row w _ _ _ _ _ hh]
    rw [hX, ← htk, List.getElem?_drop, List.getElem?_take, if_pos (by omega)] at hj
    simpa using hj)
  have A5 := hid (show ∀ u ∈ X, u.oneCell' = true from fun u hu => h1x u (by rw [hX] at hu; exact List.mem_of_mem_drop hu))
  obtain ⟨R1, hR1⟩ : ∃ R1 : List Value, R1 = splice cur.toList (i + 1) X := ⟨_, rfl⟩
  have hR1l : R1.length = cap * 1 := by rw [hR1, length_splice _ _ _ (by omega), hcl]
  obtain ⟨R2, hR2⟩ : ∃ R2 : List Value, R2 = splice R1 i vs := ⟨_, rfl⟩
  have hR2l : R2.length = cap * 1 := by rw [hR2, length_splice _ _ _ (by omega), hR1l]
  have HT := hid (show R2.take ((n + 1) * 1) = xs.take i ++ (vs ++ xs.drop i) from by
    have := splice_shift cur.toList xs vs i 1 (by rw [hxl]; exact htk) (by omega) (by omega) hvl
    rw [hR2, hR1, hX, show (n + 1) * 1 = xs.length + 1 by omega]
    exact this)
  have H1 := hid hR1
  have H2 := hid hR2
  have HH := hid hh
  have HV := hid (show ∀ W : World, W.heap[vb]? = some (.cells vcur 22 (0, 0)) → ∀ j u, vs[j]? = some u → W.cell? ((⟨vb, 0, none⟩ : Addr).add j) = some u from fun W hW j u hj => by
    rw [Addr.add_lit, Nat.zero_add, cell_of_row W _ _ _ _ _ hW]
    rw [← hvc] at hj
    simpa using hj)
  have HM := hid (show n - i = Nat.min (n + 1 - i) (n - i) from by
    show _ = min _ _
    rw [Nat.min_def]; split <;> omega)
  have HM1 := hid (show 1 = Nat.min 1 (n + 1 - i) from by
    show _ = min _ _
    rw [Nat.min_def]; split <;> omega)
  have hG1 : (w.drew.setRow g R1.toArray).heap[g]? = some (.cells R1.toArray 22 (0, 0)) := setRow_heap w.drew g cur _ 22 _ hh
  have hG2 : (w.drew.setRow g R1.toArray).heap[vb]? = some (.cells vcur 22 (0, 0)) := (setRow_other w.drew g vb _ hvb).trans hvh
  have HG1 := hid hG1
  have HG2 := hid hG2
  have HF := hid (show i + vs.length ≤ R1.toArray.size from by simp; omega)
  have HE := hid (show InsPost22 base n i xs vs (some g) w (.returned (.slice (some ⟨g, 0, none⟩) (n + 1) cap)) ((w.drew.setRow g R1.toArray).setRow g (splice R1.toArray.toList i vs).toArray) from by
    refine ⟨_, rfl, ⟨by simp; omega, .inr ⟨g, cap, R2.toArray, rfl, hg, ?_, hroom, hcm, by simp [hR2l], HT.out⟩⟩, ?_⟩
    · rw [List.toList_toArray, ← hR2]
      exact setRow_heap _ g _ _ 22 _ hG1
    · exact ⟨⟨rfl, rfl, rfl, by simp, fun k _ hne => by
        have hk : k ≠ g := fun e => hne (by rw [e])
        rw [setRow_other _ _ _ _ hk, setRow_other _ _ _ _ hk]; rfl⟩, fun k hk => .inl hk⟩)
  unfold maxLen at hcm
  clear hX hR1 hR2 htk hcl
  go_enter Try.func49, Try.ntmps49
  go_wp2
  go_region_law (refine step_copy_k rfl (.tmp 73) (.tmp 76) 55 55 rfl 22 1 (n - i) Try.underlying55 size22 g (i + 1) (n - i) (cap - (i + 1)) ⟨g, i, none⟩ (n + 1 - i) (cap - i) (by simp [Act.eval, Act.put]) (by simp [Act.eval, Act.put]) cur 22 HH.out X HM.out hXl A3.out (by omega) A5.out ?_; rw [← H1.out])
  go_wp2_with (first
    | (with_reducible show wpList _ _ _ (Oper.mk _ (Op.call _) _ _ _ _ :: _) _ _; refine wpList_copy_k rfl (.tmp 80) (.tmp 81) 55 55 rfl 22 1 1 Try.underlying55 size22 g i (n + 1 - i) (cap - i) ⟨vb, 0, none⟩ 1 1 rfl rfl R1.toArray 22 HG1.out vs HM1.out (by omega) (HV.out _ HG2.out) HF.out h1 ?_))
  go_ret
  exact HE.out


theorem zero_size22 (k : Nat) : (Builtin.zeroCells (Value.float .f64 0).cells k).size = k * 1 := by
  simp [Builtin.zeroCells, Value.cells]

set_option maxRecDepth 100000 in
theorem ins49_grow (base n i g cap vb : Nat) (cur : Array Value) (xs vs : List Value) (vcur : Array Value) (w : World) (hn : n ≤ 1000000) (hin : i < n) (hroom : cap < n + 1) (hnc : n ≤ cap) (hbase : base ≤ w.heap.size) (hh : w.heap[g]? = some (.cells cur 22 (0, 0))) (hcs : cur.size = cap * 1)
    (htk : cur.toList.take (n * 1) = xs) (hvh : w.heap[vb]? = some (.cells vcur 22 (0, 0))) (hvc : vcur.toList = vs) (hvl : vs.length = 1) (h1 : ∀ u ∈ vs, u.oneCell' = true) (h1x : ∀ u ∈ xs, u.oneCell' = true) :
    Calls Try.prog 49 #[.slice (some ⟨g, 0, none⟩) n cap, .int .i64 i, .slice (some ⟨vb, 0, none⟩) 1 1] w fun e w' => InsPost22 base n i xs vs (some g) w e w' := by
  obtain ⟨i0, hi, hz0, hzs, hzb⟩ := info_parts info22
  have hgw : g < w.heap.size := (Array.getElem?_eq_some_iff.1 hh).1
  have hvw : vb < w.heap.size := (Array.getElem?_eq_some_iff.1 hvh).1
  have hxl : xs.length = n * 1 := by rw [← htk, List.length_take, Array.length_toList, hcs]; omega
  have z1 : ¬ ((i : Int) = (n : Int)) := by omega
  have z2 : (cap : Int) < (n : Int) + 1 := by omega
  have z4 : (i : Int) ≤ n := by omega
  have z5 : (i : Int) + 1 ≤ (n : Int) + 1 := by omega
  have z6 : 0 ≤ (i : Int) + 1 := by omega
  have z9 : IntKind.i64.wrap ((i : Int) + 1) = (i : Int) + 1 := by
    simp only [IntKind.wrap, IntKind.bits, IntKind.signed]; simp; omega
  have z10 : (n : Int) + 1 - (i : Int) = ((n + 1 - i : Nat) : Int) := by omega
  have hik : i + (n + 1 - i) = n + 1 := by omega
  have hcurj : ∀ j v, xs[j]? = some v → cur[j]? = some v := fun j v hj => by
    have hjl : j < n * 1 := by have := (List.getElem?_eq_some_iff.1 hj).1; omega
    rw [← htk, List.getElem?_take, if_pos (by omega)] at hj
    simpa using hj
  have hold : (Builtin.firstCells i0.size i (.slice (some ⟨g, 0, none⟩) i cap)).run Try.prog w.drew = .ok (xs.take i).toArray w.drew := by
    rw [hzs]
    exact run_firstCells_some w.drew 1 i ⟨g, 0, none⟩ i cap (xs.take i) (by rw [List.length_take]; omega) (fun j v hj => by
      rw [Addr.add_lit, Nat.zero_add]
      show w.cell? ⟨g, j, none⟩ = _
      rw [cell_of_row w _ _ _ _ _ hh]
      rw [List.getElem?_take] at hj
      split at hj
      · exact hcurj j v hj
      · cases hj)
  have hrz : ∀ ty, (Builtin.append_ #[55, 3] ty #[.slice (some ⟨g, 0, none⟩) i cap, .int .i64 ((n : Int) + 1 - (i : Int))]).run Try.prog w =
      .ok (.slice (some ⟨w.heap.size, 0, none⟩) (n + 1) (grownCap w (n + 1) cap 22)) (w.drew.alloc (.cells ((xs.take i).toArray ++ Builtin.zeroCells (Value.float .f64 0).cells (n + 1 - i) ++ Builtin.zeroCells (Value.float .f64 0).cells (grownCap w (n + 1) cap 22 - (n + 1))) 22)) := fun ty => by
    have h := Lib.run_append_grow_zeros w 55 3 ty 22 i0 _ .i64 .i64 Try.underlying55 Try.underlying3 hi hz0 (some ⟨g, 0, none⟩) i cap (xs.take i) hold (n + 1 - i) (by omega) (by omega) (by omega) (by omega) (by rw [hzb]; omega) (by rw [hzb, hik]; exact growslice_fits hroom (by omega))
    rw [hik] at h
    rw [z10]
    exact h
  obtain ⟨G, hG⟩ : ∃ G, G = grownCap w (n + 1) cap 22 := ⟨_, rfl⟩
  have hGn : n + 1 ≤ G := by rw [hG]; exact grownCap_ge w _ _ _
  have hG63 : G ≤ maxLen := by rw [hG]; exact grownCap_le_maxLen w (n + 1) cap 22 (by unfold maxLen; omega)
  obtain ⟨Z, hZ⟩ : ∃ Z : List Value, Z = (Builtin.zeroCells (Value.float .f64 0).cells (n + 1 - i) ++ Builtin.zeroCells (Value.float .f64 0).cells (G - (n + 1))).toList := ⟨_, rfl⟩
  have hZl : Z.length = (G - i) * 1 := by rw [hZ, Array.length_toList, Array.size_append, zero_size22, zero_size22]; omega
  obtain ⟨ROW, hROW⟩ : ∃ ROW : Array Value, ROW = (xs.take i ++ Z).toArray := ⟨_, rfl⟩
  have hRs : ROW.size = G * 1 := by rw [hROW]; simp; omega
  have hrow2 : (xs.take i).toArray ++ Builtin.zeroCells (Value.float .f64 0).cells (n + 1 - i) ++ Builtin.zeroCells (Value.float .f64 0).cells (grownCap w (n + 1) cap 22 - (n + 1)) = ROW := by
    rw [hROW, hZ, ← hG]
    apply Array.toList_inj.1
    simp
  rw [hrow2, ← hG] at hrz
  have HZ := hid hrz
  obtain ⟨X, hX⟩ : ∃ X, X = xs.drop i := ⟨_, rfl⟩
  have hXl : X.length = (n - i) * 1 := by rw [hX, List.length_drop, hxl]; omega
  have A5 := hid (show ∀ u ∈ X, u.oneCell' = true from fun u hu => h1x u (by rw [hX] at hu; exact List.mem_of_mem_drop hu))
  obtain ⟨R1, hR1⟩ : ∃ R1 : List Value, R1 = splice ROW.toList i vs := ⟨_, rfl⟩
  have hRl : ROW.toList.length = G * 1 := by rw [Array.length_toList, hRs]
  have hR1l : R1.length = G * 1 := by rw [hR1, length_splice _ _ _ (by omega), hRl]
  obtain ⟨R2, hR2⟩ : ∃ R2 : List Value, R2 = splice R1 (i + 1) X := ⟨_, rfl⟩
  have hR2l : R2.length = G * 1 := by rw [hR2, length_splice _ _ _ (by omega), hR1l]
  have HT := hid (show R2.take ((n + 1) * 1) = xs.take i ++ (vs ++ xs.drop i) from by
    have := splice_new Z xs vs i 1 (by omega) hvl
    rw [hR2, hR1, hX, hROW, show (n + 1) * 1 = xs.length + 1 by omega]
    exact this)
  obtain ⟨W1, hW1⟩ : ∃ W1, W1 = w.drew.alloc (.cells ROW 22) := ⟨_, rfl⟩
  have e1 : W1.heap[w.heap.size]? = some (.cells ROW 22 (0, 0)) := by rw [hW1]; exact heap_alloc_new w.drew _
  have e2 : ∀ k, k < w.heap.size → W1.heap[k]? = w.heap[k]? := fun k hk => by rw [hW1]; exact heap_alloc_old w.drew _ hk
  have HM := hid (show n - i = Nat.min (n - i) (n - i) from by
    show _ = min _ _
    rw [Nat.min_def]; split <;> omega)
  have HM1 := hid (show 1 = Nat.min 1 (n + 1 - i) from by
    show _ = min _ _
    rw [Nat.min_def]; split <;> omega)
  have f1 : (W1.setRow w.heap.size R1.toArray).drew.heap[w.heap.size]? = some (.cells R1.toArray 22 (0, 0)) := setRow_heap W1 _ ROW _ 22 _ e1
  have f2 : ∀ k, k < w.heap.size → (W1.setRow w.heap.size R1.toArray).drew.heap[k]? = w.heap[k]? := fun k hk => (setRow_other W1 _ k _ (by omega)).trans (e2 k hk)
  have A1 := hid (show ∀ j u, vs[j]? = some u → W1.cell? ((⟨vb, 0, none⟩ : Addr).add j) = some u from fun j u hj => by
    rw [Addr.add_lit, Nat.zero_add, cell_of_row W1 _ _ _ _ _ ((e2 _ hvw).trans hvh)]
    rw [← hvc] at hj
    simpa using hj)
  have A3 := hid (show ∀ j v, X[j]? = some v → (W1.setRow w.heap.size R1.toArray).drew.cell? ((⟨g, i, none⟩ : Addr).add j) = some v from fun j v hj => by
    rw [Addr.add_lit, cell_of_row _ _ _ _ _ _ ((f2 _ hgw).trans hh)]
    rw [hX, List.getElem?_drop] at hj
    exact hcurj _ v hj)
  have F1 := hid (show i + vs.length ≤ ROW.size from by omega)
  have F2 := hid (show i + 1 + X.length ≤ R1.toArray.size from by simp; omega)
  have E1 := hid e1
  have E2 := hid f1
  have H1 := hid hR1
  have HE := hid (show InsPost22 base n i xs vs (some g) w (.returned (.slice (some ⟨w.heap.size, 0, none⟩) (n + 1) G)) ((W1.setRow w.heap.size R1.toArray).drew.setRow w.heap.size (splice R1.toArray.toList (i + 1) X).toArray) from by
    refine ⟨_, rfl, ⟨by simp; omega, .inr ⟨w.heap.size, G, R2.toArray, rfl, hbase, ?_, hGn, hG63, by simp [hR2l], HT.out⟩⟩, ?_⟩
    · rw [List.toList_toArray, ← hR2]
      exact setRow_heap _ _ _ _ 22 _ f1
    · refine ⟨⟨by rw [hW1]; rfl, by rw [hW1]; rfl, by rw [hW1]; rfl, by rw [hW1]; simp, fun k hk hne => ?_⟩, fun k hk => .inr (Nat.le_of_eq (Option.some.inj hk))⟩
      rw [setRow_other _ _ _ _ (by omega)]
      exact f2 k hk)
  have z7 : ¬ G = i + 1 := by omega
  have z8 : ¬ cap = i := by omega
  have z11 : ¬ G = i := by omega
  have hG63' : G ≤ 9223372036854775807 := by unfold maxLen at hG63; omega
  rw [← hW1] at HZ
  clear hX hR1 hR2 htk hZ hROW hrow2 hrz hold hG hG63 z10 hik e1 e2 f1 f2 hcurj hi hz0 hzs hzb hW1
  go_enter Try.func49, Try.ntmps49
  go_wp2_with (first
    | (at_builtin; refine Lib.wpList_append_run _ rfl _ _ _ _ rfl _ _ rfl rfl _ _ (HZ.out _) ?_)
    | (with_reducible show wpList _ _ _ (Oper.mk _ (Op.call _) _ _ _ _ :: _) _ _; refine wpList_copy_k rfl (.tmp 43) (.tmp 44) 55 55 rfl 22 1 1 Try.underlying55 size22 w.heap.size i (n + 1 - i) (G - i) ⟨vb, 0, none⟩ 1 1 rfl rfl ROW 22 E1.out vs HM1.out (by omega) A1.out F1.out h1 ?_; rw [← H1.out]))


  go_region_law (refine step_copy_k rfl (.tmp 50) (.tmp 53) 55 55 rfl 22 1 (n - i) Try.underlying55 size22 w.heap.size (i + 1) (n - i) (G - (i + 1)) ⟨g, i, none⟩ (n - i) (cap - i) (by simp [Act.eval, Act.put]) (by simp [Act.eval, Act.put]) R1.toArray 22 E2.out X HM.out hXl A3.out F2.out A5.out ?_)
  go_wp2
  go_ret
  exact HE.out

/-- slices.Insert of one number at i, whatever the road. -/
theorem ins49 (base n i vb : Nat) (v : Value) (xs vs : List Value) (vcur : Array Value) (w : World) (hn : n ≤ 1000000) (hin : i ≤ n) (hown : w.ownsRow base 22 1 v n xs) (hbase : base ≤ w.heap.size) (hvb : v.ownBlock ≠ some vb) (hvh : w.heap[vb]? = some (.cells vcur 22 (0, 0)))
    (hvc : vcur.toList = vs) (hvl : vs.length = 1) (h1 : ∀ u ∈ vs, u.oneCell' = true) (h1x : ∀ u ∈ xs, u.oneCell' = true) :
    Calls Try.prog 49 #[v, .int .i64 i, .slice (some ⟨vb, 0, none⟩) 1 1] w fun e w' => InsPost22 base n i xs vs v.ownBlock w e w' := by
  rcases Nat.lt_or_ge i n with hlt | hge
  · rcases hown.2 with ⟨_, h0⟩ | ⟨g, cap, cur, rfl, hg, hh, hnc, hcm, hcs, htk⟩
    · omega
    · rcases Nat.lt_or_ge cap (n + 1) with hr | hr
      · exact ins49_grow base n i g cap vb cur xs vs vcur w hn hlt hr hnc hbase hh hcs htk hvh hvc hvl h1 h1x
      · exact ins49_room base n i g cap vb cur xs vs vcur w hn hlt hr hcm hg hh hcs htk (fun e => hvb (by rw [e]; rfl)) hvh hvc hvl h1 h1x
  · obtain rfl : i = n := by omega
    exact ins49_end base i v xs vs vb w hn hown hbase hvl (fun j u hj => by
      rw [Addr.add_lit, Nat.zero_add, cell_of_row w _ _ _ _ _ hvh]
      rw [← hvc] at hj
      simpa using hj) h1
end Go.Proofs.Qxb6604397a
