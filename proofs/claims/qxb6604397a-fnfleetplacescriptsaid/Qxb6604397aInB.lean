/-
  Seat b6604397a. slices.Insert over times (48): three roads.
-/
import Derived.Test.Qxb6604397aInA
namespace Go.Proofs.Qxb6604397a
open Go.RowKit

theorem info40 : (Try.prog.info? 40).map (fun i => (i.zero, i.size, i.bytes)) = some (some (.agg #[.int .u64 0, .int .i64 0, .pointer none]), 3, 24) := by kernel_rfl
theorem size40 : (Try.prog.info? 40).map (·.size) = some 3 := by kernel_rfl

/-- What an Insert leaves: a slice in memory of the call's own that holds xs with the cells vs laid in at p. -/
def InsPost40 (base n p : Nat) (xs vs : List Value) (row : Option Nat) (w : World) (e : Ending) (w' : World) : Prop :=
  ∃ v', e = .returned v' ∧ w'.ownsRow base 40 3 v' (n + 1) (xs.take p ++ (vs ++ xs.drop p)) ∧ w.grownBy w' row ∧ ∀ k, v'.ownBlock = some k → row = some k ∨ w.heap.size ≤ k

set_option maxRecDepth 100000 in
theorem ins48_end (base n : Nat) (v : Value) (xs vs : List Value) (vb : Nat) (w : World) (hn : n ≤ 1000000) (hown : w.ownsRow base 40 3 v n xs) (hbase : base ≤ w.heap.size) (hvl : vs.length = 3)
    (hvs : ∀ j u, vs[j]? = some u → w.cell? ((⟨vb, 0, none⟩ : Addr).add j) = some u) (h1 : ∀ u ∈ vs, u.oneCell' = true) :
    Calls Try.prog 48 #[v, .int .i64 n, .slice (some ⟨vb, 0, none⟩) 1 1] w fun e w' => InsPost40 base n (n * 3) xs vs v.ownBlock w e w' := by
  obtain ⟨i0, hi, hz0, hz1, hz2⟩ := info_parts info40
  have hxl : xs.length = n * 3 := hown.1
  have hfin : ∀ (v' : Value) (w' : World), w'.ownsRow base 40 3 v' (n + 1) (xs ++ vs) → w'.ownsRow base 40 3 v' (n + 1) (xs.take (n * 3) ++ (vs ++ xs.drop (n * 3))) := fun v' w' h => by
    rw [List.take_of_length_le (by omega), List.drop_of_length_le (by omega), List.append_nil]; exact h
  have HF := hid hfin
  clear hfin
  rcases hown.2 with ⟨rfl, rfl⟩ | ⟨g, cap, cur, rfl, hg, hh, hnc, hcm, hcs, htk⟩
  · go_enter Try.func48, Try.ntmps48
    go_wp2_with (first
      | (at_builtin; refine wpList_append_apart _ rfl _ _ 53 rfl base 40 i0 (.agg #[.int .u64 0, .int .i64 0, .pointer none]) 3 24 Try.underlying53 hi hz0 hz1 hz2 rfl (by decide) _ _ _ rfl hown ⟨vb, 0, none⟩ 1 1 vs rfl (by omega) hvs h1 (by unfold maxLen; omega) (by omega) hbase ?_; intro v' w1 hown1 hgrow1 hap))
    go_ret
    exact ⟨v', rfl, HF.out v' _ hown1, hgrow1, hap⟩
  · have hnc' : (n : Int) ≤ cap := by omega
    go_enter Try.func48, Try.ntmps48
    go_wp2_with (first
      | (at_builtin; refine wpList_append_apart _ rfl _ _ 53 rfl base 40 i0 (.agg #[.int .u64 0, .int .i64 0, .pointer none]) 3 24 Try.underlying53 hi hz0 hz1 hz2 rfl (by decide) _ _ _ rfl hown ⟨vb, 0, none⟩ 1 1 vs rfl (by omega) hvs h1 (by unfold maxLen; omega) (by omega) hbase ?_; intro v' w1 hown1 hgrow1 hap))
    all_goals
      go_ret
      exact ⟨v', rfl, HF.out v' _ hown1, hgrow1, hap⟩

/-- The library's own 'overlaps' of two slices in two blocks. -/
theorem overlaps50 (vb g o kA kB lb cb : Nat) (tA tB : TypeId) (w : World) (hne : vb ≠ g) (hsa : w.shape? vb = some (tA, kA)) (hsb : w.shape? g = some (tB, kB)) (hkB : kB ≠ 0) (hfa : w.frozen? ⟨vb, 0, none⟩ = false) (hfe : w.frozen? ⟨vb, kA, none⟩ = false) :
    (callFunc 50 #[.slice (some ⟨vb, 0, none⟩) 1 1, .slice (some ⟨g, o, none⟩) lb cb]).run Try.prog w = .ok (.value (.bool false)) w := by
  rw [run_callFunc_extern Try.func50 (by kernel_rfl) (by kernel_rfl) (by kernel_rfl) (e := Extern.SlicesOverlaps.overlaps #[53, 53] #[4]) (by kernel_rfl),
    Lib.run_overlaps_apart w 53 4 40 Try.underlying53 3 (fun w => by kernel_rfl) ⟨vb, 0, none⟩ ⟨g, o, none⟩ 1 1 lb cb hne tA tB kA kB hsa hsb hkB hfa hfe]
  rfl

set_option maxRecDepth 100000 in
theorem ins48_room (base n i g cap vb : Nat) (cur : Array Value) (xs vs : List Value) (vcur : Array Value) (w : World) (hn : n ≤ 1000000) (hin : i < n) (hroom : n + 1 ≤ cap) (hcm : cap ≤ maxLen) (hg : base ≤ g) (hh : w.heap[g]? = some (.cells cur 40 (0, 0))) (hcs : cur.size = cap * 3)
    (htk : cur.toList.take (n * 3) = xs) (hvb : vb ≠ g) (hvh : w.heap[vb]? = some (.cells vcur 40 (0, 0))) (hvc : vcur.toList = vs) (hvl : vs.length = 3) (h1 : ∀ u ∈ vs, u.oneCell' = true) (h1x : ∀ u ∈ xs, u.oneCell' = true) :
    Calls Try.prog 48 #[.slice (some ⟨g, 0, none⟩) n cap, .int .i64 i, .slice (some ⟨vb, 0, none⟩) 1 1] w fun e w' => InsPost40 base n (i * 3) xs vs (some g) w e w' := by
  have hov := fun o lb cb => overlaps50 vb g o vcur.size cur.size lb cb 40 40 w hvb (by simp [World.shape?, hvh]) (by simp [World.shape?, hh]) (by omega) (frozen_of_row w _ _ _ _ hvh) (frozen_of_row w _ _ _ _ hvh)
  have hxl : xs.length = n * 3 := by rw [← htk, List.length_take, Array.length_toList, hcs]; omega
  have z1 : ¬ ((i : Int) = (n : Int)) := by omega
  have z2 : ¬ ((cap : Int) < (n : Int) + 1) := by omega
  have z3 : (n : Int) + 1 ≤ cap := by omega
  have z4 : (i : Int) ≤ n := by omega
  have z5 : (i : Int) + 1 ≤ (n : Int) + 1 := by omega
  have z6 : 0 ≤ (i : Int) + 1 := by omega
  have z10 : (i : Int) ≤ (n : Int) + 1 := by omega
  have z7 : ¬ cap = i + 1 := by omega
  have z8 : ¬ cap = i := by omega
  have z9 : IntKind.i64.wrap ((i : Int) + 1) = (i : Int) + 1 := by
    simp only [IntKind.wrap, IntKind.bits, IntKind.signed]; simp; omega
  have hcl : cur.toList.length = cap * 3 := by rw [Array.length_toList, hcs]
  have HCL := hid hcl
  obtain ⟨X, hX⟩ : ∃ X, X = xs.drop (i * 3) := ⟨_, rfl⟩
  have hXl : X.length = (n - i) * 3 := by rw [hX, List.length_drop, hxl]; omega
  have A3 := hid (show ∀ j v, X[j]? = some v → w.drew.cell? ((⟨g, i * 3, none⟩ : Addr).add j) = some v from fun j v hj => by
    have hjl : j < (n - i) * 3 := by have := (List.getElem?_eq_some_iff.1 hj).1; omega
    rw [Addr.add_lit]
    show w.cell? ⟨g, i * 3 + j, none⟩ = _
    rw [cell_of_row w _ _ _ _ _ hh]
    rw [hX, ← htk, List.getElem?_drop, List.getElem?_take, if_pos (by omega)] at hj
    simpa using hj)
  have A5 := hid (show ∀ u ∈ X, u.oneCell' = true from fun u hu => h1x u (by rw [hX] at hu; exact List.mem_of_mem_drop hu))
  obtain ⟨R1, hR1⟩ : ∃ R1 : List Value, R1 = splice cur.toList ((i + 1) * 3) X := ⟨_, rfl⟩
  have hR1l : R1.length = cap * 3 := by rw [hR1, length_splice _ _ _ (by omega), hcl]
  obtain ⟨R2, hR2⟩ : ∃ R2 : List Value, R2 = splice R1 (i * 3) vs := ⟨_, rfl⟩
  have hR2l : R2.length = cap * 3 := by rw [hR2, length_splice _ _ _ (by omega), hR1l]
  have HT := hid (show R2.take ((n + 1) * 3) = xs.take (i * 3) ++ (vs ++ xs.drop (i * 3)) from by
    have := splice_shift cur.toList xs vs (i * 3) 3 (by rw [hxl]; exact htk) (by omega) (by omega) hvl
    rw [hR2, hR1, hX, show (n + 1) * 3 = xs.length + 3 by omega, show (i + 1) * 3 = i * 3 + 3 by omega]
    exact this)
  have H1 := hid hR1
  have H2 := hid hR2
  have HH := hid hh
  have HV := hid (show ∀ W : World, W.heap[vb]? = some (.cells vcur 40 (0, 0)) → ∀ j u, vs[j]? = some u → W.cell? ((⟨vb, 0, none⟩ : Addr).add j) = some u from fun W hW j u hj => by
    rw [Addr.add_lit, Nat.zero_add, cell_of_row W _ _ _ _ _ hW]
    rw [← hvc] at hj
    simpa using hj)
  have HM := hid (show n - i = Nat.min (n + 1 - i) (n - i) from by
    show _ = min _ _
    rw [Nat.min_def]; split <;> omega)
  have HM1 := hid (show 1 = Nat.min 1 (n + 1 - i) from by
    show _ = min _ _
    rw [Nat.min_def]; split <;> omega)
  have hG1 : (w.drew.setRow g R1.toArray).heap[g]? = some (.cells R1.toArray 40 (0, 0)) := setRow_heap w.drew g cur _ 40 _ hh
  have hG2 : (w.drew.setRow g R1.toArray).heap[vb]? = some (.cells vcur 40 (0, 0)) := (setRow_other w.drew g vb _ hvb).trans hvh
  have HG1 := hid hG1
  have HG2 := hid hG2
  have HF := hid (show i * 3 + vs.length ≤ R1.toArray.size from by simp; omega)
  have HE := hid (show InsPost40 base n (i * 3) xs vs (some g) w (.returned (.slice (some ⟨g, 0, none⟩) (n + 1) cap)) ((w.drew.setRow g R1.toArray).setRow g (splice R1.toArray.toList (i * 3) vs).toArray) from by
    refine ⟨_, rfl, ⟨by simp; omega, .inr ⟨g, cap, R2.toArray, rfl, hg, ?_, hroom, hcm, by simp [hR2l], HT.out⟩⟩, ?_⟩
    · rw [List.toList_toArray, ← hR2]
      exact setRow_heap _ g _ _ 40 _ hG1
    · exact ⟨⟨rfl, rfl, rfl, by simp, fun k _ hne => by
        have hk : k ≠ g := fun e => hne (by rw [e])
        rw [setRow_other _ _ _ _ hk, setRow_other _ _ _ _ hk]; rfl⟩, fun k hk => .inl hk⟩)
  unfold maxLen at hcm
  clear hX hR1 hR2 htk hcl
  go_enter Try.func48, Try.ntmps48
  go_wp2
  go_region_law (refine step_copy_k rfl (.tmp 73) (.tmp 76) 53 53 rfl 40 3 (n - i) Try.underlying53 size40 g ((i + 1) * 3) (n - i) (cap - (i + 1)) ⟨g, i * 3, none⟩ (n + 1 - i) (cap - i) (by simp [Act.eval, Act.put]) (by simp [Act.eval, Act.put]) cur 40 HH.out X HM.out hXl A3.out (by omega) A5.out ?_; rw [← H1.out])
  go_wp2_with (first
    | (with_reducible show wpList _ _ _ (Oper.mk _ (Op.call _) _ _ _ _ :: _) _ _; refine wpList_copy_k rfl (.tmp 80) (.tmp 81) 53 53 rfl 40 3 1 Try.underlying53 size40 g (i * 3) (n + 1 - i) (cap - i) ⟨vb, 0, none⟩ 1 1 rfl rfl R1.toArray 40 HG1.out vs HM1.out (by omega) (HV.out _ HG2.out) HF.out h1 ?_))
  go_ret
  exact HE.out
end Go.Proofs.Qxb6604397a
