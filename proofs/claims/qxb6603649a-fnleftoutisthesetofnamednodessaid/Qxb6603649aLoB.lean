/-
  Seat b6603649a. b1CopyStrings (10), ZZwithRefs (24), b1Config (12).
-/
import Derived.Test.Qxb6603649aLoA
import Derived.Maps.OwnSet
import Derived.Laws.Tables
namespace Go.Proofs.Qxb6603649a
open Go.RowKit

theorem info9 : (Try.prog.info? 9).map (fun i => (i.zero, i.size, i.bytes)) = some (some (.string ⟨#[]⟩), 1, 16) := by kernel_rfl

/-- What the copy is: a slice of as many elements, in new memory (or nil), with the same strings. -/
def CopyPostS (len : Nat) (ss : List ByteArray) (w : World) (e : Ending) (w' : World) : Prop :=
  ∃ a', e = .returned (.slice a' len len) ∧ RowS w' a' len ss ∧ Below w.heap.size w w'

set_option maxRecDepth 100000 in
theorem copyStrings (a : Option Addr) (len cap : Nat) (ss : List ByteArray) (w : World) (hl : len ≤ 1048576) (hn : a = none → len = 0) (hr : RowS w a len ss) :
    Calls Try.prog 10 #[.slice a len cap] w fun e w' => CopyPostS len ss w e w' := by
  have hne := fun wx n c => Lib.run_eql_slice_nil (P := Try.prog) wx 25 9 a n c 0 0 Try.underlying25
  obtain ⟨i0, hi, hz0, hz1, hz2⟩ := info_parts info9
  cases a with
  | none =>
    obtain rfl := hn rfl
    go_enter Try.func10, Try.ntmps10
    go_wp2
    go_ret
    exact ⟨none, rfl, fun h => by omega, Below.refl _ _⟩
  | some ad =>
    by_cases h0 : len = 0
    · subst h0
      go_enter Try.func10, Try.ntmps10
      go_wp2_with (first
        | (at_make; refine wpList_make_full _ rfl _ _ 25 rfl w.heap.size 9 i0 (.string ⟨#[]⟩) 1 Try.underlying25 hi hz0 hz1 _ _ _ _ 0 rfl rfl (by omega) (by omega) (by omega) (by unfold maxLen; omega) (Nat.le_refl _) ?_; intro w1 hown1 hgrow1))
      refine wp_loop_rounds 1 ?_
      rw [rounds_succ]
      go_wp2
      go_ret
      exact ⟨_, rfl, fun h => by omega, (Below.refl _ _).grown hgrow1 (Nat.le_refl _) (fun k hk => by cases hk)⟩
    · obtain ⟨b, off, hab, hb, hc'⟩ := hr (by omega)
      obtain rfl := Option.some.inj hab
      have HC := hid hc'
      clear hc' hr hab
      go_enter Try.func10, Try.ntmps10
      go_wp2_with (first
        | (at_make; refine wpList_make_full _ rfl _ _ 25 rfl w.heap.size 9 i0 (.string ⟨#[]⟩) 1 Try.underlying25 hi hz0 hz1 _ _ _ _ len rfl rfl rfl rfl (by rw [hz2]; omega) (by unfold maxLen; omega) (Nat.le_refl _) ?_; intro w1 hown1 hgrow1))
      go_loopw [4] (fun i wr => ∃ k : Nat, k ≤ len ∧ i = .int .i64 k ∧ (∃ xs, wr.ownsRow w.heap.size 9 1 (.slice (some ⟨w.heap.size, 0, none⟩) len len) len xs ∧ ∀ j, j < k → xs[j]? = some (.string (ss.getD j ByteArray.empty))) ∧ Below w.heap.size w wr) (fun i _ => len - (intOf i).toNat)
      case atStart => exact ⟨0, Nat.zero_le _, rfl, ⟨_, hown1, fun j hj => by omega⟩, (Below.refl _ _).grown hgrow1 (Nat.le_refl _) (fun k hk => by cases hk)⟩
      case round =>
        obtain ⟨k, hk, rfl, ⟨xs, hown, hxs'⟩, hbel⟩ := hrel
        have HX := hid hxs'
        clear hxs' hown1 hgrow1
        by_cases hlt : k < len
        · obtain ⟨z, hz⟩ : ∃ z, z = ss.getD k ByteArray.empty := ⟨_, rfl⟩
          have hck : wr.cell? ⟨b, off + k, none⟩ = some (.string z) := by rw [hbel.cell (by exact hb), (HC.out k hlt).1, hz]
          have hlen : xs.length = len := by have := hown.1; omega
          have hfz := hown.frozenAt k
          have hcb := hown.cellAt k (by omega)
          rw [List.getElem?_eq_getElem (by omega)] at hcb
          obtain ⟨v0, hv0⟩ : ∃ v0, v0 = xs[k]'(by omega) := ⟨_, rfl⟩
          rw [← hv0] at hcb
          have HZ := hid hz
          clear hz hv0
          have HL := hid hlen
          clear hlen
          go_wp2
          go_roundw
          case rel =>
            have hst := hown.stored k (.string z)
            refine ⟨k + 1, by omega, by go_num, ⟨_, hst.1, fun j hj => ?_⟩, hbel.setCell (Nat.le_refl _) _⟩
            by_cases e : j = k
            · subst e; rw [List.getElem?_set_self (by rw [HL.out]; exact hlt), HZ.out]
            · rw [List.getElem?_set_ne (by omega)]; exact HX.out j (by omega)
          case measure => simp [intOf]; omega
        · have : k = len := by omega
          subst this
          go_wp2
          go_ret
          exact ⟨_, rfl, fun _ => ⟨_, 0, rfl, (hown.lt _ rfl).2, fun j hj => ⟨by rw [Nat.zero_add, hown.cellAt j (by omega)]; exact HX.out j hj, (HC.out j hj).2⟩⟩, hbel⟩

theorem size40 : (Try.prog.info? 40).map (·.size) = some 18 := by kernel_rfl

/-- A Config's cells: as many as it has, one cell each, and what stands in DedupeNode. -/
structure ConfCells (cs : Array Value) (dd : Bool) : Prop where
  size : cs.size = 18
  one : cs.all (·.oneCell') = true
  dd : cs[11]? = some (.bool dd)

def ConfPost (dd : Bool) (e : Ending) : Prop := ∃ cs : Array Value, e = .returned (.agg cs) ∧ ConfCells cs dd

theorem all_set {cs : Array Value} (h : cs.all (·.oneCell') = true) (i : Nat) {v : Value} (hv : v.oneCell' = true) : (cs.setIfInBounds i v).all (·.oneCell') = true := by
  rw [Array.all_eq_true_iff_forall_mem] at h ⊢
  intro x hx
  rcases Array.mem_or_eq_of_mem_setIfInBounds hx with h1 | h1
  · exact h x h1
  · rw [h1]; exact hv

theorem heap_setRow (w : World) (g : Nat) (cs : Array Value) (k : Nat) (h : k ≠ g) : (w.setRow g cs).heap[k]? = w.heap[k]? := by
  simp only [World.setRow, Array.getElem?_modify]
  rw [if_neg (by omega)]

theorem _root_.Go.RowKit.Below.setRow {B : Nat} {a w : World} (h : Below B a w) {g : Nat} (hg : B ≤ g) (cs : Array Value) : Below B a (w.setRow g cs) :=
  h.trans ⟨rfl, rfl, rfl, by simp, fun k hk => heap_setRow _ _ _ _ (by omega)⟩

set_option maxRecDepth 100000 in
theorem withRefs (cs : Array Value) (dd : Bool) (hc : ConfCells cs dd) (n6 : Int) (b7 : Bool) (s15 : ByteArray) (b16 : Bool) (w : World) :
    Calls Try.prog 24 #[.agg cs, .int .i64 n6, .bool b7, .string s15, .bool b16] w fun e w' => ConfPost dd e ∧ Below w.heap.size w w' := by
  have hs := hc.size
  obtain ⟨cs2, hcs2⟩ : ∃ c2 : Array Value, c2 = (((cs.setIfInBounds 6 (Value.int IntKind.i64 n6)).setIfInBounds 7 (Value.bool b7)).setIfInBounds 15 (Value.string s15)).setIfInBounds 16 (Value.bool b16) := ⟨_, rfl⟩
  have hc2 : ConfCells cs2 dd := by
    refine ⟨by rw [hcs2]; simp [hs], ?_, by rw [hcs2]; simp [hc.dd]⟩
    rw [hcs2]
    exact all_set (all_set (all_set (all_set hc.one 6 rfl) 7 rfl) 15 rfl) 16 rfl
  have HC2 := hid hcs2
  clear hcs2
  have hsz : (Try.prog.info? 40).map (·.size) = some cs2.size := by rw [size40, hc2.size]
  go_enter Try.func24, Try.ntmps24
  go_wp2_with (first
    | (refine wpList_load_row rfl 40 _ rfl w.heap.size rfl 40 _ (0, 0) _ (heap_alloc2_old _ _ _) Try.underlying40 rfl (by rw [← HC2.out]; exact hsz) ?_; rw [← HC2.out])
    | (refine wpList_store_row rfl 40 _ _ rfl (w.heap.size + 1) cs2 rfl rfl 40 _ (heap_alloc2_new _ _ _) hsz (by rw [hc2.size]; rfl) hc2.one ?_))
  refine bodyPost_ret (results_cell_row rfl _ _ (w.heap.size + 1) 40 cs2 (0, 0) _ rfl (setRow_heap _ _ _ _ _ _ (heap_alloc2_new _ _ _)) Try.underlying40 rfl hsz) rfl ?_
  exact ⟨⟨_, rfl, hc2⟩, ((((Below.refl _ _).alloc (Nat.le_refl _) _).alloc (by simp) _)).setRow (by simp) _⟩

theorem heap_alloc3_new (w : World) (A B C : Obj) : (((w.alloc A).alloc B).alloc C).heap[w.heap.size + 1 + 1]? = some C := by
  have := heap_alloc_new ((w.alloc A).alloc B) C
  simpa using this
theorem heap_alloc3_mid (w : World) (A B C : Obj) : (((w.alloc A).alloc B).alloc C).heap[w.heap.size + 1]? = some B := by
  rw [Below.heap_alloc _ _ _ (by simp)]
  exact heap_alloc2_new w A B

/-- A whole row stored into the block that was laid last: the block as if it had been laid so. -/
theorem setRow_alloc (w : World) (old cells : Array Value) (t : TypeId) (g : Nat) (hg : g = w.heap.size) : (w.alloc (.cells old t)).setRow g cells = w.alloc (.cells cells t) := by
  subst hg
  show { w with heap := (w.heap.push (.cells old t)).modify w.heap.size _ } = { w with heap := w.heap.push (.cells cells t) }
  congr 1
  apply Array.ext_getElem?
  intro k
  rw [Array.getElem?_modify, Array.getElem?_push, Array.getElem?_push]
  by_cases hk : k = w.heap.size
  · subst hk; simp
  · rw [if_neg (fun h => hk h.symm), if_neg hk, if_neg hk]

set_option maxRecDepth 100000 in
set_option maxHeartbeats 600000 in
theorem config12 (c : Cfg) (w : World) : Calls Try.prog 12 #[.agg c.cells] w fun e w' => ConfPost c.b11 e ∧ Below w.heap.size w w' := by
  unfold Cfg.cells
  go_enter Try.func12, Try.ntmps12
  go_wp2_with (first
    | (with_reducible show wpList _ _ _ (Oper.mk _ (Op.store 40 (.tmp 3) _) _ _ _ _ :: _) _ _; refine wpList_store_row rfl 40 (.tmp 3) (.tmp 32) rfl (w.heap.size + 1 + 1) _ rfl rfl 40 _ (heap_alloc3_new _ _ _ _) (by rw [size40]; simp) (by simp) (by simp [Value.oneCell']) ?_; rw [setRow_alloc _ _ _ _ _ (by simp)])
    | (with_reducible show wpList _ _ _ (Oper.mk _ (Op.load 40 (.tmp 3)) _ _ _ _ :: _) _ _; refine wpList_load_row rfl 40 (.tmp 3) rfl (w.heap.size + 1 + 1) rfl 40 _ (0, 0) _ (heap_alloc3_new _ _ _ _) Try.underlying40 rfl (by rw [size40]; simp) ?_)
    | (go_at_call 24; refine (withRefs _ c.b11 ⟨by simp, by simp [Value.oneCell'], by simp⟩ _ _ _ _ _).mono ?_; rintro e w1 ⟨⟨cs, rfl, hcs⟩, hb1⟩; have hsz := hid (size40.trans (by rw [hcs.size]) : (Try.prog.info? 40).map (·.size) = some cs.size); have hb2 : w1.heap[w.heap.size + 1]? = some _ := (hb1.block _ (by simp)).trans (heap_alloc3_mid _ _ _ _))
    | (with_reducible show wpList _ _ _ (Oper.mk _ (Op.store 40 (.tmp 2) _) _ _ _ _ :: _) _ _; refine wpList_store_row rfl 40 (.tmp 2) (.tmp 42) rfl (w.heap.size + 1) cs rfl rfl 40 _ hb2 hsz.out (by rw [hcs.size]; simp) hcs.one ?_))
  refine bodyPost_ret (results_cell_row rfl _ _ (w.heap.size + 1) 40 cs (0, 0) _ rfl (setRow_heap _ _ _ _ _ _ hb2) Try.underlying40 rfl hsz.out) rfl ?_
  exact ⟨⟨_, rfl, hcs⟩, (((((Below.refl _ _).alloc (Nat.le_refl _) _).alloc (by simp) _).alloc (by simp; omega) _).trans (hb1.mono (by simp; omega))).setRow (by omega) _⟩
end Go.Proofs.Qxb6603649a
