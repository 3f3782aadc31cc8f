/-
  Seat b6603649a. ZZqueueWaiting (19).
-/
import Derived.Test.Qxb6603649aBeB
import Derived.Maps.Own
import Derived.Maps.AppendAt
import Derived.Deep.RegionLaw
import Derived.BigRegion
namespace Go.Proofs.Qxb6603649a
open Go.RowKit Go.Maps

theorem info72 : (Try.prog.info? 72).map (fun i => (i.zero, i.size, i.bytes)) = some (some (.pointer none), 1, 8) := by kernel_rfl
theorem law22 : Keyed Try.prog 22 := int_keyed Try.underlying22

/-- Whatever an element is, it reads as one thing: what the map holds is of no account here. -/
def anyElem (_ : Value) : Option (DataW Unit × List MemPlace) := some (.nil, [])

/-- A job at block J whose deadline is z. -/
def JobAt (w : World) (J : Nat) (z : Int) : Prop := ∃ c : Array Value, w.heap[J]? = some (.cells c 75 (0, 0)) ∧ c[4]? = some (.int .i64 z)

/-- The queue as ZZqueueWaiting has it behind k rounds: its jobs' map at block M, itself at block M + 2. -/
structure QState (w : World) (M k : Nat) (z : Int) (c : Array Value) (v : Value) (m : Int) (xs : List Value) : Prop where
  q : w.heap[M + 2]? = some (.cells c 71 (0, 0))
  size : c.size = 27
  c0 : c[0]? = some (.map (some M))
  c6 : c[6]? = some v
  c8 : c[8]? = some (.int .i64 m)
  own : w.ownsRow (M + 3) 72 1 v k xs
  first : 0 < k → ∃ J, xs[0]? = some (.pointer (some ⟨J, 0, none⟩)) ∧ JobAt w J z
  map : ∃ D, w.ownsMap Try.prog 22 anyElem M k D

def QueueIs (w : World) (M k : Nat) (z : Int) : Prop := ∃ c v m xs, QState w M k z c v m xs

theorem QState.lt {w : World} {M k : Nat} {z : Int} {c : Array Value} {v : Value} {m : Int} {xs : List Value} (s : QState w M k z c v m xs) : M + 3 ≤ w.heap.size := by
  have := (Array.getElem?_eq_some_iff.1 s.q).1; omega

theorem QState.cell {w : World} {M k : Nat} {z : Int} {c : Array Value} {v : Value} {m : Int} {xs : List Value} (s : QState w M k z c v m xs) (j : Nat) : w.cell? ⟨M + 2, j, none⟩ = c[j]? :=
  cell_of_row w (M + 2) j c 71 (0, 0) s.q

theorem QState.frozen {w : World} {M k : Nat} {z : Int} {c : Array Value} {v : Value} {m : Int} {xs : List Value} (s : QState w M k z c v m xs) (j : Nat) : w.frozen? ⟨M + 2, j, none⟩ = false :=
  frozen_of_row w (M + 2) j c 71 s.q

/-- The block that the row of the jobs lies in is neither the queue's nor the map's nor a job's. -/
theorem QState.ownNe {w : World} {M k : Nat} {z : Int} {c : Array Value} {v : Value} {m : Int} {xs : List Value} (s : QState w M k z c v m xs) {j : Nat} (hj : j < M + 3) : some j ≠ v.ownBlock := by
  intro h
  have := (s.own.lt j h.symm).1
  omega

theorem ownNeJob {w : World} {base : Nat} {v : Value} {n : Nat} {xs : List Value} (h : w.ownsRow base 72 1 v n xs) {J : Nat} {z : Int} (hJ : JobAt w J z) : some J ≠ v.ownBlock := by
  intro e
  obtain ⟨cj, hc, _⟩ := hJ
  rcases h.2 with ⟨rfl, _⟩ | ⟨g, cap, cur, rfl, _, hg, _⟩
  · simp [Value.ownBlock] at e
  · simp [Value.ownBlock] at e
    subst e
    rw [hg] at hc
    simp at hc

theorem JobAt.kept {w w' : World} {row : Option Nat} {J : Nat} {z : Int} (hJ : JobAt w J z) (hg : w.grownBy w' row) (hne : some J ≠ row) : JobAt w' J z := by
  obtain ⟨cj, hc, h4⟩ := hJ
  exact ⟨cj, (hg.block J (Array.getElem?_eq_some_iff.1 hc).1 hne).trans hc, h4⟩

theorem JobAt.new (w : World) (jc : Array Value) (z : Int) (h : jc[4]? = some (.int .i64 z)) : JobAt (w.alloc (.cells jc 75)) w.heap.size z :=
  ⟨jc, heap_alloc_new w _, h⟩

/-- Behind the round's first writes: the job's block laid, the map written. -/
theorem q_mid {wr w1 : World} {M k : Nat} {z z0 : Int} {c jc : Array Value} {v : Value} {m : Int} {xs : List Value} (s : QState wr M k z0 c v m xs) (hjc : jc[4]? = some (.int .i64 z))
    (hg1 : (wr.alloc (.cells jc 75)).drew.grownBy w1 (some M)) :
    w1.heap[M + 2]? = some (.cells c 71 (0, 0)) ∧ w1.ownsRow (M + 3) 72 1 v k xs ∧ JobAt w1 wr.heap.size z ∧ (∀ J, JobAt wr J z0 → JobAt w1 J z0) ∧ wr.heap.size + 1 ≤ w1.heap.size := by
  have hl := s.lt
  have hsz : (wr.alloc (.cells jc 75)).drew.heap.size = wr.heap.size + 1 := by simp
  refine ⟨?_, ?_, ?_, ?_, ?_⟩
  · rw [hg1.block (M + 2) (by omega) (by simp)]
    exact (Below.heap_alloc _ _ _ (by omega)).trans s.q
  · refine ((s.own.alloc _).drew).kept hg1 ?_
    by_cases e : v.ownBlock = none
    · exact .inl e
    · exact .inr (fun e' => s.ownNe (j := M) (by omega) e'.symm)
  · refine JobAt.kept (w := (wr.alloc (.cells jc 75)).drew) (JobAt.new wr jc z hjc) hg1 ?_
    simp; omega
  · intro J hJ
    have hJl : J < wr.heap.size := by obtain ⟨cj, hc, _⟩ := hJ; exact (Array.getElem?_eq_some_iff.1 hc).1
    have hJ1 : JobAt (wr.alloc (.cells jc 75)) J z0 := hJ.kept (World.grownBy_alloc _ _ none) (by simp)
    refine JobAt.kept (w := (wr.alloc (.cells jc 75)).drew) hJ1 hg1 ?_
    intro e
    simp at e
    subst e
    obtain ⟨D, es, cl, hb, _⟩ := s.map
    obtain ⟨cj, hc, _⟩ := hJ
    rw [hb] at hc
    simp at hc
  · have := hg1.size; omega

theorem q_end {w1 w2 : World} {M k B : Nat} {z z0 : Int} {c : Array Value} {v v2 : Value} {xs : List Value}
    (hQ : w1.heap[M + 2]? = some (.cells c 71 (0, 0))) (hcs : c.size = 27) (hc0 : c[0]? = some (.map (some M))) (hown : w1.ownsRow (M + 3) 72 1 v k xs)
    (hJ : JobAt w1 B z) (hfirst : 0 < k → ∃ J, xs[0]? = some (.pointer (some ⟨J, 0, none⟩)) ∧ JobAt w1 J z0) (hz : k = 0 → z = z0)
    (hm1 : ∃ D, w1.ownsMap Try.prog 22 anyElem M (k + 1) D)
    (hg2 : (w1.alloc (.cells #[.pointer (some ⟨B, 0, none⟩)] 72)).grownBy w2 v.ownBlock)
    (hown2 : w2.ownsRow (M + 3) 72 1 v2 (k + 1) (xs ++ [.pointer (some ⟨B, 0, none⟩)])) :
    (w2.cell? ⟨M + 2, 6, none⟩ = c[6]? ∧ w2.cell? ⟨M + 2, 8, none⟩ = c[8]? ∧ (∀ j, w2.frozen? ⟨M + 2, j, none⟩ = false)) ∧
    (∀ m' : Int, QueueIs ((w2.setCell ⟨M + 2, 6, none⟩ v2).setCell ⟨M + 2, 8, none⟩ (.int .i64 m')) M (k + 1) z0) ∧ w1.heap.size + 1 ≤ w2.heap.size := by
  have hl : M + 2 < w1.heap.size := (Array.getElem?_eq_some_iff.1 hQ).1
  have hne : ∀ j, j < M + 3 → some j ≠ v.ownBlock := fun j hj h => by have := (hown.lt j h.symm).1; omega
  have hg : w1.grownBy w2 v.ownBlock := (World.grownBy_alloc w1 _ _).trans hg2
  have hQ2 : w2.heap[M + 2]? = some (.cells c 71 (0, 0)) := (hg.block (M + 2) hl (hne _ (by omega))).trans hQ
  have keepJ : ∀ (m' : Int) J y, JobAt w1 J y → JobAt ((w2.setCell ⟨M + 2, 6, none⟩ v2).setCell ⟨M + 2, 8, none⟩ (.int .i64 m')) J y := by
    intro m' J y hJ
    have h2 := hJ.kept hg (ownNeJob hown hJ)
    have hn : J ≠ M + 2 := by
      rintro rfl
      obtain ⟨cj, hc, _⟩ := h2
      rw [hQ2] at hc
      simp at hc
    obtain ⟨cj, hc, h4⟩ := h2
    exact ⟨cj, by rw [Below.heap_setCell _ _ _ _ hn, Below.heap_setCell _ _ _ _ hn]; exact hc, h4⟩
  refine ⟨⟨cell_of_row w2 _ _ c 71 (0, 0) hQ2, cell_of_row w2 _ _ c 71 (0, 0) hQ2, fun j => frozen_of_row w2 _ _ c 71 hQ2⟩, ?_, ?_⟩
  · intro m'
    have e1 := heap_setCell_same w2 (M + 2) 6 c 71 v2 hQ2
    have e2 := heap_setCell_same _ (M + 2) 8 _ 71 (.int .i64 m') e1
    refine ⟨_, v2, m', _, e2, by simp [hcs], by simpa using hc0, by simp [hcs], by simp [hcs], ownsRow_setCell_below (ownsRow_setCell_below hown2 (by simp) _) (by simp) _, fun _ => ?_, ?_⟩
    · by_cases hk : k = 0
      · subst hk
        have hx : xs = [] := List.eq_nil_of_length_eq_zero (by have := hown.1; omega)
        subst hx
        exact ⟨B, rfl, hz rfl ▸ keepJ _ _ _ hJ⟩
      · obtain ⟨J, hx, hJ0⟩ := hfirst (by omega)
        refine ⟨J, ?_, keepJ _ _ _ hJ0⟩
        rw [List.getElem?_append_left (List.getElem?_eq_some_iff.1 hx).1]
        exact hx
    · obtain ⟨D, hm⟩ := hm1
      have h2 := hm.kept hg (hne _ (by omega))
      obtain ⟨es, cl, hb, F, r⟩ := h2
      exact ⟨D, es, cl, by rw [Below.heap_setCell _ _ _ _ (by simp), Below.heap_setCell _ _ _ _ (by simp)]; exact hb, F, r⟩
  · have := hg2.size
    simp at this
    omega

theorem Hid.mk' {p : Prop} (h : p) : Hid p := h

theorem shape2 {w : World} {base e size k : Nat} {v : Value} {xs : List Value} (h : w.ownsRow base e size v (k + 1) xs) : ∃ g cap, v = .slice (some ⟨g, 0, none⟩) (k + 1) cap := by
  rcases h.2 with ⟨_, h⟩ | ⟨g, cap, _, h, _⟩
  · omega
  · exact ⟨g, cap, h⟩

theorem q_start (w : World) (x u : Int) (y : Value) (z : Int) :
    QueueIs (((w.alloc (.map #[] 0)).alloc (.map #[] 0)).alloc (.cells (((queueCells w.heap.size x).setIfInBounds 15 (.int .i64 u)).setIfInBounds 18 y) 71)) w.heap.size 0 z := by
  refine ⟨((queueCells w.heap.size x).setIfInBounds 15 (.int .i64 u)).setIfInBounds 18 y, .slice none 0 0, 0, [], ?_, rfl, rfl, rfl, rfl, World.ownsRow_nil _ _ _ _, fun h => by omega, .map [], ?_⟩
  · have := heap_alloc_new ((w.alloc (.map #[] 0)).alloc (.map #[] 0)) (.cells (((queueCells w.heap.size x).setIfInBounds 15 (.int .i64 u)).setIfInBounds 18 y) 71)
    simpa using this
  · exact ((World.ownsMap_made w Try.prog 22 anyElem).alloc _).alloc _

theorem b_start (w : World) (o : Obj) : Below w.heap.size w (((w.alloc (.map #[] 0)).alloc (.map #[] 0)).alloc o) :=
  (((Below.refl _ _).alloc (Nat.le_refl _) _).alloc (by simp) _).alloc (by simp; omega) _

theorem b_mid {w wr w1 w2 : World} {k : Nat} {o o' : Obj} {v : Value} {xs : List Value} (hbel : Below w.heap.size w wr) (hl : w.heap.size + 3 ≤ wr.heap.size) (hg1 : (wr.alloc o).drew.grownBy w1 (some w.heap.size)) (hs1 : wr.heap.size + 1 ≤ w1.heap.size)
    (hown1 : w1.ownsRow (w.heap.size + 3) 72 1 v k xs) (hg2 : (w1.alloc o').grownBy w2 v.ownBlock) : Below w.heap.size w w2 := by
  have h1 : Below w.heap.size w w1 := ((hbel.alloc (by omega) o).drew).grown hg1 (by simp; omega) (fun j hj => by cases hj; exact Nat.le_refl _)
  exact (h1.alloc (by omega) o').grown hg2 (by simp; omega) (fun j hj => by have := (hown1.lt j hj).1; omega)

theorem QueueIs.drew {w : World} {M k : Nat} {z : Int} (h : QueueIs w M k z) : QueueIs w.drew M k z := by
  obtain ⟨c, v, m, xs, s⟩ := h
  exact ⟨c, v, m, xs, s.q, s.size, s.c0, s.c6, s.c8, s.own, s.first, s.map⟩

theorem QueueIs.has {w : World} {M k : Nat} {z : Int} (h : QueueIs w M k z) : QueueHas w (M + 2) k z := by
  obtain ⟨c, v, m, xs, s⟩ := h
  rcases s.own.2 with ⟨rfl, rfl⟩ | ⟨g, cap, cur, rfl, hg, hh, hn, hm, hs, ht⟩
  · exact ⟨none, 0, by rw [s.cell, s.c6], fun h => by omega⟩
  · refine ⟨some ⟨g, 0, none⟩, cap, by rw [s.cell, s.c6], fun hk => ?_⟩
    obtain ⟨J, hx, cj, hJ, h4⟩ := s.first hk
    refine ⟨g, J, rfl, ?_, ?_⟩
    · rw [s.own.cellAt 0 (by omega)]; exact hx
    · rw [cell_of_row w J 4 cj 75 (0, 0) hJ]; exact h4

set_option maxRecDepth 100000 in
theorem queueWaiting (x u : Int) (a : Option Addr) (len cap : Nat) (zs : List Int) (w : World) (hl : len ≤ 65536) (hr : RowI w a len zs) :
    Calls Try.prog 19 #[.int .u64 x, .int .i64 u, .slice a len cap] w fun e w' => e = .returned (.pointer (some ⟨w.heap.size + 2, 0, none⟩)) ∧ QueueIs w' w.heap.size len (zs.getD 0 0) ∧ Below w.heap.size w w' := by
  by_cases h0 : len = 0
  · subst h0
    go_enter Try.func19, Try.ntmps19
    go_wp2_with (go_at_call 25; refine (newQueue _ _).mono ?_; rintro e w' ⟨rfl, rfl⟩)
    refine wp_loop_rounds 1 ?_
    rw [rounds_succ]
    go_wp2
    go_ret
    exact ⟨rfl, q_start _ _ _ _ _, b_start _ _⟩
  · obtain ⟨b, off, rfl, hb, hc'⟩ := hr (by omega)
    have HC : Hid (∀ j, j < len → w.cell? ⟨b, off + j, none⟩ = some (.int .i64 (zs.getD j 0))) := hc'
    clear hc' hr
    obtain ⟨i0, hi, hz0, hz1, hz2⟩ := info_parts info72
    go_enter Try.func19, Try.ntmps19
    go_wp2_with (go_at_call 25; refine (newQueue _ _).mono ?_; rintro e w' ⟨rfl, rfl⟩)
    go_loopw [25] (fun i wr => ∃ k : Nat, k ≤ len ∧ i = .int .i64 k ∧ QueueIs wr w.heap.size k (zs.getD 0 0) ∧ Below w.heap.size w wr) (fun i _ => len - (intOf i).toNat)
    case atStart => exact ⟨0, Nat.zero_le _, rfl, q_start _ _ _ _ _, b_start _ _⟩
    case round =>
      obtain ⟨k, hk, rfl, ⟨c, v, m, xs, s⟩, hbel⟩ := hrel
      by_cases hlt : k < len
      · obtain ⟨z, hz⟩ : ∃ z, z = zs.getD k 0 := ⟨_, rfl⟩
        have hck : wr.cell? ⟨b, off + k, none⟩ = some (.int .i64 z) := by rw [hbel.cell (by exact hb), HC.out k hlt, hz]
        have HZ : Hid (z = zs.getD k 0) := hz
        clear hz
        have hlt3 := s.lt
        have q0 : ∀ o, (wr.alloc o).cell? ⟨w.heap.size + 2, 0, none⟩ = some (.map (some w.heap.size)) := fun o => by rw [World.cell?_of_block (w := wr) (Below.heap_alloc _ _ _ (by exact hlt3)), s.cell, s.c0]
        obtain ⟨D, hmap⟩ := s.map
        obtain ⟨w1, hrun, hmap1, hg1⟩ := ((hmap.alloc (Obj.cells #[Value.int IntKind.u64 (↑k + 1), Value.int IntKind.u8 1, Value.string { data := #[] }, Value.string { data := #[] }, Value.int IntKind.i64 z, Value.int IntKind.u64 1, Value.int IntKind.u8 1, Value.bool false, Value.int IntKind.i64 ↑k, Value.pointer none, Value.int IntKind.u64 0] 75)).drew).update law22 Try.underlying58 (key := .int .u64 (↑k + 1)) (val := .pointer (some ⟨wr.heap.size, 0, none⟩)) (by unfold maxLen; omega) (keyOf_int_mk Try.underlying22 (by simp [Lit.wf, IntKind.min, IntKind.max, IntKind.signed, IntKind.bits]; omega)) (rfl : anyElem _ = some (.nil, []))
        obtain ⟨hQ1, hown1, hJ1, hJk, hs1⟩ := q_mid (z := z) s rfl hg1
        have c61 : w1.cell? ⟨w.heap.size + 2, 6, none⟩ = some v := by rw [cell_of_row w1 _ _ c 71 (0, 0) hQ1, s.c6]
        clear hmap
        go_wp2
        go_region
        have e61 := s.c6
        have e81 := s.c8
        have hbase : w.heap.size + 3 ≤ w1.heap.size := by omega
        go_wp2_with (first
          | (at_builtin; refine wpList_append_own _ rfl _ _ 59 rfl (w.heap.size + 3) 72 i0 (.pointer none) 1 8 Try.underlying59 hi hz0 hz1 hz2 rfl (by decide) _ _ _ rfl (hown1.alloc _) ⟨w1.heap.size, 0, none⟩ 1 1 [.pointer (some ⟨wr.heap.size, 0, none⟩)] rfl rfl (cell_one_new _ _ _) (by intro u hu; simp at hu; subst hu; rfl) (by unfold maxLen; omega) (by omega) (by simp; omega) ?_; intro v2 w2 hown2 hgrow2 hnil2; obtain ⟨⟨c62, c82, f2⟩, hend, hs2⟩ := q_end hQ1 s.size s.c0 hown1 hJ1 (fun h => by obtain ⟨J, hj1, hj2⟩ := s.first h; exact ⟨J, hj1, hJk J hj2⟩) (fun h => by subst h; exact HZ.out) ⟨_, hmap1⟩ hgrow2 hown2; rw [e61] at c62; rw [e81] at c82; have HN := Hid.mk' hend; clear hend; obtain ⟨g2, cp2, hv2⟩ := shape2 hown2; subst hv2))
        have hb2 : Below w.heap.size w w2 := b_mid hbel hlt3 hg1 hs1 hown1 hgrow2
        clear hgrow2 hown2 hown1 hg1 hmap1 hJ1 hJk hQ1 hrun q0
        go_region
        go_wp2
        go_roundw
        case rel => exact ⟨k + 1, by omega, by go_num, (HN.out _).drew, ((hb2.setCell (p := ⟨w.heap.size + 2, 6, none⟩) (by show _ ≤ w.heap.size + 2; omega) _).setCell (p := ⟨w.heap.size + 2, 8, none⟩) (by show _ ≤ w.heap.size + 2; omega) _).drew⟩
        case measure => simp [intOf]; omega
      · have : k = len := by omega
        subst this
        go_wp2
        go_ret
        exact ⟨rfl, ⟨c, v, m, xs, s⟩, hbel⟩
end Go.Proofs.Qxb6603649a
