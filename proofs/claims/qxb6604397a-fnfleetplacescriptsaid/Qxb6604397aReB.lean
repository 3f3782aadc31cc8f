/-
  Seat b6604397a. ZZnewReserve (7): a struct of 11,522 cells built out of an array of 1,440; ZZreserveAt (8).
-/
import Derived.Test.Qxb6604397aReA
namespace Go.Proofs.Qxb6604397a
open Go.RowKit

/-! ### a part laid into a row of cells -/
theorem lay_list (off : Nat) : ∀ (l : List Value) (s : Nat) (cells : Array Value), off + s + l.length ≤ cells.size →
    ((l.zipIdx s).foldl (fun cs (p : Value × Nat) => cs.setIfInBounds (off + p.2) p.1) cells).size = cells.size ∧
    (∀ i, (h : i < l.length) → ((l.zipIdx s).foldl (fun cs (p : Value × Nat) => cs.setIfInBounds (off + p.2) p.1) cells)[off + s + i]? = some l[i]) ∧
    (∀ i, i < off + s → ((l.zipIdx s).foldl (fun cs (p : Value × Nat) => cs.setIfInBounds (off + p.2) p.1) cells)[i]? = cells[i]?)
  | [], s, cells, _ => ⟨rfl, fun i h => absurd h (by simp), fun i _ => rfl⟩
  | v :: r, s, cells, hl => by
    have hl' : off + s + r.length + 1 ≤ cells.size := by simp at hl; omega
    have ih := lay_list off r (s + 1) (cells.setIfInBounds (off + s) v) (by simp; omega)
    simp only [List.zipIdx_cons, List.foldl_cons]
    refine ⟨by rw [ih.1]; simp, fun i h => ?_, fun i hi => ?_⟩
    · cases i with
      | zero =>
        have e := ih.2.2 (off + s) (by omega)
        simp only [Nat.add_zero, e]
        rw [Array.getElem?_setIfInBounds_self_of_lt (by omega)]
        rfl
      | succ i =>
        have := ih.2.1 i (by simp at h; omega)
        rw [show off + s + (i + 1) = off + (s + 1) + i by omega, this]
        simp
    · rw [ih.2.2 i (by omega)]
      rw [Array.getElem?_setIfInBounds, if_neg (by omega)]

theorem info63 : (Try.prog.info? 63).map (fun i => i.zero.map (fun z => z.cells.size)) = some (some 11522) := by kernel_rfl

theorem places63 (fs : Array Field) (h : Try.prog.underlying 63 = some (.struct fs)) : fs.toList.mapM (fun f => (Try.prog.info? f.type).map fun i => (f.offset, i.size)) = some [(0, 10080), (10080, 1440), (11520, 1), (11521, 1)] := by
  rw [Try.underlying63] at h
  cases h
  kernel_rfl

/-- A reserve built round the array cs: its cells from 10,080 on are those of cs. -/
theorem built63 (cs : Array Value) (hs : cs.size = 1440) : ∃ bc, Try.prog.built 63 [(1, .agg cs)] = some bc ∧ ∀ i, i < 1440 → bc[10080 + i]? = cs[i]? := by
  obtain ⟨it, hit, hz⟩ := Option.map_eq_some_iff.1 info63
  obtain ⟨z, hz0, hzs⟩ := Option.map_eq_some_iff.1 hz
  have hp := places63 _ Try.underlying63
  have hl := lay_list 10080 cs.toList 0 z.cells (by simp [hs, hzs])
  refine ⟨cs.toList.zipIdx.foldl (fun cs (p : Value × Nat) => cs.setIfInBounds (10080 + p.2) p.1) z.cells, ?_, fun i hi => ?_⟩
  · unfold Program.built
    simp only [hit, Try.underlying63, hz0, hp]
    clear hl hz0 hz hp hit
    generalize z.cells = zc at hzs ⊢
    show (if cs.size ≠ 1440 || 10080 + cs.size > zc.size then none else some (cs.zipIdx.foldl (fun cs (p : Value × Nat) => cs.setIfInBounds (10080 + p.2) p.1) zc)) = _
    rw [if_neg (by simp [hs, hzs]), ← Array.foldl_toList, Array.toList_zipIdx]
  · have := hl.2.1 i (by simp [hs, hi])
    simp only [Nat.add_zero] at this
    rw [this]
    simp [hs, hi]

/-- A struct built: its cells under a name of their own. -/
theorem wpList_build_one {P : Program} {ops : Array Oper} {rest : List Oper} {o : Oper} {a : Act} {w : World} {Q : Exit → Act → World → Prop} (hg : o.guard = none) (t : TypeId) (i : Nat) (x : Operand) (ho : o.op = .build t #[(i, x)])
    (v : Value) (hv : a.eval x = v) (bc : Array Value) (hf : P.built t [(i, v)] = some bc)
    (h : wpList P ops Q rest (a.put o.dst (.agg bc)) w) : wpList P ops Q (o :: rest) a w := by
  subst hv
  exact wpList_build hg t #[(i, x)] ho (by simp [hf]) (by simpa [hf] using h)

/-- The reserve at block R remembers the array cs. -/
def Remembers (w : World) (R : Nat) (cs : Array Value) : Prop := ∀ i, i < 1440 → w.cell? ⟨R, 10080 + i, none⟩ = cs[i]?

set_option maxRecDepth 100000 in
theorem newReserve (cs : Array Value) (hs : cs.size = 1440) (w : World) :
    Calls Try.prog 7 #[.agg cs] w fun e w' => e = .returned (.pointer (some ⟨w.heap.size + 1, 0, none⟩)) ∧ Remembers w' (w.heap.size + 1) cs ∧ Below w.heap.size w w' := by
  obtain ⟨bc, hb, hbc⟩ := built63 cs hs
  have HB := hid hb
  have HBC := hid hbc
  have HS := hid (size23.trans (by rw [hs]) : (Try.prog.info? 23).map (·.size) = some cs.size)
  clear hb hbc
  go_enter Try.func7, Try.ntmps7
  go_wp2_with (first
    | (with_reducible show wpList _ _ _ (Oper.mk _ (Op.load 23 _) _ _ _ _ :: _) _ _; refine wpList_load_row rfl 23 _ rfl w.heap.size rfl 23 cs (0, 0) _ (heap_alloc_new _ _) Try.underlying23 rfl HS.out ?_)
    | (with_reducible show wpList _ _ _ (Oper.mk _ (Op.build 63 _) _ _ _ _ :: _) _ _; refine wpList_build_one rfl 63 1 _ rfl (.agg cs) rfl bc HB.out ?_))
  go_ret
  refine ⟨rfl, fun i hi => ?_, ((Below.refl _ _).alloc (Nat.le_refl _) _).alloc (by simp) _⟩
  rw [cell_of_row _ _ _ bc 63 (0, 0) (heap_alloc2_new _ _ _)]
  exact HBC.out i hi

set_option maxRecDepth 100000 in
theorem reserveAt (R : Nat) (m : Int) (k x : Nat) (w : World) (hk : m % 1440 = k) (hc : w.cell? ⟨R, 10080 + k, none⟩ = some (.float .f64 x)) :
    Calls Try.prog 8 #[.pointer (some ⟨R, 0, none⟩), .int .i64 m] w fun e w' => e = .returned (.tuple #[.float .f64 (ansV x), .bool (!nan x)]) ∧ ∃ n, w' = w.drewN n := by
  have HK := hid hk
  clear hk
  go_enter Try.func8, Try.ntmps8
  go_wp2_with (go_at_call 25; refine (at25 R m k x _ HK.out hc).mono ?_; rintro e w1 ⟨rfl, n1, hw⟩; subst w1)
  go_ret2
  exact ⟨rfl, _, rfl⟩
end Go.Proofs.Qxb6604397a
