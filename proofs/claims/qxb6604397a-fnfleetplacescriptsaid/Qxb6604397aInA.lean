/-
  Seat b6604397a. Laws of no program: 'copy' between rows whose elements take 'size' cells; what three splices make of a row.
-/
import Derived.Test.Qxb6604397aReA
import Derived.Laws.CopyOwn
import Derived.OwnWalk
import Derived.Lib.Overlaps
import Derived.Lib.AppendZerosOnto
import Derived.Lib.AppendZeros
import Derived.Laws.Externs
import Derived.Deep.RegionLaw
namespace Go.Proofs.Qxb6604397a
open Go.RowKit

section
variable {P : Program}

theorem run_copy_k (w : World) (dT sT ty elem : TypeId) (g o dLen dCap : Nat) (a : Addr) (sLen sCap size n : Nat) (cur : Array Value) (t : TypeId) (cs : List Value)
    (hu : P.underlying dT = some (.slice elem)) (hs : (P.info? elem).map (·.size) = some size)
    (hg : w.heap[g]? = some (.cells cur t (0, 0))) (hn : n = Nat.min sLen dLen) (hl : cs.length = n * size)
    (hsrc : ∀ j v, cs[j]? = some v → w.cell? (a.add j) = some v) (hfit : o + cs.length ≤ cur.size) (h1 : ∀ v ∈ cs, v.oneCell' = true) :
    (Builtin.copy_ #[dT, sT] ty #[.slice (some ⟨g, o, none⟩) dLen dCap, .slice (some a) sLen sCap]).run P w =
      .ok (goInt n) (w.setRow g (splice cur.toList o cs).toArray) := by
  have hld := run_loadCells_list (P := P) w a cs hsrc
  have hst := run_storeCells_at P g o t cs 0 cur w hg (by simpa using hfit) h1
  cases hq : P.info? elem with
  | none => simp [hq] at hs
  | some i =>
    have hi : i.size = size := by simpa [hq] using hs
    rw [hl] at hld
    simp [Builtin.copy_, run_underlying hu, Builtin.lenOf, Builtin.firstCells, sizeOf, typeInfo, hq, hi, ← hn, hld, hst, splice]

theorem wpList_copy_k {w : World} {ops : Array Oper} {rest : List Oper} {o : Oper} {a : Act} {Q : Exit → Act → World → Prop} (hgd : o.guard = none) (d s : Operand) (dT sT : TypeId)
    (ho : o.op = .call { callee := .builtin .copy, args := #[d, s], argTypes := #[dT, sT] }) (elem : TypeId) (size n : Nat) (hu : P.underlying dT = some (.slice elem)) (hsz : (P.info? elem).map (·.size) = some size)
    (g off dLen dCap : Nat) (ad : Addr) (sLen sCap : Nat) (hd : a.eval d = .slice (some ⟨g, off, none⟩) dLen dCap) (hs : a.eval s = .slice (some ad) sLen sCap)
    (cur : Array Value) (t : TypeId) (hg : w.heap[g]? = some (.cells cur t (0, 0))) (cs : List Value) (hn : n = Nat.min sLen dLen) (hl : cs.length = n * size)
    (hsrc : ∀ j v, cs[j]? = some v → w.cell? (ad.add j) = some v) (hfit : off + cs.length ≤ cur.size) (h1 : ∀ v ∈ cs, v.oneCell' = true)
    (h : wpList P ops Q rest (a.put o.dst (goInt n)) (w.setRow g (splice cur.toList off cs).toArray)) : wpList P ops Q (o :: rest) a w := by
  refine wpList_plain hgd fun K hK => ?_
  have hrun := run_copy_k (P := P) w dT sT o.type elem g off dLen dCap ad sLen sCap size n cur t cs hu hsz hg hn hl hsrc hfit h1
  unfold Oper.wp
  simp [execOp, ho, resolve, invoke, builtin, hd, hs, hrun, Result.andThen]
  exact hK _ _ h

theorem step_copy_k {w : World} {ops : Array Oper} {o : Oper} {a : Act} {K : Act → World → Prop} {Q : Exit → Act → World → Prop} {E : Prop} (hgd : o.guard = none) (d s : Operand) (dT sT : TypeId)
    (ho : o.op = .call { callee := .builtin .copy, args := #[d, s], argTypes := #[dT, sT] }) (elem : TypeId) (size n : Nat) (hu : P.underlying dT = some (.slice elem)) (hsz : (P.info? elem).map (·.size) = some size)
    (g off dLen dCap : Nat) (ad : Addr) (sLen sCap : Nat) (hd : a.eval d = .slice (some ⟨g, off, none⟩) dLen dCap) (hs : a.eval s = .slice (some ad) sLen sCap)
    (cur : Array Value) (t : TypeId) (hg : w.heap[g]? = some (.cells cur t (0, 0))) (cs : List Value) (hn : n = Nat.min sLen dLen) (hl : cs.length = n * size)
    (hsrc : ∀ j v, cs[j]? = some v → w.cell? (ad.add j) = some v) (hfit : off + cs.length ≤ cur.size) (h1 : ∀ v ∈ cs, v.oneCell' = true)
    (h : K (a.put o.dst (goInt n)) (w.setRow g (splice cur.toList off cs).toArray)) : if Region.wanted o (yielded ops a.tmps) = true then Oper.wp P o a w K Q else E := by
  have hw : Region.wanted o (yielded ops a.tmps) = true := by simp [Region.wanted, hgd]
  rw [if_pos hw]
  have hrun := run_copy_k (P := P) w dT sT o.type elem g off dLen dCap ad sLen sCap size n cur t cs hu hsz hg hn hl hsrc hfit h1
  unfold Oper.wp
  simp [execOp, ho, resolve, invoke, builtin, hd, hs, hrun, Result.andThen]
  exact h
end

theorem splice_at {α : Type} (A N vs : List α) : splice (A ++ N) A.length vs = A ++ (vs ++ N.drop vs.length) := by
  unfold splice
  rw [List.take_left, List.drop_append, List.drop_of_length_le (by omega), Nat.add_sub_cancel_left, List.nil_append]

/-- Whatever stood at A's end for as many cells as vs has, and then B, then D: with vs laid over it. -/
theorem splice_mid {α : Type} (A T B D vs : List α) (h : T.length = vs.length) : splice (A ++ (T ++ (B ++ D))) A.length vs = A ++ (vs ++ (B ++ D)) := by
  rw [splice_at, ← h, List.drop_left]

/-- IN PLACE: what stands from p on is moved up by q cells, then the q new cells are laid at p. -/
theorem splice_shift {α : Type} (L xs vs : List α) (p q : Nat) (hx : L.take xs.length = xs) (hxl : xs.length + q ≤ L.length) (hp : p ≤ xs.length) (hv : vs.length = q) :
    (splice (splice L (p + q) (xs.drop p)) p vs).take (xs.length + q) = xs.take p ++ (vs ++ xs.drop p) := by
  have hA : (xs.take p).length = p := by rw [List.length_take]; omega
  have e1 : L.take (p + q) = xs.take p ++ (L.drop p).take q := by
    rw [List.take_add]
    congr 1
    rw [← hx, List.take_take, Nat.min_eq_left (by omega)]
  have e2 : splice L (p + q) (xs.drop p) = xs.take p ++ ((L.drop p).take q ++ (xs.drop p ++ L.drop (p + q + (xs.drop p).length))) := by
    unfold splice
    rw [e1, List.append_assoc]
  have hT : ((L.drop p).take q).length = vs.length := by rw [List.length_take, List.length_drop, hv]; omega
  have e3 := splice_mid (xs.take p) ((L.drop p).take q) (xs.drop p) (L.drop (p + q + (xs.drop p).length)) vs hT
  rw [hA] at e3
  rw [e2, e3, ← List.append_assoc, ← List.append_assoc]
  rw [List.take_left' (by simp; omega), List.append_assoc]

/-- IN A NEW ROW: what stood ahead of p, then room; the new cells are laid at p, what stood from p on behind them. -/
theorem splice_new {α : Type} (Z xs vs : List α) (p q : Nat) (hp : p ≤ xs.length) (hv : vs.length = q) :
    (splice (splice (xs.take p ++ Z) p vs) (p + q) (xs.drop p)).take (xs.length + q) = xs.take p ++ (vs ++ xs.drop p) := by
  have hA : (xs.take p).length = p := by rw [List.length_take]; omega
  have e1 := splice_at (xs.take p) Z vs
  rw [hA] at e1
  rw [e1, ← List.append_assoc]
  have hAv : (xs.take p ++ vs).length = p + q := by rw [List.length_append, hA, hv]
  have e2 := splice_at (xs.take p ++ vs) (Z.drop vs.length) (xs.drop p)
  rw [hAv] at e2
  rw [e2, ← List.append_assoc, List.take_left' (by simp; omega), List.append_assoc]

/-- 'append' to a row of the call's own: the row stays in its block or moves to a new one. -/
theorem wpList_append_apart {P : Program} (w : World) {ops : Array Oper} {rest : List Oper} {o : Oper} {a : Act} {Q : Exit → Act → World → Prop} (hgd : o.guard = none) (s x : Operand) (t : TypeId)
    (ho : o.op = .call { callee := .builtin .append, args := #[s, x], argTypes := #[t, t] })
    (base : Nat) (e : TypeId) (i : TypeInfo) (z : Value) (size bytes : Nat) (ht : P.underlying t = some (.slice e)) (hi : P.info? e = some i) (hz : i.zero = some z)
    (hsize : i.size = size) (hby : i.bytes = bytes) (hzs : z.cells.size = size) (hsz : 0 < size)
    (v : Value) (n : Nat) (xs : List Value) (hs : a.eval s = v) (hown : w.ownsRow base e size v n xs)
    (ad : Addr) (m c : Nat) (news : List Value) (hx : a.eval x = .slice (some ad) m c) (hl : news.length = m * size) (hnews : ∀ j u, news[j]? = some u → w.cell? (ad.add j) = some u) (h1 : ∀ u ∈ news, u.oneCell' = true)
    (h63 : n + m ≤ maxLen) (hbytes : (n + m) * bytes ≤ 140737488355328) (hbase : base ≤ w.heap.size)
    (h : ∀ v' w', w'.ownsRow base e size v' (n + m) (xs ++ news) → w.grownBy w' v.ownBlock → (∀ k, v'.ownBlock = some k → v.ownBlock = some k ∨ w.heap.size ≤ k) → wpList P ops Q rest (a.put o.dst v') w') : wpList P ops Q (o :: rest) a w := by
  rcases hown.2 with ⟨rfl, rfl⟩ | ⟨g, cap, cur, rfl, hg, hh, hnc, hcm, hcs, htk⟩
  · refine wpList_append_own w hgd s x t ho w.heap.size e i z size bytes ht hi hz hsize hby hzs hsz _ 0 xs hs ⟨hown.1, .inl ⟨rfl, rfl⟩⟩ ad m c news hx hl hnews h1 h63 hbytes (Nat.le_refl _) fun v' w' q1 q2 _ => ?_
    refine h v' w' ?_ q2 fun k hk => .inr (q1.lt k hk).1
    refine ⟨q1.1, ?_⟩
    rcases q1.2 with q | ⟨g, cap, cur, r1, r2, r3⟩
    · exact .inl q
    · exact .inr ⟨g, cap, cur, r1, Nat.le_trans hbase r2, r3⟩
  · rcases Nat.lt_or_ge cap (n + m) with hr | hr
    · subst hsize
      subst hby
      have holds : ∀ j u, xs[j]? = some u → w.cell? ((⟨g, 0, none⟩ : Addr).add j) = some u := hown.cells rfl
      have hrun := fun ty => run_append_grow (P := P) w t ty e i z ht hi hz ⟨g, 0, none⟩ n cap xs hown.1 holds ad m c news hl hnews hr (by unfold maxLen at h63; omega) (growslice_fits hr hbytes)
      refine Lib.wpList_append_run w hgd s x t t ho _ _ hs hx _ _ (hrun _) (h _ _ ?_ ?_ fun k hk => .inr (Nat.le_of_eq (Option.some.inj hk)))
      · have hge := grownCap_ge w (n + m) cap e
        refine ⟨by rw [List.length_append, hown.1, hl, Nat.add_mul], .inr ⟨w.heap.size, grownCap w (n + m) cap e, _, rfl, hbase, heap_alloc_new w.drew _, hge, grownCap_le_maxLen w (n + m) cap e h63, ?_, ?_⟩⟩
        · have hz2 : (Builtin.zeroCells z.cells (grownCap w (n + m) cap e - (n + m))).size = (grownCap w (n + m) cap e - (n + m)) * i.size := by simp [Builtin.zeroCells, hzs]
          rw [Array.size_append, Array.size_append, hz2, List.size_toArray, List.size_toArray, hown.1, hl, ← Nat.add_mul, ← Nat.add_mul]
          congr 1; omega
        · rw [Array.toList_append, Array.toList_append, List.toList_toArray, List.toList_toArray]
          exact List.take_left' (by rw [List.length_append, hown.1, hl, Nat.add_mul])
      · refine ⟨rfl, rfl, rfl, by simp, fun k hk _ => heap_alloc_old w.drew _ hk⟩
    · refine wpList_append_fits w hgd s x t ho base e i size ht hi hsize g n cap xs hs hown ad m c news hx hl hnews h1 hr fun w' q1 q2 => h _ w' q1 q2 fun k hk => .inl hk
end Go.Proofs.Qxb6604397a
