/-
  Seat b6604397a. One input that fits the two 'ReserveAt' rows: the array of 1,440 noughts. By laws, not by the kernel's run (which outgrew the memory lid).
-/
import Derived.Test.Qxb6604397aReD
import Derived.ProofKit
namespace Go.Proofs.Qxb6604397a
open Go.ChangeShapes Go.WideShapes Go.ChangeAt Go.RowKit

theorem ct23 : Try.prog.cellTypes Try.prog.depth 23 = some (List.replicate 1440 22) := by kernel_rfl

/-- The array of noughts. -/
def zeros : Array Value := Array.replicate 1440 (.float .f64 0)

theorem zeros_size : zeros.size = 1440 := Array.size_replicate

theorem cell22 (w : World) (r : Reach) (base : Nat) : Cell.okWide Try.prog w r base 22 (.float .f64 0) := by
  simp only [Cell.okWide, Cell.ok, Try.underlying22]
  exact ⟨trivial, by unfold FloatKind.has; decide⟩

set_option maxRecDepth 100000 in
theorem ok23 (w : World) (r : Reach) (base : Nat) : Value.okWide Try.prog w r base 23 (.agg zeros) := by
  simp only [Value.okWide, Try.underlying23]
  refine ⟨zeros, rfl, zeros_size.trans cells23.symm, _, ct23, ⟨1, by rw [zeros_size, List.length_replicate, Nat.one_mul]⟩, fun i v hv => ⟨22, ?_, ?_⟩⟩
  · rw [List.length_replicate, List.getElem?_replicate, if_pos (Nat.mod_lt _ (by decide))]
  · have : v = .float .f64 0 := by
      rw [zeros, Array.getElem?_replicate] at hv
      by_cases hi : i < 1440
      · rw [if_pos hi] at hv; exact (Option.some.inj hv).symm
      · rw [if_neg hi] at hv; cases hv
    subst this
    exact cell22 w r base

section
variable {H : Type} {enc : TypeId × Value → H} {P : Program} {w : World} {base : Nat} {spare : Nat → Bool} {held : Bool}

theorem trod_array_mk {t e : TypeId} {n m : Nat} {cs : List Value} {xs : List (DataW H × List MemPlace)} (ht : P.underlying t = some (.array n e)) (hl : cs.length = P.cellsOf t)
    (hp : (List.range n).mapM (fun i => DataW.trod enc P w base spare held m e ((cs.drop (i * P.cellsOf e)).take (P.cellsOf e))) = some xs) :
    DataW.trod enc P w base spare held (m + 1) t cs = some (.agg (xs.map (·.1)), xs.flatMap (·.2)) := by
  unfold DataW.trod
  rw [ht]
  split <;> simp_all

theorem mapM_same {α β : Type} (f : α → Option β) (y : β) : ∀ l : List α, (∀ x ∈ l, f x = some y) → l.mapM f = some (List.replicate l.length y)
  | [], _ => rfl
  | a :: r, h => by
    rw [List.mapM_cons, h a (by simp), mapM_same f y r (fun x hx => h x (by simp [hx]))]
    rfl
end

theorem trod22 {H : Type} {enc : TypeId × Value → H} {w : World} {base : Nat} {spare : Nat → Bool} {held : Bool} :
    DataW.trod enc Try.prog w base spare held 1 22 [.float .f64 0] = some (.lit (.float .f64 0), []) := by
  have hw : (Lit.float .f64 0).wf = true := by decide
  simp only [DataW.trod, Try.underlying22, hw, and_self, if_true]

theorem flat_none {α β : Type} (y : α) : ∀ n, (List.replicate n (y, ([] : List β))).flatMap (fun p => p.2) = []
  | 0 => rfl
  | n + 1 => by rw [List.replicate_succ, List.flatMap_cons, flat_none y n]; rfl

theorem trod23 {H : Type} (enc : TypeId × Value → H) (w : World) (base : Nat) (spare : Nat → Bool) (held : Bool) :
    DataW.Trod enc Try.prog w base spare held 23 (.agg zeros) (.agg (List.replicate 1440 (.lit (.float .f64 0)))) [] := by
  refine ⟨2, ?_⟩
  have hc : (Value.agg zeros).cells.toList = List.replicate 1440 (.float .f64 0) := Array.toList_replicate
  rw [hc]
  have := trod_array_mk (enc := enc) (w := w) (base := base) (spare := spare) (held := held) (m := 1) (cs := List.replicate 1440 (.float .f64 0)) (xs := List.replicate 1440 (.lit (.float .f64 0), []))
    Try.underlying23 (by rw [cells23, List.length_replicate]) (by
      have := mapM_same (fun i => DataW.trod enc Try.prog w base spare held 1 22 (((List.replicate 1440 (Value.float .f64 0)).drop (i * Try.prog.cellsOf 22)).take (Try.prog.cellsOf 22))) (.lit (.float .f64 0), []) (List.range 1440) (fun i hi => by
        have hi' : i < 1440 := by simpa using hi
        rw [cells22, Nat.mul_one, List.drop_replicate, List.take_replicate, Nat.min_eq_left (by omega)]
        exact trod22)
      rw [List.length_range] at this
      exact this)
  rw [this, List.map_replicate, flat_none]

theorem weights_zeros {H : Type} (P : Program) (e : TypeId) : ∀ n, DataW.weightsAll (H := H) P e (List.replicate n (.lit (.float .f64 0))) = []
  | 0 => rfl
  | n + 1 => by
    rw [List.replicate_succ, DataW.weightsAll, weights_zeros P e n]
    rfl

/-- The arguments, read. -/
theorem whole {H : Type} (enc : TypeId × Value → H) (w : World) :
    DataW.Whole enc Try.prog [23, 2] [] false w [.agg zeros, .int .i64 0] [.agg (List.replicate 1440 (.lit (.float .f64 0))), .lit (.int .i64 0)] [] [] :=
  ⟨[], [], trodAll_cons_mk (trod23 enc w 0 _ true) (trodAll_cons_mk (shut_int Try.underlying2 (by decide)) trodAll_mk0), rfl, rfl, (fun _ _ h => by cases h), (fun h => by cases h)⟩

theorem weights_ok {H : Type} : (DataW.weightsEach (H := H) Try.prog [23, 2] [.agg (List.replicate 1440 (.lit (.float .f64 0))), .lit (.int .i64 0)]).all (· ≤ reachBytes) = true := by
  simp only [DataW.weightsEach, DataW.weights, Try.underlying23, weights_zeros, List.nil_append, List.all_nil]

theorem int0 (w : World) (r : Reach) (base : Nat) : Value.okWide Try.prog w r base 2 (.int .i64 0) := by
  simp only [Value.okWide, Cell.okWide, Cell.ok, Try.underlying2]
  exact ⟨trivial, by unfold IntKind.has; decide⟩

/-- The start: two arguments, no block. -/
def start : Input := ⟨#[], #[.agg zeros, .int .i64 0], []⟩

set_option maxRecDepth 100000 in
theorem okInput (w : World) (r : Reach) (base : Nat) (f : FuncId) (fn : Func) (hi : Try.prog.inits.idxOf? f = none) (hf : Try.prog.funcs[f]? = some fn) (hb : fn.body.isSome = true) (ho : fn.ours = false) (hn : fn.nfree = 0) (hp : fn.params = #[23, 2]) :
    Input.okWide Try.prog w r base f start := by
  refine ⟨(fun o h => absurd h (by simp [start])), (fun gv h => absurd h (by simp [start])), hi, fn, hf, hb, ho, hn, (by rw [hp]; rfl), fun j t v ht hv => ?_⟩
  rw [hp] at ht
  match j, ht, hv with
  | 0, ht, hv =>
    have e1 : t = 23 := (Option.some.inj (show some 23 = some t from ht)).symm
    have e2 : v = .agg zeros := (Option.some.inj (show some (Value.agg zeros) = some v from hv)).symm
    subst e1 e2
    exact ok23 w r base
  | 1, ht, hv =>
    have e1 : t = 2 := (Option.some.inj (show some 2 = some t from ht)).symm
    have e2 : v = .int .i64 0 := (Option.some.inj (show some (Value.int .i64 0) = some v from hv)).symm
    subst e1 e2
    exact int0 w r base
  | j + 2, ht, _ => simp at ht

def zerosData {H : Type} : List (DataW H) := [.agg (List.replicate 1440 (.lit (.float .f64 0))), .lit (.int .i64 0)]

set_option maxRecDepth 100000 in
/-- One input that fits a row over this array and an int64. -/
theorem fits (os : Os) (H : Type) (enc : TypeId × Value → H) (s : ChangeSpec) (hv0 : s.vars = []) (f : FuncId) (fn : Func) (hi : Try.prog.inits.idxOf? f = none) (hf : Try.prog.funcs[f]? = some fn) (hb : fn.body.isSome = true) (ho : fn.ours = false) (hn : fn.nfree = 0)
    (hp : fn.params = #[23, 2]) (hpl : Try.prog.platform = "linux/amd64/v1") (hv : (World.plainHolding Try.prog os start).variablesB Try.prog = true)
    (hr : ((World.plainHolding Try.prog os start).heap.toList.drop Try.prog.globals.size).take ((begin Try.prog (fun _ _ => 0) default).world.heap.size - Try.prog.globals.size) =
      (begin Try.prog (fun _ _ => 0) default).world.heap.toList.drop Try.prog.globals.size) :
    ∃ (w : World) (tape : Tape) (i : Input), w.os = os ∧ (w.forCall tape i).Shaped Try.prog ∧ i.vars = [] ∧ Input.okWide Try.prog (w.forCall tape i) .any w.heap.size f i ∧
      s.pre6 enc Try.prog fn [] false (w.forCall tape i).memory i.args ∧ ({} : Assume).holds Try.prog (lone (Frame.enter Try.prog f i.args .normal) [] (w.forCall tape i)) := by
  have hw := fun w => whole enc w
  refine ⟨World.holding Try.prog os start, fun _ _ => 0, start, rfl, World.shaped_of_B hv hr, rfl, okInput _ _ _ f fn hi hf hb ho hn hp, ⟨⟨zerosData, [], [], ?_, rfl⟩, hpl, zerosData, [], [], ?_, ?_⟩, ?_⟩
  · rw [hp, hv0]; exact hw _
  · rw [hp]; show DataW.Whole enc Try.prog [23, 2] s.vars false _ _ _ _ _; rw [hv0]; exact hw _
  · rw [hp]
    have e : (OpenSpec.ofChange s).bare.plain.varTypes Try.prog = [] := by
      show DataSpec.varTypes Try.prog s.plain = []
      unfold DataSpec.varTypes
      show List.filterMap _ s.vars = []
      rw [hv0]; rfl
    rw [e]
    exact weights_ok
  · simp only [Assume.holds]
    exact ⟨by simp, by simp, fun _ => Modest.zero, by simp, by simp⟩
end Go.Proofs.Qxb6604397a
