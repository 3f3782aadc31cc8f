/-
  Seat b6604397a. An array of 1,440 floats that came in by value, opened.
-/
import Derived.Test.Qxb6604397aReC
import Derived.OpenShut
namespace Go.Proofs.Qxb6604397a
open Go.ChangeShapes Go.WideShapes Go.ChangeAt Go.RowKit

theorem cells23 : Try.prog.cellsOf 23 = 1440 := by kernel_rfl
theorem cells22 : Try.prog.cellsOf 22 = 1 := by kernel_rfl

theorem trod_float {H : Type} {enc : TypeId × Value → H} {P : Program} {w : World} {base : Nat} {spare : Nat → Bool} {held : Bool} {fuel : Nat} {t : TypeId} {cs : List Value} {x : DataW H × List MemPlace} {k : FloatKind}
    (ht : P.underlying t = some (.float k)) (h : DataW.trod enc P w base spare held fuel t cs = some x) : ∃ b, cs = [.float k b] := by
  cases fuel with
  | zero => simp [DataW.trod] at h
  | succ n =>
    unfold DataW.trod at h
    rw [ht] at h
    split at h <;> simp_all

set_option maxRecDepth 100000 in
theorem open_floats {H : Type} {enc : TypeId × Value → H} {W : World} {r : Reach} {b0 base : Nat} {spare : Nat → Bool} {held : Bool} {v : Value} {d : DataW H} {p : List MemPlace}
    (hv : Value.okWide Try.prog W r b0 23 v) (h : DataW.Trod enc Try.prog W base spare held 23 v d p) : ∃ cs f, v = .agg cs ∧ Floats cs f := by
  simp only [Value.okWide, Try.underlying23] at hv
  obtain ⟨cs, rfl, hsz, _⟩ := hv
  have hs : cs.size = 1440 := hsz.trans cells23
  obtain ⟨fuel, hf⟩ := h
  obtain ⟨xs, n, _, _, _, hlen, hx⟩ := DataW.trod_array Try.underlying23 hf
  have each : ∀ i, i < 1440 → ∃ b, cs[i]? = some (.float .f64 b) := by
    intro i hi
    have h1 := hx i hi
    rw [cells22, Nat.mul_one, List.getElem?_eq_getElem (by omega)] at h1
    obtain ⟨b, e⟩ := trod_float Try.underlying22 h1
    have e2 : cs.toList[i]? = some (.float .f64 b) := by
      have : ((cs.toList.drop i).take 1)[0]? = some (.float .f64 b) := by
        have e' : ((Value.agg cs).cells.toList.drop i).take 1 = [.float .f64 b] := e
        show (((Value.agg cs).cells.toList.drop i).take 1)[0]? = _
        rw [e']; rfl
      simpa using this
    exact ⟨b, by simpa using e2⟩
  refine ⟨cs, fun i => match cs[i]? with | some (.float .f64 b) => b | _ => 0, rfl, hs, fun i hi => ?_⟩
  obtain ⟨b, hb⟩ := each i hi
  simp only [hb]
end Go.Proofs.Qxb6604397a
