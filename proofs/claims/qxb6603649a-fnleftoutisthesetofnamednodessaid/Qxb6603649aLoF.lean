/-
  Seat b6603649a. A ConfigFields that came in by value, opened; a slice of strings that came in.
-/
import Derived.Test.Qxb6603649aLoA
import Derived.OpenShut
import Derived.SliceStrings
namespace Go.Proofs.Qxb6603649a
open Go.ChangeShapes Go.WideShapes Go.ChangeAt Go.RowKit

theorem cells24' : Try.prog.cellsOf 24 = 18 := by kernel_rfl
theorem cells9 : Try.prog.cellsOf 9 = 1 := by kernel_rfl
theorem cells22 : Try.prog.cellsOf 22 = 1 := by kernel_rfl
theorem cells2 : Try.prog.cellsOf 2 = 1 := by kernel_rfl
theorem cells4 : Try.prog.cellsOf 4 = 1 := by kernel_rfl

theorem arr18 {cs : Array Value} (h : cs.size = 18) : ∃ c0 c1 c2 c3 c4 c5 c6 c7 c8 c9 c10 c11 c12 c13 c14 c15 c16 c17, cs = #[c0, c1, c2, c3, c4, c5, c6, c7, c8, c9, c10, c11, c12, c13, c14, c15, c16, c17] := by
  obtain ⟨l⟩ := cs
  match l, h with
  | [c0, c1, c2, c3, c4, c5, c6, c7, c8, c9, c10, c11, c12, c13, c14, c15, c16, c17], _ => exact ⟨c0, c1, c2, c3, c4, c5, c6, c7, c8, c9, c10, c11, c12, c13, c14, c15, c16, c17, rfl⟩

set_option maxRecDepth 100000 in
theorem open_cfg {H : Type} {enc : TypeId × Value → H} {W : World} {r : Reach} {b0 base : Nat} {spare : Nat → Bool} {held : Bool} {v : Value} {d : DataW H} {p : List MemPlace}
    (hv : Value.okWide Try.prog W r b0 24 v) (h : DataW.Trod enc Try.prog W base spare held 24 v d p) : ∃ c : Cfg, v = .agg c.cells ∧ c.Ok := by
  obtain ⟨cs, rfl, hsz⟩ := okWide_struct Try.underlying24 hv
  obtain ⟨c0, c1, c2, c3, c4, c5, c6, c7, c8, c9, c10, c11, c12, c13, c14, c15, c16, c17, rfl⟩ := arr18 (hsz.trans cells24')
  obtain ⟨fuel, hf0⟩ := h
  obtain ⟨xs, n, _, _, _, hlen, hf⟩ := DataW.trod_struct Try.underlying24 hf0
  clear hf0 hv hsz
  have hx : ∀ i, i < 18 → ∃ y, xs[i]? = some y := fun i hi => ⟨_, List.getElem?_eq_getElem (by rw [hlen]; exact hi)⟩
  obtain ⟨y0, hy0⟩ := hx 0 (by omega)
  have h0 : DataW.trod enc Try.prog W base spare held n 9 [c0] = some y0 := by have := hf 0 _ rfl; rw [hy0] at this; simpa [Value.cells, cells9] using this
  obtain ⟨s0, e0, _, z0⟩ := DataW.trod_string Try.underlying9 h0
  clear h0 hy0
  simp only [List.cons.injEq, and_true] at e0
  subst e0
  obtain ⟨y1, hy1⟩ := hx 1 (by omega)
  have h1 : DataW.trod enc Try.prog W base spare held n 9 [c1] = some y1 := by have := hf 1 _ rfl; rw [hy1] at this; simpa [Value.cells, cells9] using this
  obtain ⟨s1, e1, _, z1⟩ := DataW.trod_string Try.underlying9 h1
  clear h1 hy1
  simp only [List.cons.injEq, and_true] at e1
  subst e1
  obtain ⟨y2, hy2⟩ := hx 2 (by omega)
  have h2 : DataW.trod enc Try.prog W base spare held n 22 [c2] = some y2 := by have := hf 2 _ rfl; rw [hy2] at this; simpa [Value.cells, cells22] using this
  obtain ⟨s2, e2, _, _⟩ := DataW.trod_int Try.underlying22 h2
  clear h2 hy2
  simp only [List.cons.injEq, and_true] at e2
  subst e2
  obtain ⟨y3, hy3⟩ := hx 3 (by omega)
  have h3 : DataW.trod enc Try.prog W base spare held n 22 [c3] = some y3 := by have := hf 3 _ rfl; rw [hy3] at this; simpa [Value.cells, cells22] using this
  obtain ⟨s3, e3, _, _⟩ := DataW.trod_int Try.underlying22 h3
  clear h3 hy3
  simp only [List.cons.injEq, and_true] at e3
  subst e3
  obtain ⟨y4, hy4⟩ := hx 4 (by omega)
  have h4 : DataW.trod enc Try.prog W base spare held n 9 [c4] = some y4 := by have := hf 4 _ rfl; rw [hy4] at this; simpa [Value.cells, cells9] using this
  obtain ⟨s4, e4, _, z4⟩ := DataW.trod_string Try.underlying9 h4
  clear h4 hy4
  simp only [List.cons.injEq, and_true] at e4
  subst e4
  obtain ⟨y5, hy5⟩ := hx 5 (by omega)
  have h5 : DataW.trod enc Try.prog W base spare held n 22 [c5] = some y5 := by have := hf 5 _ rfl; rw [hy5] at this; simpa [Value.cells, cells22] using this
  obtain ⟨s5, e5, _, _⟩ := DataW.trod_int Try.underlying22 h5
  clear h5 hy5
  simp only [List.cons.injEq, and_true] at e5
  subst e5
  obtain ⟨y6, hy6⟩ := hx 6 (by omega)
  have h6 : DataW.trod enc Try.prog W base spare held n 2 [c6] = some y6 := by have := hf 6 _ rfl; rw [hy6] at this; simpa [Value.cells, cells2] using this
  obtain ⟨s6, e6, _, _⟩ := DataW.trod_int Try.underlying2 h6
  clear h6 hy6
  simp only [List.cons.injEq, and_true] at e6
  subst e6
  obtain ⟨y7, hy7⟩ := hx 7 (by omega)
  have h7 : DataW.trod enc Try.prog W base spare held n 4 [c7] = some y7 := by have := hf 7 _ rfl; rw [hy7] at this; simpa [Value.cells, cells4] using this
  obtain ⟨s7, e7, _⟩ := DataW.trod_bool Try.underlying4 h7
  clear h7 hy7
  simp only [List.cons.injEq, and_true] at e7
  subst e7
  obtain ⟨y8, hy8⟩ := hx 8 (by omega)
  have h8 : DataW.trod enc Try.prog W base spare held n 4 [c8] = some y8 := by have := hf 8 _ rfl; rw [hy8] at this; simpa [Value.cells, cells4] using this
  obtain ⟨s8, e8, _⟩ := DataW.trod_bool Try.underlying4 h8
  clear h8 hy8
  simp only [List.cons.injEq, and_true] at e8
  subst e8
  obtain ⟨y9, hy9⟩ := hx 9 (by omega)
  have h9 : DataW.trod enc Try.prog W base spare held n 4 [c9] = some y9 := by have := hf 9 _ rfl; rw [hy9] at this; simpa [Value.cells, cells4] using this
  obtain ⟨s9, e9, _⟩ := DataW.trod_bool Try.underlying4 h9
  clear h9 hy9
  simp only [List.cons.injEq, and_true] at e9
  subst e9
  obtain ⟨y10, hy10⟩ := hx 10 (by omega)
  have h10 : DataW.trod enc Try.prog W base spare held n 22 [c10] = some y10 := by have := hf 10 _ rfl; rw [hy10] at this; simpa [Value.cells, cells22] using this
  obtain ⟨s10, e10, _, _⟩ := DataW.trod_int Try.underlying22 h10
  clear h10 hy10
  simp only [List.cons.injEq, and_true] at e10
  subst e10
  obtain ⟨y11, hy11⟩ := hx 11 (by omega)
  have h11 : DataW.trod enc Try.prog W base spare held n 4 [c11] = some y11 := by have := hf 11 _ rfl; rw [hy11] at this; simpa [Value.cells, cells4] using this
  obtain ⟨s11, e11, _⟩ := DataW.trod_bool Try.underlying4 h11
  clear h11 hy11
  simp only [List.cons.injEq, and_true] at e11
  subst e11
  obtain ⟨y12, hy12⟩ := hx 12 (by omega)
  have h12 : DataW.trod enc Try.prog W base spare held n 22 [c12] = some y12 := by have := hf 12 _ rfl; rw [hy12] at this; simpa [Value.cells, cells22] using this
  obtain ⟨s12, e12, _, _⟩ := DataW.trod_int Try.underlying22 h12
  clear h12 hy12
  simp only [List.cons.injEq, and_true] at e12
  subst e12
  obtain ⟨y13, hy13⟩ := hx 13 (by omega)
  have h13 : DataW.trod enc Try.prog W base spare held n 22 [c13] = some y13 := by have := hf 13 _ rfl; rw [hy13] at this; simpa [Value.cells, cells22] using this
  obtain ⟨s13, e13, _, _⟩ := DataW.trod_int Try.underlying22 h13
  clear h13 hy13
  simp only [List.cons.injEq, and_true] at e13
  subst e13
  obtain ⟨y14, hy14⟩ := hx 14 (by omega)
  have h14 : DataW.trod enc Try.prog W base spare held n 22 [c14] = some y14 := by have := hf 14 _ rfl; rw [hy14] at this; simpa [Value.cells, cells22] using this
  obtain ⟨s14, e14, _, _⟩ := DataW.trod_int Try.underlying22 h14
  clear h14 hy14
  simp only [List.cons.injEq, and_true] at e14
  subst e14
  obtain ⟨y15, hy15⟩ := hx 15 (by omega)
  have h15 : DataW.trod enc Try.prog W base spare held n 9 [c15] = some y15 := by have := hf 15 _ rfl; rw [hy15] at this; simpa [Value.cells, cells9] using this
  obtain ⟨s15, e15, _, z15⟩ := DataW.trod_string Try.underlying9 h15
  clear h15 hy15
  simp only [List.cons.injEq, and_true] at e15
  subst e15
  obtain ⟨y16, hy16⟩ := hx 16 (by omega)
  have h16 : DataW.trod enc Try.prog W base spare held n 4 [c16] = some y16 := by have := hf 16 _ rfl; rw [hy16] at this; simpa [Value.cells, cells4] using this
  obtain ⟨s16, e16, _⟩ := DataW.trod_bool Try.underlying4 h16
  clear h16 hy16
  simp only [List.cons.injEq, and_true] at e16
  subst e16
  obtain ⟨y17, hy17⟩ := hx 17 (by omega)
  have h17 : DataW.trod enc Try.prog W base spare held n 4 [c17] = some y17 := by have := hf 17 _ rfl; rw [hy17] at this; simpa [Value.cells, cells4] using this
  obtain ⟨s17, e17, _⟩ := DataW.trod_bool Try.underlying4 h17
  clear h17 hy17
  simp only [List.cons.injEq, and_true] at e17
  subst e17
  exact ⟨⟨s0, s1, s2, s3, s4, s5, s6, s7, s8, s9, s10, s11, s12, s13, s14, s15, s16, s17⟩, rfl, ⟨z0, z1, z4, z15⟩⟩

theorem rowS_of {H : Type} {enc : TypeId × Value → H} {W : World} {base : Nat} {spare : Nat → Bool} {held : Bool} {a : Option Addr} {len cap fuel : Nat} {y : DataW H × List MemPlace}
    (h : DataW.trod enc Try.prog W base spare held fuel 25 [.slice a len cap] = some y) :
    ∃ ss, RowS W a len ss ∧ (a = none → len = 0) ∧ len ≤ 9223372036854775807 := by
  rcases open_strings Try.underlying25 Try.underlying9 cells9 h with ⟨hcs, _⟩ | ⟨x, l, c, ss, hcs, _, hl, hm, hz, _, hcell, hws⟩
  · simp only [List.cons.injEq, Value.slice.injEq, and_true] at hcs
    obtain ⟨rfl, rfl, rfl⟩ := hcs
    exact ⟨[], fun h => by omega, fun _ => rfl, by omega⟩
  · simp only [List.cons.injEq, Value.slice.injEq, and_true] at hcs
    obtain ⟨rfl, rfl, rfl⟩ := hcs
    have hle : len ≤ ss.length := by rw [hz]; split <;> omega
    refine ⟨ss, fun hp => ?_, (fun h => by cases h), by unfold maxLen at hm; omega⟩
    obtain ⟨b, off, spot⟩ := x
    have hspot : spot = none := by simpa [Addr.add] using World.cell?_spot (hcell 0 (by omega))
    subst hspot
    have hc : ∀ j, j < ss.length → W.cell? ⟨b, off + j, none⟩ = some (.string (ss.getD j ByteArray.empty)) := fun j hj => by rw [← Go.WideShapes.add_plain]; exact hcell j hj
    refine ⟨b, off, rfl, World.block_lt_of_cell? W ⟨b, off + 0, none⟩ (hc 0 (by omega)), fun j hj => ⟨hc j (by omega), ?_⟩⟩
    have hj' : j < ss.length := by omega
    have := hws ss[j] (List.getElem_mem hj')
    unfold maxLen at this
    simpa [hj'] using this
end Go.Proofs.Qxb6603649a
