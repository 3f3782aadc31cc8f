/-
  Seat b6604397a. The script as it comes in: a slice of calls, opened.
-/
import Derived.Test.Qxb6604397aAgA
import Derived.Test.Qxb6604397aReD
import Derived.Deep.Slices
namespace Go.Proofs.Qxb6604397a
open Go.ChangeShapes Go.WideShapes Go.ChangeAt Go.RowKit

theorem cells34 : Try.prog.cellsOf 34 = 6 := by kernel_rfl
theorem cells2 : Try.prog.cellsOf 2 = 1 := by kernel_rfl
theorem cells3 : Try.prog.cellsOf 3 = 1 := by kernel_rfl

/-- The script's row as it came in. -/
def SRow (w : World) (a : Addr) (cs : List PC) : Prop := ∀ k, k < cs.length → w.cell? (a.add (k * 6)) = some (.int .i64 (cs.getD k pc0).r) ∧ w.cell? (a.add (k * 6 + 1)) = some (.int .i64 (cs.getD k pc0).e) ∧ w.cell? (a.add (k * 6 + 2)) = some (.int .i64 (cs.getD k pc0).l) ∧
    w.cell? (a.add (k * 6 + 3)) = some (.int .i64 (cs.getD k pc0).d) ∧ w.cell? (a.add (k * 6 + 4)) = some (.int .i64 (cs.getD k pc0).s) ∧ w.cell? (a.add (k * 6 + 5)) = some (.float .f64 (cs.getD k pc0).u)

instance : Inhabited PC := ⟨pc0⟩

section
variable {H : Type} {enc : TypeId × Value → H} {w : World} {base : Nat} {spare : Nat → Bool} {held : Bool}

theorem trod_int_cell {t : TypeId} {k : IntKind} {fuel : Nat} {cs : List Value} {x : DataW H × List MemPlace} (ht : Try.prog.underlying t = some (.int k)) (h : DataW.trod enc Try.prog w base spare held fuel t cs = some x) : ∃ b, cs = [.int k b] := by
  cases fuel with
  | zero => simp [DataW.trod] at h
  | succ n =>
    unfold DataW.trod at h
    rw [ht] at h
    split at h <;> simp_all

set_option maxRecDepth 100000 in
theorem trod_call {fuel : Nat} {cs : List Value} {x : DataW H × List MemPlace} (h : DataW.trod enc Try.prog w base spare held fuel 34 cs = some x) : ∃ c : PC, cs = pcL c := by
  obtain ⟨xs, n, _, _, hl, hxl, hx⟩ := DataW.trod_struct Try.underlying34 h
  rw [cells34] at hl
  have hxl' : xs.length = 6 := hxl
  have g : ∀ (i : Nat) (f : Field), (#[{ name := "Region", type := 3, offset := 0, embedded := false, tag := "", pkgPath := "", byteOffset := 0 }, { name := "Earliest", type := 2, offset := 1, embedded := false, tag := "", pkgPath := "", byteOffset := 8 }, { name := "Deadline", type := 2, offset := 2, embedded := false, tag := "", pkgPath := "", byteOffset := 16 },
        { name := "Duration", type := 2, offset := 3, embedded := false, tag := "", pkgPath := "", byteOffset := 24 }, { name := "Start", type := 2, offset := 4, embedded := false, tag := "", pkgPath := "", byteOffset := 32 }, { name := "Units", type := 22, offset := 5, embedded := false, tag := "", pkgPath := "", byteOffset := 40 }] : Array Field)[i]? = some f →
      ∃ y, DataW.trod enc Try.prog w base spare held n f.type ((cs.drop f.offset).take (Try.prog.cellsOf f.type)) = some y := by
    intro i f hf
    rw [hx i f hf]
    have hi : i < 6 := by
      have := (Array.getElem?_eq_some_iff.1 hf).1
      exact this
    exact ⟨xs[i]'(by omega), List.getElem?_eq_getElem _⟩
  obtain ⟨y0, h0⟩ : ∃ y, DataW.trod enc Try.prog w base spare held n 3 ((cs.drop 0).take (Try.prog.cellsOf 3)) = some y := g 0 _ rfl
  rw [cells3] at h0
  obtain ⟨y1, h1⟩ : ∃ y, DataW.trod enc Try.prog w base spare held n 2 ((cs.drop 1).take (Try.prog.cellsOf 2)) = some y := g 1 _ rfl
  rw [cells2] at h1
  obtain ⟨y2, h2⟩ : ∃ y, DataW.trod enc Try.prog w base spare held n 2 ((cs.drop 2).take (Try.prog.cellsOf 2)) = some y := g 2 _ rfl
  rw [cells2] at h2
  obtain ⟨y3, h3⟩ : ∃ y, DataW.trod enc Try.prog w base spare held n 2 ((cs.drop 3).take (Try.prog.cellsOf 2)) = some y := g 3 _ rfl
  rw [cells2] at h3
  obtain ⟨y4, h4⟩ : ∃ y, DataW.trod enc Try.prog w base spare held n 2 ((cs.drop 4).take (Try.prog.cellsOf 2)) = some y := g 4 _ rfl
  rw [cells2] at h4
  obtain ⟨y5, h5⟩ : ∃ y, DataW.trod enc Try.prog w base spare held n 22 ((cs.drop 5).take (Try.prog.cellsOf 22)) = some y := g 5 _ rfl
  rw [cells22] at h5
  obtain ⟨b0, e0⟩ := trod_int_cell Try.underlying3 h0
  obtain ⟨b1, e1⟩ := trod_int_cell Try.underlying2 h1
  obtain ⟨b2, e2⟩ := trod_int_cell Try.underlying2 h2
  obtain ⟨b3, e3⟩ := trod_int_cell Try.underlying2 h3
  obtain ⟨b4, e4⟩ := trod_int_cell Try.underlying2 h4
  obtain ⟨b5, e5⟩ := trod_float Try.underlying22 h5
  match cs, hl with
  | [c0, c1, c2, c3, c4, c5], _ =>
    simp at e0 e1 e2 e3 e4 e5
    subst e0 e1 e2 e3 e4 e5
    exact ⟨⟨b0, b1, b2, b3, b4, b5⟩, rfl⟩

set_option maxRecDepth 100000 in
theorem open_calls {r : Reach} {b0 : Nat} {v : Value} {d : DataW H} {p : List MemPlace} (hv : Value.okWide Try.prog w r b0 31 v) (h : DataW.Trod enc Try.prog w base spare held 31 v d p) :
    ∃ (cs : List PC) (pa : Option Addr) (cap : Nat), v = .slice pa cs.length cap ∧ cs.length ≤ maxLen ∧ ((pa = none ∧ cs = []) ∨ ∃ a, pa = some a ∧ SRow w a cs) := by
  have hcell : v.cells.toList = [v] := by
    simp only [Value.okWide, Try.underlying31, Cell.okWide] at hv
    cases v <;> simp_all [Cell.ok, Value.cells]
  obtain ⟨fuel, hf⟩ := h
  rw [hcell] at hf
  rcases Deep.open_slice Try.underlying31 hf with ⟨h0, _⟩ | ⟨a, len, cap, m, n, D, Pl, h0, hb, hl, hm, hmm, _, hx⟩
  · injection h0 with h0
    exact ⟨[], none, 0, h0, Nat.zero_le _, .inl ⟨rfl, rfl⟩⟩
  · injection h0 with h0
    have hlm : len ≤ m := by rw [hmm]; split <;> omega
    rw [cells34] at hx
    have each : ∀ i, i < len → ∃ c : PC, ∀ j, j < 6 → w.cell? (a.add (i * 6 + j)) = (pcL c)[j]? := by
      intro i hi
      obtain ⟨cs', h1, h2⟩ := hx i (by omega)
      obtain ⟨c, rfl⟩ := trod_call h2
      obtain ⟨_, _, h3⟩ := World.cells?_some h1
      refine ⟨c, fun j hj => ?_⟩
      rw [← h3 j hj]
      congr 1
      exact (Deep.add_add a (i * 6) j).symm
    obtain ⟨F, hF⟩ := Deep.choose_lt (α := PC) each
    refine ⟨(List.range len).map F, some a, cap, by rw [h0]; simp, by simp; omega, .inr ⟨a, rfl, fun k hk => ?_⟩⟩
    have hk' : k < len := by simpa using hk
    have e : ((List.range len).map F).getD k pc0 = F k := by simp [hk']
    rw [e]
    have q := hF k hk'
    exact ⟨q 0 (by omega), q 1 (by omega), q 2 (by omega), q 3 (by omega), q 4 (by omega), q 5 (by omega)⟩
end
end Go.Proofs.Qxb6604397a
