/-
  Seat b6603649a. (Config).leftOut (23), ZZleftOut (11).
-/
import Derived.Test.Qxb6603649aLoB
import Derived.Test.Qxb6603649aLoC
namespace Go.Proofs.Qxb6603649a
open Go.RowKit Go.WideMaps Go.Maps

/-- The bytes of the j-th string. -/
def bytesAt (ss : List ByteArray) (j : Nat) : List UInt8 := (ss.getD j ByteArray.empty).data.toList

theorem run_makeMap_hint {P : Program} {t k e : TypeId} (ht : P.underlying t = some (.map k e)) (q : IntKind) (n : Int) (w : World) : (Instr.makeMap t (some (.int q n))).run P w = .ok (.map (some w.heap.size)) (w.alloc (.map #[] 0)) := by
  simp [Instr.makeMap, Sem.run_bind, run_underlying ht, asInt, newObj]
  rfl

theorem law9 : Keyed Try.prog 9 := string_keyed Try.underlying9

theorem conf_dd {cs : Array Value} {dd : Bool} (hc : ConfCells cs dd) : cs[11]'(by rw [hc.size]; decide) = .bool dd := by
  have := hc.dd
  rw [Array.getElem?_eq_getElem (by rw [hc.size]; decide)] at this
  exact Option.some.inj this

/-- No map: the config does not dedupe by node, or no node is named. -/
def NoMap (e : Ending) : Prop := e = .returned (.map none)

/-- A map that reads as the set of the names. -/
def TheMap (len : Nat) (ss : List ByteArray) (w : World) (e : Ending) (w' : World) : Prop :=
  ∃ B D, e = .returned (.map (some B)) ∧ w.heap.size ≤ B ∧ w'.ownsMap Try.prog 9 (plainElem Try.prog 4) B len D ∧ SetIs D (bytesAt ss) len

set_option maxRecDepth 100000 in
theorem leftOut_off (cs : Array Value) (hc : ConfCells cs false) (v : Value) (w : World) :
    Calls Try.prog 23 #[.agg cs, v] w fun e w' => NoMap e ∧ Below w.heap.size w w' := by
  have hs := hc.size
  have hd := conf_dd hc
  go_enter Try.func23, Try.ntmps23
  go_wp2
  go_ret
  exact ⟨rfl, (Below.refl _ _).alloc (Nat.le_refl _) _⟩

set_option maxRecDepth 100000 in
theorem leftOut_none (cs : Array Value) (hc : ConfCells cs true) (a : Option Addr) (cap : Nat) (w : World) :
    Calls Try.prog 23 #[.agg cs, .slice a 0 cap] w fun e w' => NoMap e ∧ Below w.heap.size w w' := by
  have hs := hc.size
  have hd := conf_dd hc
  go_enter Try.func23, Try.ntmps23
  go_wp2
  go_ret
  exact ⟨rfl, (Below.refl _ _).alloc (Nat.le_refl _) _⟩

set_option maxRecDepth 100000 in
theorem leftOut_yes (cs : Array Value) (hc : ConfCells cs true) (a : Option Addr) (len cap : Nat) (ss : List ByteArray) (w : World) (h0 : 0 < len) (hl : len ≤ 4096) (hr : RowS w a len ss) :
    Calls Try.prog 23 #[.agg cs, .slice a len cap] w fun e w' => TheMap len ss w e w' ∧ Below w.heap.size w w' := by
  obtain ⟨b, off, rfl, hb, hc'⟩ := hr h0
  have HC := hid hc'
  clear hc' hr
  have hs := hc.size
  have hd := conf_dd hc
  have g0 : ((len : Int) == 0) = false := by simp; omega
  have hmm := fun q n wx => run_makeMap_hint (P := Try.prog) Try.underlying30 q n wx
  go_enter Try.func23, Try.ntmps23
  go_wp2
  go_loopw [21] (fun i wr => ∃ k : Nat, k ≤ len ∧ i = .int .i64 k ∧ (∃ D, wr.ownsMap Try.prog 9 (plainElem Try.prog 4) (w.heap.size + 1) k D ∧ SetIs D (bytesAt ss) k) ∧ Below w.heap.size w wr) (fun i _ => len - (intOf i).toNat)
  case atStart =>
    refine ⟨0, Nat.zero_le _, rfl, ⟨.map [], ?_, set_start _⟩, ((Below.refl _ _).alloc (Nat.le_refl _) _).alloc (by simp) _⟩
    have := World.ownsMap_made (H := Unit) (w.alloc (.cells cs 40)) Try.prog 9 (plainElem Try.prog 4)
    simpa using this
  case round =>
    obtain ⟨k, hk, rfl, ⟨D, hown, hset⟩, hbel⟩ := hrel
    by_cases hlt : k < len
    · obtain ⟨sk, hsk⟩ : ∃ z, z = ss.getD k ByteArray.empty := ⟨_, rfl⟩
      have hck : wr.cell? ⟨b, off + k, none⟩ = some (.string sk) := by rw [hbel.cell (by exact hb), (HC.out k hlt).1, hsk]
      have hsz : sk.size ≤ maxLen := by rw [hsk]; exact (HC.out k hlt).2
      have hkey := keyOf_string_mk Try.underlying9 hsz
      have HB := hid (show bytesAt ss k = sk.data.toList by rw [hsk]; rfl)
      clear hsk
      by_cases he : sk.data.toList = []
      · have he' : sk.toList.isEmpty = true := by rw [ByteArray.toList_eq, he]; rfl
        have HE := hid he
        clear he
        go_wp2
        go_roundw
        case rel => exact ⟨k + 1, by omega, by go_num, ⟨D, hown.mono (by omega), set_skip hset (HB.out.trans HE.out)⟩, hbel⟩
        case measure => simp [intOf]; omega
      · have he' : sk.toList.isEmpty = false := by rw [ByteArray.toList_eq]; cases hl : sk.data.toList with | nil => exact absurd hl he | cons _ _ => rfl
        have HE := hid he
        clear he
        go_wp2_with (first
          | (at_mapUpdate; refine wpList_mapUpdate_own _ rfl _ _ _ 30 rfl 9 4 law9 Try.underlying30 _ (w.heap.size + 1) k _ rfl hown (by unfold maxLen; omega) _ _ _ rfl rfl hkey _ [] (plainElem_bool Try.underlying4 true) ?_; intro w1 hown1 hgrow1))
        go_roundw
        case rel => exact ⟨k + 1, by omega, by go_num, ⟨_, hown1, by have := set_put hset (by rw [HB.out]; exact HE.out); rw [HB.out] at this; exact this⟩, hbel.grown hgrow1 hbel.size (fun j hj => by cases hj; omega)⟩
        case measure => simp [intOf]; omega
    · have : k = len := by omega
      subst this
      go_wp2
      go_ret
      exact ⟨⟨_, D, rfl, by omega, hown, hset⟩, hbel⟩

set_option maxRecDepth 100000 in
theorem zleftOut_off (cs : Array Value) (hc : ConfCells cs false) (a : Option Addr) (len cap : Nat) (w : World) :
    Calls Try.prog 11 #[.agg cs, .slice a len cap] w fun e w' => NoMap e ∧ Below w.heap.size w w' := by
  have hs := hc.size
  have hsz := hid (size40.trans (by rw [hc.size]) : (Try.prog.info? 40).map (·.size) = some cs.size)
  go_enter Try.func11, Try.ntmps11
  go_wp2_with (first
    | (with_reducible show wpList _ _ _ (Oper.mk _ (Op.load 40 _) _ _ _ _ :: _) _ _; refine wpList_load_row rfl 40 _ rfl w.heap.size rfl 40 cs (0, 0) _ (heap_alloc_new _ _) Try.underlying40 rfl hsz.out ?_)
    | (go_at_call 23; refine (leftOut_off cs hc _ _).mono ?_; rintro e w1 ⟨hn, hb1⟩; unfold NoMap at hn; subst hn))
  go_ret
  exact ⟨rfl, ((Below.refl _ _).alloc (Nat.le_refl _) _).trans (hb1.mono (by simp))⟩

set_option maxRecDepth 100000 in
theorem zleftOut_none (cs : Array Value) (hc : ConfCells cs true) (a : Option Addr) (cap : Nat) (w : World) :
    Calls Try.prog 11 #[.agg cs, .slice a 0 cap] w fun e w' => NoMap e ∧ Below w.heap.size w w' := by
  have hs := hc.size
  have hsz := hid (size40.trans (by rw [hc.size]) : (Try.prog.info? 40).map (·.size) = some cs.size)
  go_enter Try.func11, Try.ntmps11
  go_wp2_with (first
    | (with_reducible show wpList _ _ _ (Oper.mk _ (Op.load 40 _) _ _ _ _ :: _) _ _; refine wpList_load_row rfl 40 _ rfl w.heap.size rfl 40 cs (0, 0) _ (heap_alloc_new _ _) Try.underlying40 rfl hsz.out ?_)
    | (go_at_call 23; refine (leftOut_none cs hc _ _ _).mono ?_; rintro e w1 ⟨hn, hb1⟩; unfold NoMap at hn; subst hn))
  go_ret
  exact ⟨rfl, ((Below.refl _ _).alloc (Nat.le_refl _) _).trans (hb1.mono (by simp))⟩

set_option maxRecDepth 100000 in
theorem zleftOut_yes (cs : Array Value) (hc : ConfCells cs true) (a : Option Addr) (len cap : Nat) (ss : List ByteArray) (w : World) (h0 : 0 < len) (hl : len ≤ 4096) (hr : RowS w a len ss) :
    Calls Try.prog 11 #[.agg cs, .slice a len cap] w fun e w' => TheMap len ss w e w' ∧ Below w.heap.size w w' := by
  have hs := hc.size
  have hsz := hid (size40.trans (by rw [hc.size]) : (Try.prog.info? 40).map (·.size) = some cs.size)
  have hr1 : RowS (w.alloc (.cells cs 40)) a len ss := hr.below ((Below.refl _ _).alloc (Nat.le_refl _) _)
  go_enter Try.func11, Try.ntmps11
  go_wp2_with (first
    | (with_reducible show wpList _ _ _ (Oper.mk _ (Op.load 40 _) _ _ _ _ :: _) _ _; refine wpList_load_row rfl 40 _ rfl w.heap.size rfl 40 cs (0, 0) _ (heap_alloc_new _ _) Try.underlying40 rfl hsz.out ?_)
    | (go_at_call 23; refine (leftOut_yes cs hc _ _ _ ss _ h0 hl hr1).mono ?_; rintro e w1 ⟨⟨B, D, rfl, hB, hown, hset⟩, hb1⟩))
  go_ret
  exact ⟨⟨B, D, rfl, by simp at hB; omega, hown, hset⟩, ((Below.refl _ _).alloc (Nat.le_refl _) _).trans (hb1.mono (by simp))⟩

/-! ### the look-ups -/
theorem zero4 (w : World) : (zeroValue 4).run Try.prog w = .ok (.bool false) w := by kernel_rfl

set_option maxRecDepth 100000 in
theorem plainElem_bool_inv {v : Value} {z : DataW Unit × List MemPlace} (h : plainElem Try.prog 4 v = some z) : ∃ x, v = .bool x ∧ z = (.lit (.bool x), []) := by
  unfold plainElem at h
  rw [Try.underlying4] at h
  cases v <;> simp at h
  exact ⟨_, rfl, h.symm⟩

theorem look_in {w : World} {B n len : Nat} {D : DataW Unit} {L : Nat → List UInt8} (h : w.ownsMap Try.prog 9 (plainElem Try.prog 4) B n D) (hs : SetIs D L len) {s : ByteArray} (hz : s.size ≤ maxLen)
    (hh : Maps.has D (.string s.data.toList) = true) : (Instr.lookup 30 (.map (some B)) (.string s) true).run Try.prog w = .ok (.tuple #[.bool true, .bool true]) w := by
  obtain ⟨v, ps, hrun, hv⟩ := h.look_ok law9 Try.underlying30 (zero4 w) (plainElem_bool Try.underlying4 false) (keyOf_string_mk Try.underlying9 hz)
  obtain ⟨x, rfl, e⟩ := plainElem_bool_inv hv
  rw [hs.val _ _ hh] at e
  simp only [Prod.mk.injEq, DataW.lit.injEq, Lit.bool.injEq] at e
  rw [hh, ← e.1] at hrun
  exact hrun

theorem look_out {w : World} {B n len : Nat} {D : DataW Unit} {L : Nat → List UInt8} (h : w.ownsMap Try.prog 9 (plainElem Try.prog 4) B n D) (_hs : SetIs D L len) {s : ByteArray} (hz : s.size ≤ maxLen)
    (hh : Maps.has D (.string s.data.toList) = false) : (Instr.lookup 30 (.map (some B)) (.string s) true).run Try.prog w = .ok (.tuple #[.bool false, .bool false]) w := by
  obtain ⟨v, ps, hrun, hv⟩ := h.look_ok law9 Try.underlying30 (zero4 w) (plainElem_bool Try.underlying4 false) (keyOf_string_mk Try.underlying9 hz)
  obtain ⟨x, rfl, e⟩ := plainElem_bool_inv hv
  rw [atKey_of_not_has hh] at e
  simp only [Prod.mk.injEq, DataW.lit.injEq, Lit.bool.injEq] at e
  rw [hh, ← e.1] at hrun
  exact hrun

theorem look_no {w : World} {s : ByteArray} (hz : s.size ≤ maxLen) : (Instr.lookup 30 (.map none) (.string s) true).run Try.prog w = .ok (.tuple #[.bool false, .bool false]) w := by
  have := Maps.look_nil true law9 Try.underlying30 (zero4 w) (keyOf_string_mk Try.underlying9 hz)
  simpa using this
end Go.Proofs.Qxb6603649a
