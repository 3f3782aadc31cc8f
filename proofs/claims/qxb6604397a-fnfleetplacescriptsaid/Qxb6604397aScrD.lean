/-
  Seat b6604397a. FnFleetPlaceScript (5): the checks, and all that follows.
-/
import Derived.Test.Qxb6604397aScrC
namespace Go.Proofs.Qxb6604397a
open Go.RowKit

def Checking (w : World) (n : Nat) (cs : List PC) (x3 : Value) (wr : World) : Prop := ∃ k : Nat, x3 = .int .i64 k ∧ k ≤ n ∧ (∀ j, j < k → InB (cs.getD j pc0) ∧ 0 ≤ (cs.getD j pc0).r ∧ (cs.getD j pc0).r < 3) ∧ Below w.heap.size w wr

/-- All calls pass the checks. -/
def Checked5 (w : World) (cs : List PC) (wr : World) : Prop := (∀ c ∈ cs, InB c ∧ 0 ≤ c.r ∧ c.r < 3) ∧ Below w.heap.size w wr

theorem SRow.below {w w' : World} {a : Addr} {cs : List PC} (h : SRow w a cs) (hb : Below w.heap.size w w') : SRow w' a cs := by
  intro k hk
  have hlt : a.block < w.heap.size := by
    have h1 := (h k hk).1
    have h2 : (a.add (k * 6)).block = a.block := by unfold Addr.add; split <;> rfl
    rw [← h2]
    unfold World.cell? at h1
    rcases Nat.lt_or_ge (a.add (k * 6)).block w.heap.size with h | h
    · exact h
    · rw [Array.getElem?_eq_none h] at h1; simp at h1
  have q : ∀ j, w'.cell? (a.add j) = w.cell? (a.add j) := fun j => hb.cell (by
    have h2 : (a.add j).block = a.block := by unfold Addr.add; split <;> rfl
    rw [h2]; exact hlt)
  obtain ⟨h0, h1, h2, h3, h4, h5⟩ := h k hk
  exact ⟨(q _).trans h0, (q _).trans h1, (q _).trans h2, (q _).trans h3, (q _).trans h4, (q _).trans h5⟩

theorem SRow.at6 {w : World} {a : Addr} {cs : List PC} (h : SRow w a cs) {k : Nat} (hk : k < cs.length) : w.cell? (a.add (k * 6)) = some (.int .i64 (cs.getD k pc0).r) ∧ w.cell? ⟨(a.add (k * 6)).block, (a.add (k * 6)).off + 1, none⟩ = some (.int .i64 (cs.getD k pc0).e) ∧ w.cell? ⟨(a.add (k * 6)).block, (a.add (k * 6)).off + 2, none⟩ = some (.int .i64 (cs.getD k pc0).l) ∧
    w.cell? ⟨(a.add (k * 6)).block, (a.add (k * 6)).off + 3, none⟩ = some (.int .i64 (cs.getD k pc0).d) ∧ w.cell? ⟨(a.add (k * 6)).block, (a.add (k * 6)).off + 4, none⟩ = some (.int .i64 (cs.getD k pc0).s) ∧ w.cell? ⟨(a.add (k * 6)).block, (a.add (k * 6)).off + 5, none⟩ = some (.float .f64 (cs.getD k pc0).u) := by
  have e : ∀ j, 0 < j → (⟨(a.add (k * 6)).block, (a.add (k * 6)).off + j, none⟩ : Addr) = a.add (k * 6 + j) := fun j hj => by
    rw [← Deep.add_add]; unfold Addr.add; rw [if_neg (show ¬ j = 0 by omega)]
  rw [e 1 (by omega), e 2 (by omega), e 3 (by omega), e 4 (by omega), e 5 (by omega)]
  exact h k hk

set_option maxRecDepth 1000000 in
set_option maxHeartbeats 0 in
theorem walk5 (cs : List PC) (pa : Option Addr) (cap : Nat) (w : World) (hm : cs.length ≤ maxLen) (hpa : (pa = none ∧ cs = []) ∨ ∃ a, pa = some a ∧ SRow w a cs) :
    Calls Try.prog 5 #[.slice pa cs.length cap] w fun q w' => q = .returned (.bool true) ∧ Below w.heap.size w w' := by
  obtain ⟨n, hn⟩ : ∃ n, n = cs.length := ⟨_, rfl⟩
  rw [← hn] at hm ⊢
  have hm' : n ≤ 9223372036854775807 := by unfold maxLen at hm; omega
  have H10 := hid (fun W => bytes10 pa n cap W hm')
  have HN := hid hn
  have HPa := hid hpa
  clear hm hn hpa
  by_cases hb : n ≤ 1048576
  · rw [decide_eq_true hb] at H10
    by_cases h24 : n ≤ 1024
    · have hI : ¬ (n : Int) > 1024 := by omega
      go_enter Try.func5, Try.ntmps5
      go_upto_block 0 with (first
        | (go_at_call 10; refine (H10.out _).mono ?_; rintro q w1 ⟨rfl, hw⟩; subst w1))
      go_cut [] (fun W => Checked5 w cs W)
      case rest =>
        rename_i K hK
        exact hK _ _ (restC n cap pa cs w _ (hid (by
          obtain ⟨h1, h2⟩ := hcut
          refine ⟨?_, by have := HN.out; omega, h1, HN.out, h2⟩
          rcases HPa.out with h | ⟨a, e, h⟩
          · exact .inl h
          · exact .inr ⟨a, e, h.below h2⟩)) _ _ _ _ _ _ _ _ _ _ _ _ _ _ _ _ _ _ _ _ _ _ _ _ _ _ _ _ _ _ _ _ _ _ _ _ _ _ _ _ _ _ _ _ _ _ _ _ _ _ _ _ _ _ _ _ _ _ _ _ _ _ _ _ _ _ _ _ _ _ _ _ _ _ _ _ _ _ _ _ _ _ _ _ _ _ _ _ _ _ _ _ _ _ _ _ _ _ _ _ _ _ _ _ _ _ _ _ _ _ _ _ _ _ _ _ _ _ _ _ _ _ _ _ _ _ _ _ _ _ _ _ _ _ _ _ _ _ _ _ _ _ _ _ _ _ _ )
      case first =>
        go_wp2
        go_loopw [3] (fun x3 wr => Checking w n cs x3 wr) (fun x3 _ => n - (intOf x3).toNat)
        case atStart => exact ⟨0, rfl, Nat.zero_le _, fun j hj => absurd hj (Nat.not_lt_zero _), Below.refl _ _⟩
        case round =>
          obtain ⟨k, rfl, hkn, hgd, hbr⟩ := hrel
          by_cases hk : k < n
          · have hn := HN.out
            obtain ⟨a, rfl, hrow⟩ : ∃ a, pa = some a ∧ SRow w a cs := by
              rcases HPa.out with ⟨_, h⟩ | h
              · rw [h] at hn; simp at hn; omega
              · exact h
            obtain ⟨g0, g1, g2, g3, g4, g5⟩ := (hrow.below hbr).at6 (show k < cs.length by omega)
            obtain ⟨c, hc⟩ : ∃ c, c = cs.getD k pc0 := ⟨_, rfl⟩
            rw [← hc] at g0 g1 g2 g3 g4 g5
            have hkI : (k : Int) < n := by omega
            have hwk : IntKind.i64.wrap ((k : Int) + 1) = k + 1 := wrap_i64 (by omega) (by omega)
            have hsf := store5 (P := Try.prog) wr (.int .i64 c.r) (.int .i64 c.e) (.int .i64 c.l) (.int .i64 c.d) (.int .i64 c.s) c.u
            have HB := hid (hbr.alloc hbr.size (.cells #[.int .i64 c.r, .int .i64 c.e, .int .i64 c.l, .int .i64 c.d, .int .i64 c.s, .float .f64 c.u] 34))
            have HGd := hid (show (InB c ∧ 0 ≤ c.r ∧ c.r < 3) → ∀ j, j < k + 1 → InB (cs.getD j pc0) ∧ 0 ≤ (cs.getD j pc0).r ∧ (cs.getD j pc0).r < 3 from fun h j hj => by
              by_cases e : j = k
              · subst e; rw [← hc]; exact h
              · exact hgd j (by omega))
            obtain ⟨be, hbe⟩ : ∃ b, b = decide (In61 c.e) := ⟨_, rfl⟩
            obtain ⟨bl, hbl⟩ : ∃ b, b = decide (In61 c.l) := ⟨_, rfl⟩
            obtain ⟨bd, hbd⟩ : ∃ b, b = decide (In61 c.d) := ⟨_, rfl⟩
            obtain ⟨bs, hbs⟩ : ∃ b, b = decide (In61 c.s) := ⟨_, rfl⟩
            have HE := hid (show ∀ W : World, Calls Try.prog 11 #[.int .i64 c.e] W fun q w' => q = .returned (.bool be) ∧ w' = W from fun W => by rw [hbe]; exact inTime11 c.e W)
            have HL := hid (show ∀ W : World, Calls Try.prog 11 #[.int .i64 c.l] W fun q w' => q = .returned (.bool bl) ∧ w' = W from fun W => by rw [hbl]; exact inTime11 c.l W)
            have HD := hid (show ∀ W : World, Calls Try.prog 11 #[.int .i64 c.d] W fun q w' => q = .returned (.bool bd) ∧ w' = W from fun W => by rw [hbd]; exact inTime11 c.d W)
            have HS := hid (show ∀ W : World, Calls Try.prog 11 #[.int .i64 c.s] W fun q w' => q = .returned (.bool bs) ∧ w' = W from fun W => by rw [hbs]; exact inTime11 c.s W)
            have HAll := hid (show be = true → bl = true → bd = true → bs = true → InB c from fun h1 h2 h3 h4 => ⟨of_decide_eq_true (hbe ▸ h1), of_decide_eq_true (hbl ▸ h2), of_decide_eq_true (hbd ▸ h3), of_decide_eq_true (hbs ▸ h4)⟩)
            clear hbe hbl hbd hbs hc hgd hbr hrow hn
            by_cases hr0 : c.r < 0
            · go_wp2
              go_ret
              exact ⟨rfl, HB.out⟩
            · by_cases hr3 : c.r ≥ 3
              · go_wp2
                go_ret
                exact ⟨rfl, HB.out⟩
              · cases be
                · go_wp2_with (first
                    | (go_at_call_has 11 (c.e); refine (HE.out _).mono ?_; rintro q w1 ⟨rfl, hw⟩; subst w1)
                    | (go_at_call_has 11 (c.l); refine (HL.out _).mono ?_; rintro q w1 ⟨rfl, hw⟩; subst w1)
                    | (go_at_call_has 11 (c.d); refine (HD.out _).mono ?_; rintro q w1 ⟨rfl, hw⟩; subst w1)
                    | (go_at_call_has 11 (c.s); refine (HS.out _).mono ?_; rintro q w1 ⟨rfl, hw⟩; subst w1))
                  go_ret
                  exact ⟨rfl, HB.out⟩
                · cases bl
                  · go_wp2_with (first
                      | (go_at_call_has 11 (c.e); refine (HE.out _).mono ?_; rintro q w1 ⟨rfl, hw⟩; subst w1)
                      | (go_at_call_has 11 (c.l); refine (HL.out _).mono ?_; rintro q w1 ⟨rfl, hw⟩; subst w1)
                      | (go_at_call_has 11 (c.d); refine (HD.out _).mono ?_; rintro q w1 ⟨rfl, hw⟩; subst w1)
                      | (go_at_call_has 11 (c.s); refine (HS.out _).mono ?_; rintro q w1 ⟨rfl, hw⟩; subst w1))
                    go_ret
                    exact ⟨rfl, HB.out⟩
                  · cases bd
                    · go_wp2_with (first
                        | (go_at_call_has 11 (c.e); refine (HE.out _).mono ?_; rintro q w1 ⟨rfl, hw⟩; subst w1)
                        | (go_at_call_has 11 (c.l); refine (HL.out _).mono ?_; rintro q w1 ⟨rfl, hw⟩; subst w1)
                        | (go_at_call_has 11 (c.d); refine (HD.out _).mono ?_; rintro q w1 ⟨rfl, hw⟩; subst w1)
                        | (go_at_call_has 11 (c.s); refine (HS.out _).mono ?_; rintro q w1 ⟨rfl, hw⟩; subst w1))
                      go_ret
                      exact ⟨rfl, HB.out⟩
                    · cases bs
                      · go_wp2_with (first
                          | (go_at_call_has 11 (c.e); refine (HE.out _).mono ?_; rintro q w1 ⟨rfl, hw⟩; subst w1)
                          | (go_at_call_has 11 (c.l); refine (HL.out _).mono ?_; rintro q w1 ⟨rfl, hw⟩; subst w1)
                          | (go_at_call_has 11 (c.d); refine (HD.out _).mono ?_; rintro q w1 ⟨rfl, hw⟩; subst w1)
                          | (go_at_call_has 11 (c.s); refine (HS.out _).mono ?_; rintro q w1 ⟨rfl, hw⟩; subst w1))
                        go_ret
                        exact ⟨rfl, HB.out⟩
                      · go_wp2_with (first
                          | (go_at_call_has 11 (c.e); refine (HE.out _).mono ?_; rintro q w1 ⟨rfl, hw⟩; subst w1)
                          | (go_at_call_has 11 (c.l); refine (HL.out _).mono ?_; rintro q w1 ⟨rfl, hw⟩; subst w1)
                          | (go_at_call_has 11 (c.d); refine (HD.out _).mono ?_; rintro q w1 ⟨rfl, hw⟩; subst w1)
                          | (go_at_call_has 11 (c.s); refine (HS.out _).mono ?_; rintro q w1 ⟨rfl, hw⟩; subst w1))
                        go_roundw
                        case rel => exact ⟨k + 1, by go_num, hk, HGd.out ⟨HAll.out (by simp) (by simp) (by simp) (by simp), by omega, by omega⟩, HB.out⟩
                        case measure => simp [intOf]; omega
          · have hkI : ¬ (k : Int) < n := by omega
            have HF := hid (show Checked5 w cs wr from ⟨fun c hc => by
              obtain ⟨j, hj, rfl⟩ := List.mem_iff_getElem.1 hc
              have := hgd j (by have := HN.out; omega)
              have e : cs.getD j pc0 = cs[j] := by simp [hj]
              rw [e] at this
              exact this, hbr⟩)
            clear hgd hbr
            go_wp2
            go_meet
            exact HF.out
    · have hI : (n : Int) > 1024 := by omega
      go_enter Try.func5, Try.ntmps5
      go_wp2_with (first
        | (go_at_call 10; refine (H10.out _).mono ?_; rintro q w1 ⟨rfl, hw⟩; subst w1))
      go_ret
      exact ⟨rfl, Below.refl _ _⟩
  · rw [decide_eq_false hb] at H10
    go_enter Try.func5, Try.ntmps5
    go_wp2_with (first
      | (go_at_call 10; refine (H10.out _).mono ?_; rintro q w1 ⟨rfl, hw⟩; subst w1))
    go_ret
    exact ⟨rfl, Below.refl _ _⟩
end Go.Proofs.Qxb6604397a
