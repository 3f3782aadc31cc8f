/-
  Seat b6604397a. FnFleetPlaceThenCancel (6): the ways out ahead of the law.
-/
import Derived.Test.Qxb6604397aFtA
import Derived.Laws.FloatArith
namespace Go.Proofs.Qxb6604397a
open Go.RowKit

set_option maxRecDepth 100000 in
set_option maxHeartbeats 4000000 in
theorem early6a (r e l d s : Int) (u : Nat) (w : World) (h : r < 0 ∨ 3 ≤ r) :
    Calls Try.prog 6 #[.int .i64 r, .int .i64 e, .int .i64 l, .int .i64 d, .int .i64 s, .float .f64 u] w fun q w' => q = .returned (.bool true) ∧ w' = w := by
  by_cases h0 : r < 0
  · go_enter Try.func6, Try.ntmps6
    go_wp2
    go_ret
    exact ⟨rfl, rfl⟩
  · have h3 : r ≥ 3 := by omega
    clear h
    go_enter Try.func6, Try.ntmps6
    go_wp2
    go_ret
    exact ⟨rfl, rfl⟩

set_option maxRecDepth 100000 in
set_option maxHeartbeats 4000000 in
theorem early6b (r e l d s : Int) (u : Nat) (w : World) (h0 : ¬ r < 0) (h3 : ¬ 3 ≤ r) (h : ¬ (In61 e ∧ In61 l ∧ In61 d ∧ In61 s)) :
    Calls Try.prog 6 #[.int .i64 r, .int .i64 e, .int .i64 l, .int .i64 d, .int .i64 s, .float .f64 u] w fun q w' => q = .returned (.bool true) ∧ w' = w := by
  have h3' : ¬ r ≥ 3 := h3
  obtain ⟨be, hbe⟩ : ∃ b, b = decide (In61 e) := ⟨_, rfl⟩
  obtain ⟨bl, hbl⟩ : ∃ b, b = decide (In61 l) := ⟨_, rfl⟩
  obtain ⟨bd, hbd⟩ : ∃ b, b = decide (In61 d) := ⟨_, rfl⟩
  obtain ⟨bs, hbs⟩ : ∃ b, b = decide (In61 s) := ⟨_, rfl⟩
  have HE := hid (show ∀ W : World, Calls Try.prog 11 #[.int .i64 e] W fun q w' => q = .returned (.bool be) ∧ w' = W from fun W => by rw [hbe]; exact inTime11 e W)
  have HL := hid (show ∀ W : World, Calls Try.prog 11 #[.int .i64 l] W fun q w' => q = .returned (.bool bl) ∧ w' = W from fun W => by rw [hbl]; exact inTime11 l W)
  have HD := hid (show ∀ W : World, Calls Try.prog 11 #[.int .i64 d] W fun q w' => q = .returned (.bool bd) ∧ w' = W from fun W => by rw [hbd]; exact inTime11 d W)
  have HS := hid (show ∀ W : World, Calls Try.prog 11 #[.int .i64 s] W fun q w' => q = .returned (.bool bs) ∧ w' = W from fun W => by rw [hbs]; exact inTime11 s W)
  have hb : be = false ∨ bl = false ∨ bd = false ∨ bs = false := by
    by_cases p1 : In61 e
    · by_cases p2 : In61 l
      · by_cases p3 : In61 d
        · exact .inr (.inr (.inr (by rw [hbs]; exact decide_eq_false fun p4 => h ⟨p1, p2, p3, p4⟩)))
        · exact .inr (.inr (.inl (by rw [hbd]; exact decide_eq_false p3)))
      · exact .inr (.inl (by rw [hbl]; exact decide_eq_false p2))
    · exact .inl (by rw [hbe]; exact decide_eq_false p1)
  clear hbe hbl hbd hbs h h3
  cases be
  · go_enter Try.func6, Try.ntmps6
    go_wp2_with (first
      | (go_at_call_has 11 (e); refine (HE.out _).mono ?_; rintro q w1 ⟨rfl, hw⟩; subst w1))
    go_ret
    exact ⟨rfl, rfl⟩
  · cases bl
    · go_enter Try.func6, Try.ntmps6
      go_wp2_with (first
        | (go_at_call_has 11 (e); refine (HE.out _).mono ?_; rintro q w1 ⟨rfl, hw⟩; subst w1)
        | (go_at_call_has 11 (l); refine (HL.out _).mono ?_; rintro q w1 ⟨rfl, hw⟩; subst w1))
      go_ret
      exact ⟨rfl, rfl⟩
    · cases bd
      · go_enter Try.func6, Try.ntmps6
        go_wp2_with (first
          | (go_at_call_has 11 (e); refine (HE.out _).mono ?_; rintro q w1 ⟨rfl, hw⟩; subst w1)
          | (go_at_call_has 11 (l); refine (HL.out _).mono ?_; rintro q w1 ⟨rfl, hw⟩; subst w1)
          | (go_at_call_has 11 (d); refine (HD.out _).mono ?_; rintro q w1 ⟨rfl, hw⟩; subst w1))
        go_ret
        exact ⟨rfl, rfl⟩
      · have : bs = false := by simpa using hb
        subst this
        go_enter Try.func6, Try.ntmps6
        go_wp2_with (first
          | (go_at_call_has 11 (e); refine (HE.out _).mono ?_; rintro q w1 ⟨rfl, hw⟩; subst w1)
          | (go_at_call_has 11 (l); refine (HL.out _).mono ?_; rintro q w1 ⟨rfl, hw⟩; subst w1)
          | (go_at_call_has 11 (d); refine (HD.out _).mono ?_; rintro q w1 ⟨rfl, hw⟩; subst w1)
          | (go_at_call_has 11 (s); refine (HS.out _).mono ?_; rintro q w1 ⟨rfl, hw⟩; subst w1))
        go_ret
        exact ⟨rfl, rfl⟩

def MAXF : Nat := 9218868437227405311
def MINF : Nat := 18442240474082181119

set_option maxRecDepth 100000 in
set_option maxHeartbeats 4000000 in
theorem early6c (r e l d s : Int) (u : Nat) (w : World) (h0 : ¬ r < 0) (h3 : ¬ 3 ≤ r) (he : In61 e) (hl : In61 l) (hd : In61 d) (hs : In61 s)
    (h : ¬ Ieee.double.order u u = some .eq ∨ Ieee.double.order u MAXF = some .gt ∨ Ieee.double.order u MINF = some .lt) :
    Calls Try.prog 6 #[.int .i64 r, .int .i64 e, .int .i64 l, .int .i64 d, .int .i64 s, .float .f64 u] w fun q w' => q = .returned (.bool true) ∧ w' = w := by
  have h3' : ¬ r ≥ 3 := h3
  have HC := hid (show ∀ (x : Int) (W : World), In61 x → Calls Try.prog 11 #[.int .i64 x] W fun q w' => q = .returned (.bool true) ∧ w' = W from fun x W hx => by
    have := inTime11 x W
    rw [decide_eq_true hx] at this
    exact this)
  have HE := hid (And.intro he (And.intro hl (And.intro hd hs)))
  unfold MAXF MINF at h
  clear he hl hd hs h3
  by_cases c1 : Ieee.double.order u u = some .eq
  · by_cases c2 : Ieee.double.order u 9218868437227405311 = some .gt
    · have k1 : FloatKind.f64.format.order u u = some Ordering.eq := c1
      have k2 : FloatKind.f64.format.order u 9218868437227405311 = some Ordering.gt := c2
      clear h c1 c2
      go_enter Try.func6, Try.ntmps6
      go_wp2_with (first
        | (go_at_call_has 11 (e); refine (HC.out _ _ HE.out.1).mono ?_; rintro q w1 ⟨rfl, hw⟩; subst w1)
        | (go_at_call_has 11 (l); refine (HC.out _ _ HE.out.2.1).mono ?_; rintro q w1 ⟨rfl, hw⟩; subst w1)
        | (go_at_call_has 11 (d); refine (HC.out _ _ HE.out.2.2.1).mono ?_; rintro q w1 ⟨rfl, hw⟩; subst w1)
        | (go_at_call_has 11 (s); refine (HC.out _ _ HE.out.2.2.2).mono ?_; rintro q w1 ⟨rfl, hw⟩; subst w1))
      go_ret
      exact ⟨rfl, rfl⟩
    · have c3 : Ieee.double.order u 18442240474082181119 = some .lt := by
        rcases h with h | h | h
        · exact absurd c1 h
        · exact absurd h c2
        · exact h
      have k2 : (FloatKind.f64.format.order u 9218868437227405311 == some Ordering.gt) = false := by rw [beq_eq_false_iff_ne]; exact c2
      have k1 : FloatKind.f64.format.order u u = some Ordering.eq := c1
      have k3 : FloatKind.f64.format.order u 18442240474082181119 = some Ordering.lt := c3
      clear h c1 c2 c3
      go_enter Try.func6, Try.ntmps6
      go_wp2_with (first
        | (go_at_call_has 11 (e); refine (HC.out _ _ HE.out.1).mono ?_; rintro q w1 ⟨rfl, hw⟩; subst w1)
        | (go_at_call_has 11 (l); refine (HC.out _ _ HE.out.2.1).mono ?_; rintro q w1 ⟨rfl, hw⟩; subst w1)
        | (go_at_call_has 11 (d); refine (HC.out _ _ HE.out.2.2.1).mono ?_; rintro q w1 ⟨rfl, hw⟩; subst w1)
        | (go_at_call_has 11 (s); refine (HC.out _ _ HE.out.2.2.2).mono ?_; rintro q w1 ⟨rfl, hw⟩; subst w1))
      go_ret
      exact ⟨rfl, rfl⟩
  · have k1 : (FloatKind.f64.format.order u u == some Ordering.eq) = false := by rw [beq_eq_false_iff_ne]; exact c1
    have k2 : (FloatKind.f64.format.order u u != some Ordering.eq) = true := by rw [bne, k1]; rfl
    clear h c1
    go_enter Try.func6, Try.ntmps6
    go_wp2_with (first
      | (go_at_call_has 11 (e); refine (HC.out _ _ HE.out.1).mono ?_; rintro q w1 ⟨rfl, hw⟩; subst w1)
      | (go_at_call_has 11 (l); refine (HC.out _ _ HE.out.2.1).mono ?_; rintro q w1 ⟨rfl, hw⟩; subst w1)
      | (go_at_call_has 11 (d); refine (HC.out _ _ HE.out.2.2.1).mono ?_; rintro q w1 ⟨rfl, hw⟩; subst w1)
      | (go_at_call_has 11 (s); refine (HC.out _ _ HE.out.2.2.2).mono ?_; rintro q w1 ⟨rfl, hw⟩; subst w1))
    go_ret
    exact ⟨rfl, rfl⟩
end Go.Proofs.Qxb6604397a
