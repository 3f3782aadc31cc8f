/-
  Seat b6603649a. The two 'Behind' laws (5, 6), walked over a slice of numbers.
-/
import Derived.Test.Qxb6603649aBeC
import Derived.OpenShut
namespace Go.Proofs.Qxb6603649a
open Go.RowKit

/-- A min-heap's first number is its least. -/
theorem heap_min (zs : List Int) (len : Nat) (h : ∀ j, 1 ≤ j → j < len → zs.getD ((j - 1) / 2) 0 ≤ zs.getD j 0) : ∀ j, j < len → zs.getD 0 0 ≤ zs.getD j 0 := by
  intro j
  induction j using Nat.strongRecOn with
  | ind j ih =>
    intro hj
    by_cases h0 : j = 0
    · subst h0; exact Int.le_refl _
    · exact Int.le_trans (ih ((j - 1) / 2) (by omega) (by omega)) (h j (by omega) hj)

theorem RowI.drewN {w : World} {a : Option Addr} {len : Nat} {zs : List Int} (h : RowI w a len zs) (n : Nat) : RowI (w.drewN n) a len zs := h

set_option maxRecDepth 100000 in
set_option maxHeartbeats 1000000 in
theorem walk6 (x u : Int) (a : Option Addr) (len cap : Nat) (zs : List Int) (w : World) (hm : len ≤ 9223372036854775807) (hn : a = none → len = 0) (hr : RowI w a len zs) (hu : -9223372036854775808 ≤ u)
    (hz : ∀ j, j < len → -9223372036854775808 ≤ zs.getD j 0 ∧ zs.getD j 0 ≤ 9223372036854775807) :
    Calls Try.prog 6 #[.int .u64 x, .int .i64 u, .slice a len cap] w fun e w' => e = .returned (.bool true) ∧ Below w.heap.size w w' := by
  by_cases h1 : len ≤ 1048576
  · by_cases h2 : len ≤ 65536
    · have g1 : decide (len ≤ 1048576) = true := by simp [h1]
      have g2 : ¬ (65536 : Int) < (len : Int) := by omega
      by_cases h0 : len = 0
      · subst h0
        have k1 : ∀ d t, behB 0 d t = false := fun d t => by simp [behB]
        go_enter Try.func6, Try.ntmps6
        go_wp2_with (first
          | (go_at_call 21; refine (bytes21 _ _ _ _ _ _ hm).mono ?_; rintro e w1 ⟨rfl, hw⟩; subst w1)
          | (go_at_call 15; refine (isHeap _ _ _ zs _ h1 hr).mono ?_; rintro e w2 ⟨⟨r1, rfl, hh⟩, nd, hw⟩; subst w2; cases r1)
          | (go_at_call 16; refine (allAfter _ _ _ zs _ _ h1 (hr.drewN nd)).mono ?_; rintro e w3 ⟨⟨r2, rfl, ha⟩, hw⟩; subst w3; cases r2)
          | (go_at_call 17; refine (copyInts _ _ _ zs _ h1 (fun _ => rfl) (hr.drewN nd)).mono ?_; rintro e w4 ⟨a2, rfl, hr2, hb2⟩)
          | (go_at_call 19; refine (queueWaiting _ _ _ _ _ zs _ h2 hr2).mono ?_; rintro e w5 ⟨rfl, hq, hb3⟩)
          | (go_at_call 20; refine (zbehind_some _ _ _ _ _ hq.has).mono ?_; rintro e w6 ⟨rfl, hw⟩; subst w6))
        all_goals go_ret
        · exact ⟨rfl, below_drewN (Below.refl _ _) _⟩
        · exact ⟨rfl, below_drewN (Below.refl _ _) _⟩
        · exact ⟨rfl, ((below_drewN (Below.refl _ _) _).trans hb2).trans (hb3.mono hb2.size)⟩
      · have g0 : ((len : Int) == 0) = false := by simp; omega
        go_enter Try.func6, Try.ntmps6
        go_wp2_with (first
          | (go_at_call 21; refine (bytes21 _ _ _ _ _ _ hm).mono ?_; rintro e w1 ⟨rfl, hw⟩; subst w1)
          | (go_at_call 15; refine (isHeap _ _ _ zs _ h1 hr).mono ?_; rintro e w2 ⟨⟨r1, rfl, hh⟩, nd, hw⟩; subst w2; cases r1)
          | (go_at_call 16; refine (allAfter _ _ _ zs _ _ h1 (hr.drewN nd)).mono ?_; rintro e w3 ⟨⟨r2, rfl, ha⟩, hw⟩; subst w3; cases r2)
          | (go_at_call 17; refine (copyInts _ _ _ zs _ h1 hn (hr.drewN nd)).mono ?_; rintro e w4 ⟨a2, rfl, hr2, hb2⟩; obtain ⟨b2, off2, ha2, hlt2, hc2⟩ := hr2 (by omega); subst ha2; replace hc2 := Hid.mk' hc2)
          | (go_at_call 19; refine (queueWaiting _ _ _ _ _ zs _ h2 hr2).mono ?_; rintro e w5 ⟨rfl, hq, hb3⟩; have hc50 : w5.cell? ⟨b2, off2, none⟩ = some (.int .i64 (zs.getD 0 0)) := (hb3.cell (by exact hlt2)).trans (hc2.out 0 (by omega))))
        · go_ret
          exact ⟨rfl, below_drewN (Below.refl _ _) _⟩
        · go_ret
          exact ⟨rfl, below_drewN (Below.refl _ _) _⟩
        · have hmin := Hid.mk' (heap_min zs len (hh (by trivial)))
          have haft := Hid.mk' (ha (by trivial))
          clear hh ha hr2 hc50
          obtain ⟨z0, hz0⟩ : ∃ z, z = zs[0]?.getD 0 := ⟨_, rfl⟩
          have hqh := hq.has
          simp only [List.getD_eq_getElem?_getD] at hqh
          rw [← hz0] at hqh ⊢
          have h00 : zs.getD 0 0 = z0 := by rw [hz0]; rfl
          have hz0b := hz 0 (by omega)
          have hz0u := haft.out 0 (by omega)
          rw [h00] at hz0b hz0u
          have h00' := Hid.mk' h00
          clear h00 hz0 hz hq
          go_loopw [8, 9] (fun t i wr => ∃ k : Nat, 1 ≤ k ∧ k ≤ len ∧ i = .int .i64 k ∧ t = .int .i64 z0 ∧ wr = w5) (fun _ i _ => len - (intOf i).toNat)
          case atStart => exact ⟨1, by omega, by omega, rfl, rfl, rfl⟩
          case round =>
            obtain ⟨k, hk1, hk, rfl, rfl, rfl⟩ := hrel
            by_cases hlt : k < len
            · obtain ⟨z, hzk⟩ : ∃ z, z = zs.getD k 0 := ⟨_, rfl⟩
              have hck : wr.cell? ⟨b2, off2 + k, none⟩ = some (.int .i64 z) := by rw [hb3.cell (by exact hlt2), hc2.out k hlt, hzk]
              have hge : z0 ≤ z := by rw [hzk, ← h00'.out]; exact hmin.out k hlt
              clear hzk
              go_wp2
              go_roundw
              case rel => exact ⟨k + 1, by omega, by omega, by go_num, rfl, by trivial⟩
              case measure => simp [intOf]; omega
            · have hkl : k = len := by omega
              clear hk1 hk
              subst hkl
              have k1 : behB k z0 z0 = true := by simp [behB]; omega
              have k2 : behB k z0 9223372036854775807 = true := by simp [behB]; omega
              have k3 : behB k z0 (z0 - 1) = false := by simp [behB]; omega
              go_wp2_with (first
                | (go_at_call 20; refine (zbehind_some _ _ _ _ _ hqh).mono ?_; rintro e w6 ⟨rfl, hw⟩; subst w6))
              go_ret
              exact ⟨rfl, ((below_drewN (Below.refl _ _) _).trans hb2).trans (hb3.mono hb2.size)⟩
    · have g1 : decide (len ≤ 1048576) = true := by simp [h1]
      have g2 : (65536 : Int) < (len : Int) := by omega
      go_enter Try.func6, Try.ntmps6
      go_wp2_with (first
        | (go_at_call 21; refine (bytes21 _ _ _ _ _ _ hm).mono ?_; rintro e w1 ⟨rfl, hw⟩; subst w1))
      go_ret
      exact ⟨rfl, Below.refl _ _⟩
  · have g1 : decide (len ≤ 1048576) = false := by simp [h1]
    go_enter Try.func6, Try.ntmps6
    go_wp2_with (first
      | (go_at_call 21; refine (bytes21 _ _ _ _ _ _ hm).mono ?_; rintro e w1 ⟨rfl, hw⟩; subst w1))
    go_ret
    exact ⟨rfl, Below.refl _ _⟩
theorem behB_yes {k : Nat} {z0 z now : Int} (h : z0 ≤ z) (hz : z ≤ now) : behB (k + 1) z0 now = true := by simp [behB]; omega
theorem behB_no {k : Nat} {z0 z now : Int} (h : k = 0 → z0 = z) (hz : now < z) : behB (k + 1) z0 now = behB k z0 now := by
  by_cases hk : k = 0
  · subst hk; have := h rfl; subst this; simp [behB]; omega
  · have : 0 < k := by omega
    simp [behB, this]

set_option maxRecDepth 100000 in
set_option maxHeartbeats 1000000 in
theorem walk5 (nl : Bool) (x u : Int) (a : Option Addr) (len cap : Nat) (zs : List Int) (now : Int) (w : World) (hm : len ≤ 9223372036854775807) (hn : a = none → len = 0) (hr : RowI w a len zs) :
    Calls Try.prog 5 #[.bool nl, .int .u64 x, .int .i64 u, .slice a len cap, .int .i64 now] w fun e w' => e = .returned (.bool true) ∧ Below w.heap.size w w' := by
  by_cases h1 : len ≤ 1048576
  · have g1 : decide (len ≤ 1048576) = true := by simp [h1]
    by_cases h2 : len ≤ 65536
    · have g2 : ¬ (65536 : Int) < (len : Int) := by omega
      have HN := Hid.mk' hn
      clear hn
      cases nl with
      | true =>
        go_enter Try.func5, Try.ntmps5
        go_wp2_with (first
          | (go_at_call 14; refine (bytes14 _ _ _ _ _ _ _ _ hm).mono ?_; rintro e w1 ⟨rfl, hw⟩; subst w1)
          | (go_at_call 15; refine (isHeap _ _ _ zs _ h1 hr).mono ?_; rintro e w2 ⟨⟨r1, rfl, hh⟩, nd, hw⟩; subst w2; cases r1)
          | (go_at_call 16; refine (allAfter _ _ _ zs _ _ h1 (hr.drewN nd)).mono ?_; rintro e w3 ⟨⟨r2, rfl, ha⟩, hw⟩; subst w3; cases r2)
          | (go_at_call 17; refine (copyInts _ _ _ zs _ h1 HN.out (hr.drewN nd)).mono ?_; rintro e w4 ⟨a2, rfl, hr2, hb2⟩)
          | (go_at_call 18; refine (nilQueue _).mono ?_; rintro e w5 ⟨rfl, hw⟩; subst w5)
          | (go_at_call 20; refine (zbehind_nil _ _).mono ?_; rintro e w6 ⟨rfl, hw⟩; subst w6))
        all_goals go_ret
        · exact ⟨rfl, below_drewN (Below.refl _ _) _⟩
        · exact ⟨rfl, below_drewN (Below.refl _ _) _⟩
        · exact ⟨rfl, (below_drewN (Below.refl _ _) _).trans hb2⟩
      | false =>
        by_cases h0 : len = 0
        · subst h0
          have k1 : ∀ d t, behB 0 d t = false := fun d t => by simp [behB]
          go_enter Try.func5, Try.ntmps5
          go_wp2_with (first
            | (go_at_call 14; refine (bytes14 _ _ _ _ _ _ _ _ hm).mono ?_; rintro e w1 ⟨rfl, hw⟩; subst w1)
            | (go_at_call 15; refine (isHeap _ _ _ zs _ h1 hr).mono ?_; rintro e w2 ⟨⟨r1, rfl, hh⟩, nd, hw⟩; subst w2; cases r1)
            | (go_at_call 16; refine (allAfter _ _ _ zs _ _ h1 (hr.drewN nd)).mono ?_; rintro e w3 ⟨⟨r2, rfl, ha⟩, hw⟩; subst w3; cases r2)
            | (go_at_call 17; refine (copyInts _ _ _ zs _ h1 (fun _ => rfl) (hr.drewN nd)).mono ?_; rintro e w4 ⟨a2, rfl, hr2, hb2⟩)
            | (go_at_call 18; refine (nilQueue _).mono ?_; rintro e w5 ⟨rfl, hw⟩; subst w5)
            | (go_at_call 19; refine (queueWaiting _ _ _ _ _ zs _ h2 hr2).mono ?_; rintro e w5 ⟨rfl, hq, hb3⟩))
          · go_ret
            exact ⟨rfl, below_drewN (Below.refl _ _) _⟩
          · go_ret
            exact ⟨rfl, below_drewN (Below.refl _ _) _⟩
          · refine wp_loop_rounds 1 ?_
            rw [rounds_succ]
            go_wp2_with (go_at_call 20; refine (zbehind_some _ _ _ _ _ hq.has).mono ?_; rintro e w6 ⟨rfl, hw⟩; subst w6)
            go_ret
            exact ⟨rfl, ((below_drewN (Below.refl _ _) _).trans hb2).trans (hb3.mono hb2.size)⟩
        · go_enter Try.func5, Try.ntmps5
          go_wp2_with (first
            | (go_at_call 14; refine (bytes14 _ _ _ _ _ _ _ _ hm).mono ?_; rintro e w1 ⟨rfl, hw⟩; subst w1)
            | (go_at_call 15; refine (isHeap _ _ _ zs _ h1 hr).mono ?_; rintro e w2 ⟨⟨r1, rfl, hh⟩, nd, hw⟩; subst w2; cases r1)
            | (go_at_call 16; refine (allAfter _ _ _ zs _ _ h1 (hr.drewN nd)).mono ?_; rintro e w3 ⟨⟨r2, rfl, ha⟩, hw⟩; subst w3; cases r2)
            | (go_at_call 17; refine (copyInts _ _ _ zs _ h1 HN.out (hr.drewN nd)).mono ?_; rintro e w4 ⟨a2, rfl, hr2, hb2⟩; obtain ⟨b2, off2, ha2, hlt2, hc2⟩ := hr2 (by omega); subst ha2; replace hc2 := Hid.mk' hc2)
            | (go_at_call 18; refine (nilQueue _).mono ?_; rintro e w5 ⟨rfl, hw⟩; subst w5)
            | (go_at_call 19; refine (queueWaiting _ _ _ _ _ zs _ h2 hr2).mono ?_; rintro e w5 ⟨rfl, hq, hb3⟩))
          · go_ret
            exact ⟨rfl, below_drewN (Below.refl _ _) _⟩
          · go_ret
            exact ⟨rfl, below_drewN (Below.refl _ _) _⟩
          · have hmin := Hid.mk' (heap_min zs len (hh (by trivial)))
            clear hh ha hr2
            obtain ⟨z0, hz0⟩ : ∃ z, z = zs.getD 0 0 := ⟨_, rfl⟩
            have hqh := hq.has
            rw [← hz0] at hqh
            have h00' := Hid.mk' hz0
            clear hz0 hq
            go_loopw [12, 13] (fun t i wr => ∃ k : Nat, k ≤ len ∧ i = .int .i64 k ∧ t = .bool (behB k z0 now) ∧ wr = w5) (fun _ i _ => len - (intOf i).toNat)
            case atStart => exact ⟨0, by omega, rfl, by simp [behB], rfl⟩
            case round =>
              obtain ⟨k, hk, rfl, rfl, rfl⟩ := hrel
              by_cases hlt : k < len
              · obtain ⟨z, hzk⟩ : ∃ z, z = zs.getD k 0 := ⟨_, rfl⟩
                have hck : wr.cell? ⟨b2, off2 + k, none⟩ = some (.int .i64 z) := by rw [hb3.cell (by exact hlt2), hc2.out k hlt, hzk]
                have hge : z0 ≤ z := by rw [hzk, h00'.out]; exact hmin.out k hlt
                have hk0 := Hid.mk' (show k = 0 → z0 = z by intro e; subst e; rw [hzk, h00'.out])
                clear hzk
                by_cases hle : z ≤ now
                · go_wp2
                  go_roundw
                  case rel => exact ⟨k + 1, by omega, by go_num, by rw [behB_yes hge hle], by trivial⟩
                  case measure => simp [intOf]; omega
                · go_wp2
                  go_roundw
                  case rel => exact ⟨k + 1, by omega, by go_num, by rw [behB_no hk0.out (by omega)], by trivial⟩
                  case measure => simp [intOf]; omega
              · have hkl : k = len := by omega
                clear hk
                subst hkl
                go_wp2_with (first
                  | (go_at_call 20; refine (zbehind_some _ _ _ _ _ hqh).mono ?_; rintro e w6 ⟨rfl, hw⟩; subst w6))
                go_ret
                exact ⟨by simp, ((below_drewN (Below.refl _ _) _).trans hb2).trans (hb3.mono hb2.size)⟩
    · have g2 : (65536 : Int) < (len : Int) := by omega
      go_enter Try.func5, Try.ntmps5
      go_wp2_with (first
        | (go_at_call 14; refine (bytes14 _ _ _ _ _ _ _ _ hm).mono ?_; rintro e w1 ⟨rfl, hw⟩; subst w1))
      go_ret
      exact ⟨rfl, Below.refl _ _⟩
  · have g1 : decide (len ≤ 1048576) = false := by simp [h1]
    go_enter Try.func5, Try.ntmps5
    go_wp2_with (first
      | (go_at_call 14; refine (bytes14 _ _ _ _ _ _ _ _ hm).mono ?_; rintro e w1 ⟨rfl, hw⟩; subst w1))
    go_ret
    exact ⟨rfl, Below.refl _ _⟩

/-- From the shell's own word on a slice of integers to ours. -/
theorem rowI_of {w : World} {a : Option Addr} {len cap : Nat} {zs : List Int}
    (h : (a = none ∧ len = 0 ∧ cap = 0 ∧ zs = []) ∨ ∃ x, a = some x ∧ len ≤ cap ∧ cap ≤ maxLen ∧ zs.length = cap ∧ (∀ i, i < zs.length → w.cell? (x.add i) = some (.int .i64 (zs.getD i 0))) ∧ ∀ n ∈ zs, (Lit.int .i64 n).wf = true) :
    RowI w a len zs ∧ (a = none → len = 0) ∧ len ≤ 9223372036854775807 ∧ ∀ j, j < len → -9223372036854775808 ≤ zs.getD j 0 ∧ zs.getD j 0 ≤ 9223372036854775807 := by
  rcases h with ⟨rfl, rfl, rfl, rfl⟩ | ⟨x, rfl, h1, h2, h3, h4, h5⟩
  · exact ⟨fun h => by omega, fun _ => rfl, by omega, fun j hj => by omega⟩
  · refine ⟨fun hp => ?_, (fun h => by cases h), (by unfold maxLen at h2; omega), fun j hj => ?_⟩
    · obtain ⟨b, off, rfl, hc⟩ := ints_at h4 (by omega)
      exact ⟨b, off, rfl, World.block_lt_of_cell? w ⟨b, off + 0, none⟩ (hc 0 (by omega)), fun j hj => hc j (by omega)⟩
    · have := range_i64 h5 j
      simpa using this
end Go.Proofs.Qxb6603649a
