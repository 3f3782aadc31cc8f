/-
  Seat b6604397a. The two 'ReserveAt' laws (3, 4), walked.
-/
import Derived.Test.Qxb6604397aReB
import Derived.Sort.AtCall
namespace Go.Proofs.Qxb6604397a
open Go.RowKit

/-- An array of 1,440 floats, as the law finds it in memory at block A. -/
structure Floats (cs : Array Value) (f : Nat → Nat) : Prop where
  size : cs.size = 1440
  at_ : ∀ i, i < 1440 → cs[i]? = some (.float .f64 (f i))

/-- What the two stand for in the middle of the law: the law's own copy at block A, the reserve at block A + 2. -/
theorem copy_cell {w w1 : World} {cs : Array Value} {f : Nat → Nat} (hf : Floats cs f) (hb : Below (w.heap.size + 1) (w.alloc (.cells cs 23)) w1) {i : Nat} (hi : i < 1440) : w1.cell? ⟨w.heap.size, i, none⟩ = some (.float .f64 (f i)) := by
  rw [cell_of_row w1 _ _ cs 23 (0, 0) ((hb.block _ (by omega)).trans (heap_alloc_new _ _))]
  exact hf.at_ i hi

set_option maxRecDepth 100000 in
set_option maxHeartbeats 400000 in
theorem walk3 (cs : Array Value) (f : Nat → Nat) (hf : Floats cs f) (day : Int) (w : World) :
    Calls Try.prog 3 #[.agg cs, .int .i64 day] w fun e w' => e = .returned (.bool true) ∧ Below w.heap.size w w' := by
  have hs := hf.size
  have HS := hid (size23.trans (by rw [hf.size]) : (Try.prog.info? 23).map (·.size) = some cs.size)
  by_cases h1 : day < -6405119470038038
  · go_enter Try.func3, Try.ntmps3
    go_wp2
    go_ret
    exact ⟨rfl, (Below.refl _ _).alloc (Nat.le_refl _) _⟩
  · by_cases h2 : 6405119470038037 < day
    · go_enter Try.func3, Try.ntmps3
      go_wp2
      go_ret
      exact ⟨rfl, (Below.refl _ _).alloc (Nat.le_refl _) _⟩
    · go_enter Try.func3, Try.ntmps3
      go_wp2_with (first
        | (with_reducible show wpList _ _ _ (Oper.mk _ (Op.load 23 _) _ _ _ _ :: _) _ _; refine wpList_load_row rfl 23 _ rfl w.heap.size rfl 23 cs (0, 0) _ (heap_alloc_new _ _) Try.underlying23 rfl HS.out ?_)
        | (go_at_call 7; refine (newReserve cs hs _).mono ?_; rintro e w1 ⟨rfl, hrem, hb1⟩))
      have HR := hid hrem
      have HB := hid (show Below (w.heap.size + 1) (w.alloc (.cells cs 23)) w1 from by simpa using hb1)
      clear hrem hb1
      go_loopw [7] (fun i wr => ∃ k : Nat, k ≤ 1440 ∧ i = .int .i64 k ∧ ∃ n, wr = w1.drewN n) (fun i _ => 1440 - (intOf i).toNat)
      case atStart => exact ⟨0, by omega, rfl, 0, rfl⟩
      case round =>
        obtain ⟨k, hk, rfl, nd, rfl⟩ := hrel
        by_cases hlt : k < 1440
        · have hlt' : (k : Int) < 1440 := by omega
          have hck : w1.cell? ⟨w.heap.size, k, none⟩ = some (.float .f64 (f k)) := copy_cell hf HB.out hlt
          have hcr : (w1.drewN nd).cell? ⟨w.heap.size + 1 + 1, 10080 + k, none⟩ = some (.float .f64 (f k)) := by
            have := HR.out k hlt
            rw [hf.at_ k hlt] at this
            simpa using this
          have HCR := hid hcr
          clear hcr
          obtain ⟨x, hx⟩ : ∃ x, x = f k := ⟨_, rfl⟩
          rw [← hx] at hck HCR
          clear hx
          cases hn : nan x
          · have hax : ansV x = x := by simp [ansV, hn]
            go_wp2_with (first
              | (go_at_call 8; refine (reserveAt (w.heap.size + 1 + 1) (day * 1440 + k) k x (w1.drewN nd) (by omega) HCR.out).mono ?_; rintro e w2 ⟨rfl, n2, hw⟩; subst w2; simp only [hax, hn])
              | (go_at_call 9; refine (reads_num x _ hn).mono ?_; rintro e w3 ⟨rfl, hw⟩; subst w3))
            go_roundw
            case rel => exact ⟨k + 1, by omega, by go_num, _, rfl⟩
            case measure => simp [intOf]; omega
          · have hax : ansV x = 0 := by simp [ansV, hn]
            go_wp2_with (first
              | (go_at_call 8; refine (reserveAt (w.heap.size + 1 + 1) (day * 1440 + k) k x (w1.drewN nd) (by omega) HCR.out).mono ?_; rintro e w2 ⟨rfl, n2, hw⟩; subst w2; simp only [hax, hn])
              | (go_at_call 9; refine (reads_nan x _ hn).mono ?_; rintro e w3 ⟨rfl, hw⟩; subst w3))
            go_roundw
            case rel => exact ⟨k + 1, by omega, by go_num, _, rfl⟩
            case measure => simp [intOf]; omega
        · have hkl : k = 1440 := by omega
          subst hkl
          go_wp2
          go_ret
          exact ⟨rfl, below_drewN (((Below.refl _ _).alloc (Nat.le_refl _) _).trans (HB.out.mono (by omega))) _⟩

theorem u64wrap (n : Int) : IntKind.u64.wrap n = n % 18446744073709551616 := by simp [IntKind.wrap, IntKind.bits, IntKind.signed]

theorem neg_c {m : Int} {k : Nat} (h0 : -9223372036854775808 ≤ m) (hm : m < 0) (hk : m % 1440 = k) : (IntKind.u64.wrap ((IntKind.u64.wrap m).tmod 1440 + 704)).tmod 1440 = k := by
  have e1 : IntKind.u64.wrap m = m + 18446744073709551616 := by rw [u64wrap]; omega
  have e3 : (m + 18446744073709551616).tmod 1440 = (m + 18446744073709551616) % 1440 := Int.tmod_eq_emod_of_nonneg (by omega)
  rw [e1, e3]
  have e2 : IntKind.u64.wrap ((m + 18446744073709551616) % 1440 + 704) = (m + 18446744073709551616) % 1440 + 704 := by rw [u64wrap]; omega
  rw [e2, Int.tmod_eq_emod_of_nonneg (by omega)]
  omega

set_option maxRecDepth 100000 in
set_option maxHeartbeats 1000000 in
theorem walk4 (cs : Array Value) (f : Nat → Nat) (hf : Floats cs f) (m : Int) (w : World) (h0 : -9223372036854775808 ≤ m) (h1 : m ≤ 9223372036854775807) :
    Calls Try.prog 4 #[.agg cs, .int .i64 m] w fun e w' => e = .returned (.bool true) ∧ Below w.heap.size w w' := by
  have hs := hf.size
  have HS := hid (size23.trans (by rw [hf.size]) : (Try.prog.info? 23).map (·.size) = some cs.size)
  obtain ⟨k, hk⟩ : ∃ k : Nat, m % 1440 = k := ⟨(m % 1440).toNat, by omega⟩
  have hkl : (k : Int) < 1440 := by omega
  obtain ⟨x, hx⟩ : ∃ x, x = f k := ⟨_, rfl⟩
  have HX := hid hx
  have HK := hid hk
  clear hx
  by_cases hm : m < 0
  · have hcc := neg_c h0 hm hk
    clear hk
    go_enter Try.func4, Try.ntmps4
    go_wp2_with (first
      | (with_reducible show wpList _ _ _ (Oper.mk _ (Op.load 23 _) _ _ _ _ :: _) _ _; refine wpList_load_row rfl 23 _ rfl w.heap.size rfl 23 cs (0, 0) _ (heap_alloc_new _ _) Try.underlying23 rfl HS.out ?_)
      | (go_at_call 7; refine (newReserve cs hs _).mono ?_; rintro e w1 ⟨rfl, hrem, hb1⟩))
    · skip
      have HB := hid (show Below (w.heap.size + 1) (w.alloc (.cells cs 23)) w1 from by simpa using hb1)
      have hck : w1.cell? ⟨w.heap.size, k, none⟩ = some (.float .f64 x) := by rw [HX.out]; exact copy_cell hf HB.out (by omega)
      have HCR := hid (show ∀ n, (w1.drewN n).cell? ⟨w.heap.size + 1 + 1, 10080 + k, none⟩ = some (.float .f64 x) from fun n => by
        have := hrem k (by omega)
        rw [hf.at_ k (by omega), ← HX.out] at this
        simpa using this)
      have hend := below_drewN (((Below.refl _ _).alloc (Nat.le_refl _) (Obj.cells cs 23)).trans (HB.out.mono (by omega)))
      clear hrem hb1
      by_cases hg : m ≤ 9223372036854774367
      all_goals
        cases hn : nan x
        · have hax : ansV x = x := by simp [ansV, hn]
          go_wp2_with (first
            | (go_at_call 8; first | (go_at_call_has 8 (Value.int IntKind.i64 m); refine (reserveAt (w.heap.size + 1 + 1) m k x w1 HK.out (HCR.out 0)).mono ?_; rintro e w2 ⟨rfl, n2, hw⟩; subst w2; simp only [hax, hn]) | (refine (reserveAt (w.heap.size + 1 + 1) (m + 1440) k x (w1.drewN n2) (by have := HK.out; omega) (HCR.out _)).mono ?_; rintro e w4 ⟨rfl, n4, hw⟩; subst w4; simp only [hax, hn]))
            | (go_at_call 9; refine (reads_num x _ hn).mono ?_; rintro e w3 ⟨rfl, hw⟩; subst w3))
          all_goals (go_ret; exact ⟨rfl, by first | exact hend _ | (rw [World.drewN_drewN]; exact hend _)⟩)
        · have hax : ansV x = 0 := by simp [ansV, hn]
          go_wp2_with (first
            | (go_at_call 8; first | (go_at_call_has 8 (Value.int IntKind.i64 m); refine (reserveAt (w.heap.size + 1 + 1) m k x w1 HK.out (HCR.out 0)).mono ?_; rintro e w2 ⟨rfl, n2, hw⟩; subst w2; simp only [hax, hn]) | (refine (reserveAt (w.heap.size + 1 + 1) (m + 1440) k x (w1.drewN n2) (by have := HK.out; omega) (HCR.out _)).mono ?_; rintro e w4 ⟨rfl, n4, hw⟩; subst w4; simp only [hax, hn]))
            | (go_at_call 9; refine (reads_nan x _ hn).mono ?_; rintro e w3 ⟨rfl, hw⟩; subst w3))
          all_goals (go_ret; exact ⟨rfl, by first | exact hend _ | (rw [World.drewN_drewN]; exact hend _)⟩)
  · have hcc : m.tmod 1440 = k := by rw [Int.tmod_eq_emod_of_nonneg (by omega)]; exact hk
    go_enter Try.func4, Try.ntmps4
    go_wp2_with (first
      | (with_reducible show wpList _ _ _ (Oper.mk _ (Op.load 23 _) _ _ _ _ :: _) _ _; refine wpList_load_row rfl 23 _ rfl w.heap.size rfl 23 cs (0, 0) _ (heap_alloc_new _ _) Try.underlying23 rfl HS.out ?_)
      | (go_at_call 7; refine (newReserve cs hs _).mono ?_; rintro e w1 ⟨rfl, hrem, hb1⟩))
    · skip
      have HB := hid (show Below (w.heap.size + 1) (w.alloc (.cells cs 23)) w1 from by simpa using hb1)
      have hck : w1.cell? ⟨w.heap.size, k, none⟩ = some (.float .f64 x) := by rw [HX.out]; exact copy_cell hf HB.out (by omega)
      have HCR := hid (show ∀ n, (w1.drewN n).cell? ⟨w.heap.size + 1 + 1, 10080 + k, none⟩ = some (.float .f64 x) from fun n => by
        have := hrem k (by omega)
        rw [hf.at_ k (by omega), ← HX.out] at this
        simpa using this)
      have hend := below_drewN (((Below.refl _ _).alloc (Nat.le_refl _) (Obj.cells cs 23)).trans (HB.out.mono (by omega)))
      clear hrem hb1
      by_cases hg : m ≤ 9223372036854774367
      all_goals
        cases hn : nan x
        · have hax : ansV x = x := by simp [ansV, hn]
          go_wp2_with (first
            | (go_at_call 8; first | (go_at_call_has 8 (Value.int IntKind.i64 m); refine (reserveAt (w.heap.size + 1 + 1) m k x w1 HK.out (HCR.out 0)).mono ?_; rintro e w2 ⟨rfl, n2, hw⟩; subst w2; simp only [hax, hn]) | (refine (reserveAt (w.heap.size + 1 + 1) (m + 1440) k x (w1.drewN n2) (by have := HK.out; omega) (HCR.out _)).mono ?_; rintro e w4 ⟨rfl, n4, hw⟩; subst w4; simp only [hax, hn]))
            | (go_at_call 9; refine (reads_num x _ hn).mono ?_; rintro e w3 ⟨rfl, hw⟩; subst w3))
          all_goals (go_ret; exact ⟨rfl, by first | exact hend _ | (rw [World.drewN_drewN]; exact hend _)⟩)
        · have hax : ansV x = 0 := by simp [ansV, hn]
          go_wp2_with (first
            | (go_at_call 8; first | (go_at_call_has 8 (Value.int IntKind.i64 m); refine (reserveAt (w.heap.size + 1 + 1) m k x w1 HK.out (HCR.out 0)).mono ?_; rintro e w2 ⟨rfl, n2, hw⟩; subst w2; simp only [hax, hn]) | (refine (reserveAt (w.heap.size + 1 + 1) (m + 1440) k x (w1.drewN n2) (by have := HK.out; omega) (HCR.out _)).mono ?_; rintro e w4 ⟨rfl, n4, hw⟩; subst w4; simp only [hax, hn]))
            | (go_at_call 9; refine (reads_nan x _ hn).mono ?_; rintro e w3 ⟨rfl, hw⟩; subst w3))
          all_goals (go_ret; exact ⟨rfl, by first | exact hend _ | (rw [World.drewN_drewN]; exact hend _)⟩)
end Go.Proofs.Qxb6604397a
