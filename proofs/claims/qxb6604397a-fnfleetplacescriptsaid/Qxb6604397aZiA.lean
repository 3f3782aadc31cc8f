/-
  Seat b6604397a. zzInsert (18): a number is put into an increasing row.
-/
import Derived.Test.Qxb6604397aFtB
namespace Go.Proofs.Qxb6604397a
open Go.RowKit

def iRow (xs : List Int) : List Value := xs.map (.int .i64)

theorem info2 : (Try.prog.info? 2).map (fun i => (i.zero, i.size, i.bytes)) = some (some (.int .i64 0), 1, 8) := by kernel_rfl

theorem iRow_one (xs : List Int) : ∀ u ∈ iRow xs, u.oneCell' = true := by
  intro u hu
  obtain ⟨a, _, rfl⟩ := List.mem_map.1 hu
  rfl

theorem icell {W : World} {g n m cap : Nat} {xs : List Int} (h : W.ownsRow 0 2 1 (.slice (some ⟨g, 0, none⟩) n cap) m (iRow xs)) (hn : m = n) (hl : xs.length = n) {j : Nat} (hj : j < n) : W.cell? ⟨g, j, none⟩ = some (.int .i64 (xs.getD j 0)) ∧ W.frozen? ⟨g, j, none⟩ = false := by
  subst hn
  refine ⟨?_, h.frozenAt j⟩
  rw [h.cellAt j (by omega)]
  simp [iRow, show j < xs.length by omega]

theorem set_hole {α : Type} (xs : List α) (z v : α) (k : Nat) (hk : k ≤ xs.length) : (xs.take k ++ z :: xs.drop k).set k v = xs.take k ++ v :: xs.drop k := by
  have hl : (xs.take k).length = k := by rw [List.length_take]; omega
  rw [List.set_append_right _ _ (by omega), hl, Nat.sub_self]
  rfl

theorem hole_step (xs : List Int) (k : Nat) (hk : k < xs.length) : xs.take (k + 1) ++ xs.getD k 0 :: xs.drop (k + 1) = xs.take k ++ xs.getD k 0 :: xs.drop k := by
  have h1 : xs.take (k + 1) = xs.take k ++ [xs.getD k 0] := by
    rw [List.take_add_one]; simp [hk]
  have h2 : xs.drop k = xs.getD k 0 :: xs.drop (k + 1) := by
    rw [List.drop_eq_getElem_cons hk]; simp [hk]
  rw [h1, h2]; simp

theorem iRow_set (xs : List Int) (j : Nat) (v : Int) : (iRow xs).set j (.int .i64 v) = iRow (xs.set j v) := by
  simp [iRow, List.map_set]

/-- What zzInsert leaves. -/
def Ins18 (v : Value) (xs : List Int) (t : Int) (w : World) (e : Ending) (w' : World) : Prop :=
  ∃ (i : Nat) (f : Bool) (v' : Value), e = .returned v' ∧ Found xs xs.length t i f ∧ w'.ownsRow 0 2 1 v' (insT f i t xs).length (iRow (insT f i t xs)) ∧
    (∀ k, v'.ownBlock = some k → v.ownBlock = some k ∨ w.heap.size ≤ k) ∧ Keep (fun k => v.ownBlock = some k) w w'

/-- The second loop's round. -/
def Hole (v : Value) (g' n cap' p : Nat) (xs : List Int) (w : World) (x : Value) (wr : World) : Prop :=
  ∃ (k : Nat) (z : Int), x = .int .i64 k ∧ p ≤ k ∧ k ≤ n ∧ wr.ownsRow 0 2 1 (.slice (some ⟨g', 0, none⟩) (n + 1) cap') (n + 1) (iRow (xs.take k ++ z :: xs.drop k)) ∧ Keep (fun k => v.ownBlock = some k) w wr

/-- The first loop's round. -/
def Seek (n : Nat) (xs : List Int) (t : Int) (w : World) (x : Value) (wr : World) : Prop := ∃ p : Nat, x = .int .i64 p ∧ p ≤ n ∧ (∀ k, k < p → xs.getD k 0 < t) ∧ wr = w

set_option maxRecDepth 100000 in
set_option maxHeartbeats 4000000 in
theorem ins18 (v : Value) (xs : List Int) (t : Int) (w : World) (hn : xs.length ≤ 1000000) (hs : Sorted xs) (h : w.ownsRow 0 2 1 v xs.length (iRow xs)) :
    Calls Try.prog 18 #[v, .int .i64 t] w fun e w' => Ins18 v xs t w e w' := by
  obtain ⟨i0, hi, hz0, hz1, hz2⟩ := info_parts info2
  obtain ⟨n, hnl⟩ : ∃ n, n = xs.length := ⟨_, rfl⟩
  have H := hid h
  rw [← hnl] at h hn
  obtain ⟨pa, cap, rfl⟩ : ∃ pa cap, v = .slice pa n cap := by
    rcases h.2 with ⟨rfl, h0⟩ | ⟨g, cap, cur, rfl, _⟩
    · exact ⟨none, 0, by rw [h0]⟩
    · exact ⟨_, cap, rfl⟩
  have HI := hid (And.intro hi (And.intro hz0 (And.intro hz1 hz2)))
  have HS := hid hs
  have HN := hid hnl
  clear hnl
  clear hi hz0 hz1 hz2 hs
  have HW := hid (show ∀ j : Nat, j ≤ 1000001 → IntKind.i64.wrap (j : Int) = j from fun j hj => by
    simp only [IntKind.wrap, IntKind.bits, IntKind.signed]; simp; omega)
  have hwn := HW.out n (by omega)
  go_enter Try.func18, Try.ntmps18
  go_wp2
  go_loopw [5] (fun x wr => Seek n xs t w x wr) (fun x _ => n - (intOf x).toNat)
  case atStart => exact ⟨0, rfl, by omega, fun k hk => by omega, rfl⟩
  case round =>
    obtain ⟨p, rfl, hpn, hlo, hwr⟩ := hrel
    subst wr
    have HL := hid hlo
    clear hlo
    by_cases hlt : p < n
    · obtain ⟨g, rfl⟩ : ∃ g, pa = some ⟨g, 0, none⟩ := by
        rcases h.2 with ⟨h0, h1⟩ | ⟨g, cap', cur, h0, _⟩
        · omega
        · injection h0 with h0; exact ⟨g, h0⟩
      have c := (icell h rfl HN.out.symm hlt).1
      obtain ⟨y, hy⟩ : ∃ y, y = xs.getD p 0 := ⟨_, rfl⟩
      rw [← hy] at c
      have hlI : (p : Int) < n := by omega
      have hwp : IntKind.i64.wrap ((p : Int) + 1) = p + 1 := by have := HW.out (p + 1) (by omega); simpa using this
      have HY := hid hy
      have HH := hid h
      clear h hy
      rcases Int.lt_trichotomy y t with hy | hy | hy
      · go_wp2
        go_roundw
        case rel =>
          refine ⟨p + 1, by go_num, by omega, fun k hk => ?_, rfl⟩
          by_cases e : k = p
          · subst e; rw [← HY.out]; exact hy
          · exact HL.out k (by omega)
        case measure => simp [intOf]; omega
      · subst hy
        go_wp2
        go_ret
        have := HN.out
        refine ⟨p, true, _, rfl, ⟨by omega, HL.out, fun k h1 h2 => ?_, ?_⟩, H.out, fun k hk => .inl hk, Keep.refl _ _⟩
        · rw [HY.out]
          by_cases e : p = k
          · subst e; exact Int.le_refl _
          · exact Int.le_of_lt (HS.out p k (by omega) h2)
        · simp only [true_iff]
          exact ⟨by omega, HY.out.symm⟩
      · have hny : ¬ y < t := by omega
        have hne : ¬ y = t := by omega
        have HFd := hid (show Found xs xs.length t p false from by
          have hnx := HN.out
          refine ⟨by omega, HL.out, fun k h1 h2 => ?_, ?_⟩
          · by_cases e : p = k
            · subst e; rw [← HY.out]; omega
            · have := HS.out p k (by omega) h2; rw [← HY.out] at this; omega
          · simp only [Bool.false_eq_true, false_iff]
            intro hq; have := hq.2; rw [← HY.out] at this; omega)
        have HO2 := hid (owns_of_block HH.out fun k hk => heap_alloc_old w (.cells #[.int .i64 0] 2) (HH.out.lt k hk).2)
        have HV := hid (show ∀ j u, [Value.int .i64 0][j]? = some u → (w.alloc (.cells #[.int .i64 0] 2)).cell? (Addr.add ⟨w.heap.size, 0, none⟩ j) = some u from fun j u hj => by
          cases j with
          | zero =>
            rw [← hj]
            exact cell_of_row _ w.heap.size 0 _ 2 (0, 0) (heap_alloc_new w _)
          | succ j => simp at hj)
        go_wp2_with (first
          | (at_builtin; refine wpList_append_apart _ rfl _ _ 51 rfl 0 2 i0 (.int .i64 0) 1 8 Try.underlying51 HI.out.1 HI.out.2.1 HI.out.2.2.1 HI.out.2.2.2 rfl (by decide) _ _ _ rfl HO2.out ⟨w.heap.size, 0, none⟩ 1 1 [.int .i64 0] rfl rfl HV.out (iRow_one [0]) (by unfold maxLen; omega) (by omega) (Nat.zero_le _) ?_; intro v' w1 hown1 hgrow1 hap; obtain ⟨g', cap', rfl⟩ := own_some hown1))
        have hK1 : Keep (fun k => (Value.slice (some ⟨g, 0, none⟩) n cap).ownBlock = some k) w w1 := (Keep.of_below ((Below.refl _ _).alloc (Nat.le_refl _) _)).trans (Keep.of_grown (own := fun k => (Value.slice (some ⟨g, 0, none⟩) n cap).ownBlock = some k) hgrow1 (fun k hk => hk)) (fun k q => .inl q)
        have hg' : (Value.slice (some ⟨g, 0, none⟩) n cap).ownBlock = some g' ∨ w.heap.size ≤ g' := by
          rcases hap g' rfl with q | q
          · exact .inl q
          · exact .inr (by simp at q; omega)
        have HO1 := hid hown1
        have HK1 := hid hK1
        have HG := hid hg'
        clear hown1 hgrow1 hap hK1 hg'
        go_loopw [6] (fun x wr => Hole (.slice (some ⟨g, 0, none⟩) n cap) g' n cap' p xs w x wr) (fun x _ => (intOf x).toNat)
        case atStart =>
          refine ⟨n, 0, by go_num, hpn, Nat.le_refl _, ?_, HK1.out⟩
          have h1 : iRow (xs.take n ++ 0 :: xs.drop n) = iRow xs ++ [.int .i64 0] := by
            rw [HN.out, List.take_length, List.drop_length]; simp [iRow]
          rw [h1]; exact HO1.out
        case round =>
          obtain ⟨k, z, rfl, hpk, hkn, ho, hK⟩ := hrel
          have hnx := HN.out
          have hlen : (xs.take k ++ z :: xs.drop k).length = n + 1 := by rw [length_ins _ _ _ (by omega)]; omega
          have HR := hid (And.intro ho hK)
          by_cases hgt : p < k
          · obtain ⟨j, rfl⟩ : ∃ j, k = j + 1 := ⟨k - 1, by omega⟩
            have d1 := (icell ho rfl hlen (show j < n + 1 by omega)).1
            have d2 := (icell ho rfl hlen (show j + 1 < n + 1 by omega)).1
            have d3 := (icell ho rfl hlen (show j + 1 < n + 1 by omega)).2
            rw [getD_ins _ _ _ _ _ (by omega), if_pos (by omega)] at d1
            obtain ⟨y', hy'⟩ : ∃ y', y' = xs.getD j 0 := ⟨_, rfl⟩
            rw [← hy'] at d1
            have hwj := HW.out j (by omega)
            have b1 : (j : Int) < n + 1 := by omega
            have b2 : (j : Int) + 1 < n + 1 := by omega
            have b3 : (p : Int) < j + 1 := by omega
            have HY' := hid hy'
            clear ho hK hlen hy' hnx
            go_wp2
            go_roundw
            case rel =>
              refine ⟨j, xs.getD j 0, by go_num, by omega, by omega, ?_, HR.out.2.set HG.out _⟩
              have q := (HR.out.1.stored (j + 1) (.int .i64 y')).1
              rw [iRow_set, set_hole _ _ _ _ (by have := HN.out; omega), HY'.out, hole_step _ _ (by have := HN.out; omega)] at q
              rw [HY'.out]
              exact q
            case measure => simp [intOf]
          · obtain rfl : k = p := by omega
            have d2 := (icell ho rfl hlen (show k < n + 1 by omega)).1
            have d3 := (icell ho rfl hlen (show k < n + 1 by omega)).2
            have b1 : (k : Int) < n + 1 := by omega
            clear ho hK hlen hnx
            go_wp2
            go_ret
            have q := (HR.out.1.stored k (.int .i64 t)).1
            rw [iRow_set, set_hole _ _ _ _ (by have := HN.out; omega)] at q
            refine ⟨k, false, _, rfl, HFd.out, ?_, fun m hm => ?_, HR.out.2.set HG.out _⟩
            · have hl : (insT false k t xs).length = n + 1 := by rw [length_insT (by have := HN.out; omega)]; have := HN.out; simp; omega
              rw [hl]; exact q
            · have hm' : g' = m := Option.some.inj hm
              rw [← hm']; exact HG.out
    · have hpI : ¬ (p : Int) < n := by omega
      have HH := hid h
      clear h
      have HFd := hid (show Found xs xs.length t p false from by
        have hnx := HN.out
        refine ⟨by omega, HL.out, fun k h1 h2 => by omega, ?_⟩
        simp only [Bool.false_eq_true, false_iff]
        intro hq; omega)
      have HO2 := hid (owns_of_block HH.out fun k hk => heap_alloc_old w (.cells #[.int .i64 0] 2) (HH.out.lt k hk).2)
      have HV := hid (show ∀ j u, [Value.int .i64 0][j]? = some u → (w.alloc (.cells #[.int .i64 0] 2)).cell? (Addr.add ⟨w.heap.size, 0, none⟩ j) = some u from fun j u hj => by
        cases j with
        | zero =>
          rw [← hj]
          exact cell_of_row _ w.heap.size 0 _ 2 (0, 0) (heap_alloc_new w _)
        | succ j => simp at hj)
      go_wp2_with (first
        | (at_builtin; refine wpList_append_apart _ rfl _ _ 51 rfl 0 2 i0 (.int .i64 0) 1 8 Try.underlying51 HI.out.1 HI.out.2.1 HI.out.2.2.1 HI.out.2.2.2 rfl (by decide) _ _ _ rfl HO2.out ⟨w.heap.size, 0, none⟩ 1 1 [.int .i64 0] rfl rfl HV.out (iRow_one [0]) (by unfold maxLen; omega) (by omega) (Nat.zero_le _) ?_; intro v' w1 hown1 hgrow1 hap; obtain ⟨g', cap', rfl⟩ := own_some hown1))
      have hK1 : Keep (fun k => (Value.slice (pa) n cap).ownBlock = some k) w w1 := (Keep.of_below ((Below.refl _ _).alloc (Nat.le_refl _) _)).trans (Keep.of_grown (own := fun k => (Value.slice (pa) n cap).ownBlock = some k) hgrow1 (fun k hk => hk)) (fun k q => .inl q)
      have hg' : (Value.slice (pa) n cap).ownBlock = some g' ∨ w.heap.size ≤ g' := by
        rcases hap g' rfl with q | q
        · exact .inl q
        · exact .inr (by simp at q; omega)
      have HO1 := hid hown1
      have HK1 := hid hK1
      have HG := hid hg'
      clear hown1 hgrow1 hap hK1 hg'
      go_loopw [6] (fun x wr => Hole (.slice (pa) n cap) g' n cap' p xs w x wr) (fun x _ => (intOf x).toNat)
      case atStart =>
        refine ⟨n, 0, by go_num, hpn, Nat.le_refl _, ?_, HK1.out⟩
        have h1 : iRow (xs.take n ++ 0 :: xs.drop n) = iRow xs ++ [.int .i64 0] := by
          rw [HN.out, List.take_length, List.drop_length]; simp [iRow]
        rw [h1]; exact HO1.out
      case round =>
        obtain ⟨k, z, rfl, hpk, hkn, ho, hK⟩ := hrel
        have hnx := HN.out
        have hlen : (xs.take k ++ z :: xs.drop k).length = n + 1 := by rw [length_ins _ _ _ (by omega)]; omega
        have HR := hid (And.intro ho hK)
        by_cases hgt : p < k
        · omega
        · obtain rfl : k = p := by omega
          have d2 := (icell ho rfl hlen (show k < n + 1 by omega)).1
          have d3 := (icell ho rfl hlen (show k < n + 1 by omega)).2
          have b1 : (k : Int) < n + 1 := by omega
          clear ho hK hlen hnx
          go_wp2
          go_ret
          have q := (HR.out.1.stored k (.int .i64 t)).1
          rw [iRow_set, set_hole _ _ _ _ (by have := HN.out; omega)] at q
          refine ⟨k, false, _, rfl, HFd.out, ?_, fun m hm => ?_, HR.out.2.set HG.out _⟩
          · have hl : (insT false k t xs).length = n + 1 := by rw [length_insT (by have := HN.out; omega)]; have := HN.out; simp; omega
            rw [hl]; exact q
          · have hm' : g' = m := Option.some.inj hm
            rw [← hm']; exact HG.out
end Go.Proofs.Qxb6604397a
