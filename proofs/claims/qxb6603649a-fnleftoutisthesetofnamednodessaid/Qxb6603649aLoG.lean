/-
  Seat b6603649a. FnLeftOutIsTheSetOfNamedNodes (3), walked.
-/
import Derived.Test.Qxb6603649aLoE
namespace Go.Proofs.Qxb6603649a
open Go.RowKit Go.WideMaps Go.Maps

theorem dist_new {L : Nat → List UInt8} {k : Nat} (h : L k ≠ []) (hs : ∀ j, j < k → L j ≠ L k) : dist L (k + 1) = dist L k + 1 := by
  have h1 : (L k).isEmpty = false := by cases hl : L k with | nil => exact absurd hl h | cons _ _ => rfl
  have h2 : seen L k = false := by
    cases hh : seen L k with
    | false => rfl
    | true => obtain ⟨j, hj, e⟩ := (seen_iff L k).1 hh; exact absurd e (hs j hj)
  simp [dist, h1, h2]
theorem dist_old {L : Nat → List UInt8} {k j : Nat} (hj : j < k) (hs : L j = L k) : dist L (k + 1) = dist L k := by
  have h2 : seen L k = true := (seen_iff L k).2 ⟨j, hj, hs⟩
  simp [dist, h2]
theorem dist_empty {L : Nat → List UInt8} {k : Nat} (h : L k = []) : dist L (k + 1) = dist L k := by simp [dist, h]

set_option maxRecDepth 100000 in
set_option maxHeartbeats 1000000 in
theorem walk3_off (c : Cfg) (hc : c.Ok) (hd : c.b11 = false) (a : Option Addr) (len cap : Nat) (ss : List ByteArray) (w : World) (hm : len ≤ 9223372036854775807) (hn : a = none → len = 0) (hr : RowS w a len ss) :
    Calls Try.prog 3 #[.agg c.cells, .slice a len cap] w fun e w' => e = .returned (.bool true) ∧ Below w.heap.size w w' := by
  have hs : c.cells.size = 18 := rfl
  have hk0 := Kept.start w c
  have HN := hid hn
  have HS := hid (cells24 c)
  have hq : ∀ (wx : World) (r : Option Nat), (binOp .eql 30 (.map r) (.map none)).run Try.prog wx = .ok (.bool r.isNone) wx := fun wx r => run_eql_map_nil wx _ _ _ r Try.underlying30
  clear hn
  go_enter Try.func3, Try.ntmps3
  go_wp2_with (first
    | (with_reducible show wpList _ _ _ (Oper.mk _ (Op.load 24 _) _ _ _ _ :: _) _ _; refine wpList_load_row rfl 24 _ rfl w.heap.size rfl 24 c.cells (0, 0) _ (Kept.block (by assumption)) Try.underlying24 rfl HS.out ?_)
    | (go_at_call 7; refine (bytes7 c hc _ _ _ ss _ hm (hk0.row hr)).mono ?_; rintro e w1 ⟨⟨r, rfl⟩, hb1⟩; have hk1 := hk0.step hb1; cases r)
    | (go_at_call 8; refine (bytes8 c hc _ _ _ ss ⟨#[]⟩ (by decide) _ (by omega) (hk1.row hr)).mono ?_; rintro e w2 ⟨⟨r, rfl, hr0, hr1⟩, hb2⟩; have hk2 := hk1.step hb2)
    | (go_at_call 9; refine (refs9 c _).mono ?_; rintro e w3 ⟨⟨r, rfl⟩, hb3⟩; have hk3 := hk2.step hb3; cases r)
    | (go_at_call 10; refine (copyStrings _ _ _ ss _ (by omega) HN.out (hk3.row hr)).mono ?_; rintro e w4 ⟨a2, rfl, hr4, hb4⟩; have hk4 := hk3.step hb4)
    | (go_at_call 12; refine (config12 c _).mono ?_; rintro e w5 ⟨⟨cs, rfl, hcs⟩, hb5⟩; have hk5 := hk4.step hb5; rw [hd] at hcs)
    | (go_at_call 11; refine (zleftOut_off cs hcs _ _ _ _).mono ?_; rintro e w6 ⟨hnm, hb6⟩; unfold NoMap at hnm; subst hnm; have hk6 := hk5.step hb6; have hdd := hk6.dd; rw [hd] at hdd))
  all_goals go_ret
  · exact ⟨rfl, hk1.below⟩
  · exact ⟨rfl, hk1.below⟩
  · exact ⟨rfl, hk2.below⟩
  · exact ⟨rfl, hk3.below⟩
  · exact ⟨rfl, hk6.below⟩

set_option maxRecDepth 100000 in
set_option maxHeartbeats 1000000 in
theorem walk3_none (c : Cfg) (hc : c.Ok) (hd : c.b11 = true) (a : Option Addr) (cap : Nat) (ss : List ByteArray) (w : World) (hr : RowS w a 0 ss) :
    Calls Try.prog 3 #[.agg c.cells, .slice a 0 cap] w fun e w' => e = .returned (.bool true) ∧ Below w.heap.size w w' := by
  have hs : c.cells.size = 18 := rfl
  have hk0 := Kept.start w c
  have HS := hid (cells24 c)
  have hm : 0 ≤ 9223372036854775807 := by omega
  have hq : ∀ (wx : World) (r : Option Nat), (binOp .eql 30 (.map r) (.map none)).run Try.prog wx = .ok (.bool r.isNone) wx := fun wx r => run_eql_map_nil wx _ _ _ r Try.underlying30
  go_enter Try.func3, Try.ntmps3
  go_wp2_with (first
    | (with_reducible show wpList _ _ _ (Oper.mk _ (Op.load 24 _) _ _ _ _ :: _) _ _; refine wpList_load_row rfl 24 _ rfl w.heap.size rfl 24 c.cells (0, 0) _ (Kept.block (by assumption)) Try.underlying24 rfl HS.out ?_)
    | (go_at_call 7; refine (bytes7 c hc _ _ _ ss _ hm (hk0.row hr)).mono ?_; rintro e w1 ⟨⟨r, rfl⟩, hb1⟩; have hk1 := hk0.step hb1; cases r)
    | (go_at_call 8; refine (bytes8 c hc _ _ _ ss ⟨#[]⟩ (by decide) _ (by omega) (hk1.row hr)).mono ?_; rintro e w2 ⟨⟨r, rfl, hr0, hr1⟩, hb2⟩; have hk2 := hk1.step hb2)
    | (go_at_call 9; refine (refs9 c _).mono ?_; rintro e w3 ⟨⟨r, rfl⟩, hb3⟩; have hk3 := hk2.step hb3; cases r)
    | (go_at_call 10; refine (copyStrings _ _ _ ss _ (by omega) (fun _ => rfl) (hk3.row hr)).mono ?_; rintro e w4 ⟨a2, rfl, hr4, hb4⟩; have hk4 := hk3.step hb4)
    | (go_at_call 12; refine (config12 c _).mono ?_; rintro e w5 ⟨⟨cs, rfl, hcs⟩, hb5⟩; have hk5 := hk4.step hb5; rw [hd] at hcs)
    | (go_at_call 11; refine (zleftOut_none cs hcs _ _ _).mono ?_; rintro e w6 ⟨hnm, hb6⟩; unfold NoMap at hnm; subst hnm; have hk6 := hk5.step hb6; have hdd := hk6.dd; rw [hd] at hdd))
  all_goals go_ret
  · exact ⟨rfl, hk1.below⟩
  · exact ⟨rfl, hk2.below⟩
  · exact ⟨rfl, hk3.below⟩
  · exact ⟨rfl, hk6.below⟩

set_option maxRecDepth 100000 in
set_option maxHeartbeats 2000000 in
theorem walk3_yes (c : Cfg) (hc : c.Ok) (hd : c.b11 = true) (a : Option Addr) (len cap : Nat) (ss : List ByteArray) (w : World) (hm : len ≤ 9223372036854775807) (h0 : 0 < len) (hn : a = none → len = 0) (hr : RowS w a len ss) :
    Calls Try.prog 3 #[.agg c.cells, .slice a len cap] w fun e w' => e = .returned (.bool true) ∧ Below w.heap.size w w' := by
  have hs : c.cells.size = 18 := rfl
  have hk0 := Kept.start w c
  have HN := hid hn
  have HS := hid (cells24 c)
  have g0 : ((len : Int) == 0) = false := by simp; omega
  have hq : ∀ (wx : World) (r : Option Nat), (binOp .eql 30 (.map r) (.map none)).run Try.prog wx = .ok (.bool r.isNone) wx := fun wx r => run_eql_map_nil wx _ _ _ r Try.underlying30
  clear hn
  go_enter Try.func3, Try.ntmps3
  go_wp2_with (first
    | (with_reducible show wpList _ _ _ (Oper.mk _ (Op.load 24 _) _ _ _ _ :: _) _ _; refine wpList_load_row rfl 24 _ rfl w.heap.size rfl 24 c.cells (0, 0) _ (Kept.block (by assumption)) Try.underlying24 rfl HS.out ?_)
    | (go_at_call 7; refine (bytes7 c hc _ _ _ ss _ hm (hk0.row hr)).mono ?_; rintro e w1 ⟨⟨r, rfl⟩, hb1⟩; have hk1 := hk0.step hb1; cases r)
    | (go_at_call 8; refine (bytes8 c hc _ _ _ ss ⟨#[]⟩ (by decide) _ (by omega) (hk1.row hr)).mono ?_; rintro e w2 ⟨⟨r, rfl, hr0, hr1⟩, hb2⟩; have hk2 := hk1.step hb2)
    | (go_at_call 9; refine (refs9 c _).mono ?_; rintro e w3 ⟨⟨r, rfl⟩, hb3⟩; have hk3 := hk2.step hb3; cases r)
    | (go_at_call 10; refine (copyStrings _ _ _ ss _ (by omega) HN.out (hk3.row hr)).mono ?_; rintro e w4 ⟨a2, rfl, hr4, hb4⟩; have hk4 := hk3.step hb4)
    | (go_at_call 12; refine (config12 c _).mono ?_; rintro e w5 ⟨⟨cs, rfl, hcs⟩, hb5⟩; have hk5 := hk4.step hb5; rw [hd] at hcs)
    | (go_at_call 11; refine (zleftOut_yes cs hcs _ _ _ ss _ h0 (by omega) (hr4.below hb5)).mono ?_; rintro e w6 ⟨⟨B, D, rfl, hB, hown, hset⟩, hb6⟩; have hk6 := hk5.step hb6; have hdd := hk6.dd; rw [hd] at hdd))
  · go_ret; exact ⟨rfl, hk1.below⟩
  · go_ret; exact ⟨rfl, hk1.below⟩
  · go_ret; exact ⟨rfl, hk2.below⟩
  · go_ret; exact ⟨rfl, hk3.below⟩
  · obtain ⟨b2, off2, rfl, hlt2, hc2⟩ := (hr4.below hb5) h0
    have HC := hid (show ∀ j, j < len → w6.cell? ⟨b2, off2 + j, none⟩ = some (.string (ss.getD j ByteArray.empty)) ∧ (ss.getD j ByteArray.empty).size ≤ maxLen from fun j hj => ⟨by rw [hb6.cell (by exact hlt2)]; exact (hc2 j hj).1, (hc2 j hj).2⟩)
    clear hc2
    have HD := hid hown
    have HT := hid hset
    have h4096 : len ≤ 4096 := by omega
    have hend := hk6.below
    clear hown hset hr4 hb1 hb2 hb3 hb4 hb5 hb6 hk0 hk1 hk2 hk3 hk4 hk5 hcs hr hdd hB hr0 hr1
    go_loopw [6, 7] (fun t i wr => ∃ k : Nat, k ≤ len ∧ i = .int .i64 k ∧ t = .int .i64 (dist (bytesAt ss) k) ∧ ∃ n, wr = w6.drewN n) (fun _ i _ => len - (intOf i).toNat)
    case atStart => exact ⟨0, Nat.zero_le _, rfl, rfl, 0, rfl⟩
    case round =>
      obtain ⟨k, hk, rfl, rfl, nd, rfl⟩ := hrel
      have hdl := dist_le (bytesAt ss) k
      by_cases hlt : k < len
      · obtain ⟨sk, hsk⟩ : ∃ z, z = ss.getD k ByteArray.empty := ⟨_, rfl⟩
        have hck : w6.cell? ⟨b2, off2 + k, none⟩ = some (.string sk) := by rw [(HC.out k hlt).1, hsk]
        have hsz : sk.size ≤ maxLen := by rw [hsk]; exact (HC.out k hlt).2
        have HB := hid (show bytesAt ss k = sk.data.toList by rw [hsk]; rfl)
        clear hsk
        by_cases he : sk.data.toList = []
        · have he' : sk.toList.isEmpty = true := by rw [ByteArray.toList_eq, he]; rfl
          have HE := hid he
          clear he
          go_wp2
          go_roundw
          case rel => exact ⟨k + 1, by omega, by go_num, by rw [dist_empty (HB.out.trans HE.out)], nd, rfl⟩
          case measure => simp [intOf]; omega
        · have he' : sk.toList.isEmpty = false := by rw [ByteArray.toList_eq]; cases hl : sk.data.toList with | nil => exact absurd hl he | cons _ _ => rfl
          have HE := hid he
          clear he
          have hlk : ∀ n, (Instr.lookup 30 (.map (some B)) (.string sk) true).run Try.prog (w6.drewN n) = .ok (.tuple #[.bool true, .bool true]) (w6.drewN n) := fun n =>
            look_in (w := w6.drewN n) HD.out HT.out hsz ((HT.out.has _).2 ⟨HE.out, k, hlt, HB.out⟩)
          go_wp2
          go_loopw [8, 9] (fun t i wr => ∃ j : Nat, j ≤ k ∧ i = .int .i64 j ∧ t = .bool true ∧ (∀ j', j' < j → bytesAt ss j' ≠ bytesAt ss k) ∧ ∃ n, wr = w6.drewN n) (fun _ i _ => k - (intOf i).toNat)
          case atStart => exact ⟨0, Nat.zero_le _, rfl, rfl, fun j hj => by omega, nd, rfl⟩
          case round =>
            obtain ⟨j, hj, rfl, rfl, hall, nj, rfl⟩ := hrel
            have HA := hid hall
            clear hall
            by_cases hjk : j < k
            · obtain ⟨sj, hsj⟩ : ∃ z, z = ss.getD j ByteArray.empty := ⟨_, rfl⟩
              have hcj : w6.cell? ⟨b2, off2 + j, none⟩ = some (.string sj) := by rw [(HC.out j (by omega)).1, hsj]
              have HJ := hid (show bytesAt ss j = sj.data.toList by rw [hsj]; rfl)
              have hjl : (j : Int) < (len : Int) := by omega
              clear hsj
              by_cases heq : sj.data.toList = sk.data.toList
              · have hqq : (sj.toList == sk.toList) = true := by rw [same_iff]; simpa using heq
                have HQ := hid heq
                clear heq
                go_wp2
                go_quiet (fail)
                go_wp2
                go_roundw
                case rel => exact ⟨k + 1, by omega, by go_num, by rw [dist_old hjk (HJ.out.trans (HQ.out.trans HB.out.symm))], _, rfl⟩
                case measure => simp [intOf]; omega
              · have hqq : (sj.toList == sk.toList) = false := by rw [same_iff]; simpa using heq
                have HQ := hid heq
                clear heq
                go_wp2
                go_quiet (fail)
                go_wp2
                go_roundw
                case rel =>
                  refine ⟨j + 1, by omega, by go_num, rfl, fun j' hj' => ?_, _, rfl⟩
                  by_cases e : j' = j
                  · subst e; rw [HJ.out, HB.out]; exact HQ.out
                  · exact HA.out j' (by omega)
                case measure => simp [intOf]; omega
            · have hjk' : j = k := by omega
              clear hjk hj
              subst hjk'
              go_wp2
              go_roundw
              case rel => exact ⟨j + 1, by omega, by go_num, by rw [dist_new (by rw [HB.out]; exact HE.out) HA.out]; go_num, _, rfl⟩
              case measure => simp [intOf]; omega
      · have hkl : k = len := by omega
        clear hk
        subst hkl
        have hl0 : ∀ n, (Instr.lookup 30 (.map (some B)) (.string ⟨#[]⟩) true).run Try.prog (w6.drewN n) = .ok (.tuple #[.bool false, .bool false]) (w6.drewN n) := fun n =>
          look_out (w := w6.drewN n) (s := ⟨#[]⟩) HD.out HT.out (by decide) (by
            cases hh : Maps.has D (.string (⟨#[]⟩ : ByteArray).data.toList) with
            | false => rfl
            | true => exact absurd rfl ((HT.out.has []).1 hh).1)
        have hsz := HT.out.size
        go_wp2_with (first
          | (at_len; refine wpList_len_own _ rfl _ 30 rfl 9 4 Try.underlying30 _ B k D rfl (show (w6.drewN nd).ownsMap _ _ _ _ _ _ from HD.out) ?_))
        go_ret
        exact ⟨rfl, below_drewN hend _⟩

theorem walk3 (c : Cfg) (hc : c.Ok) (a : Option Addr) (len cap : Nat) (ss : List ByteArray) (w : World) (hm : len ≤ 9223372036854775807) (hn : a = none → len = 0) (hr : RowS w a len ss) :
    Calls Try.prog 3 #[.agg c.cells, .slice a len cap] w fun e w' => e = .returned (.bool true) ∧ Below w.heap.size w w' := by
  cases hd : c.b11 with
  | false => exact walk3_off c hc hd a len cap ss w hm hn hr
  | true =>
    by_cases h0 : len = 0
    · subst h0; exact walk3_none c hc hd a cap ss w hr
    · exact walk3_yes c hc hd a len cap ss w hm (by omega) hn hr
end Go.Proofs.Qxb6603649a
