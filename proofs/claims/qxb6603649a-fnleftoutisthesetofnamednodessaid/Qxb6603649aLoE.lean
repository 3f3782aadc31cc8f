/-
  Seat b6603649a. FnLeftOutSparesExactlyTheNamedNodes (4), walked.
-/
import Derived.Test.Qxb6603649aLoD
namespace Go.Proofs.Qxb6603649a
open Go.RowKit Go.WideMaps Go.Maps

theorem size24 : (Try.prog.info? 24).map (·.size) = some 18 := by kernel_rfl

/-- The law's own copy of its first argument stands where it was laid; nothing older has turned. -/
def Kept (w : World) (c : Cfg) (w' : World) : Prop := Below (w.heap.size + 1) (w.alloc (.cells c.cells 24)) w'

theorem Kept.start (w : World) (c : Cfg) : Kept w c (w.alloc (.cells c.cells 24)) := Below.refl _ _
theorem Kept.step {w : World} {c : Cfg} {w1 w2 : World} (h : Kept w c w1) (hb : Below w1.heap.size w1 w2) : Kept w c w2 :=
  Below.trans h (hb.mono (by have := Below.size h; simp at this; omega))
theorem Kept.below {w : World} {c : Cfg} {w1 : World} (h : Kept w c w1) : Below w.heap.size w w1 :=
  ((Below.refl _ _).alloc (Nat.le_refl _) _).trans (Below.mono h (by omega))
theorem Kept.row {w : World} {c : Cfg} {w1 : World} (h : Kept w c w1) {a : Option Addr} {len : Nat} {ss : List ByteArray} (hr : RowS w a len ss) : RowS w1 a len ss := hr.below h.below
theorem Kept.block {w : World} {c : Cfg} {w1 : World} (h : Kept w c w1) : w1.heap[w.heap.size]? = some (.cells c.cells 24 (0, 0)) :=
  (Below.block h _ (by omega)).trans (heap_alloc_new _ _)
theorem Kept.dd {w : World} {c : Cfg} {w1 : World} (h : Kept w c w1) : w1.cell? ⟨w.heap.size, 11, none⟩ = some (.bool c.b11) := by
  rw [cell_of_row w1 _ _ _ 24 (0, 0) h.block]; rfl

theorem cells24 (c : Cfg) : (Try.prog.info? 24).map (·.size) = some c.cells.size := size24

set_option maxRecDepth 100000 in
set_option maxHeartbeats 1000000 in
theorem walk4_off (c : Cfg) (hc : c.Ok) (hd : c.b11 = false) (a : Option Addr) (len cap : Nat) (ss : List ByteArray) (pr : ByteArray) (hp : pr.size ≤ 9223372036854775807) (w : World) (hm : len ≤ 9223372036854775807) (hn : a = none → len = 0) (hr : RowS w a len ss) :
    Calls Try.prog 4 #[.agg c.cells, .slice a len cap, .string pr] w fun e w' => e = .returned (.bool true) ∧ Below w.heap.size w w' := by
  have hs : c.cells.size = 18 := rfl
  have hk0 := Kept.start w c
  have HN := hid hn
  have HS := hid (cells24 c)
  have hlk := fun wx => look_no (w := wx) hp
  clear hn
  go_enter Try.func4, Try.ntmps4
  go_wp2_with (first
    | (with_reducible show wpList _ _ _ (Oper.mk _ (Op.load 24 _) _ _ _ _ :: _) _ _; refine wpList_load_row rfl 24 _ rfl w.heap.size rfl 24 c.cells (0, 0) _ (Kept.block (by assumption)) Try.underlying24 rfl HS.out ?_)
    | (go_at_call 13; refine (bytes13 c hc _ _ _ ss pr hp _ hm (hk0.row hr)).mono ?_; rintro e w1 ⟨⟨r, rfl⟩, hb1⟩; have hk1 := hk0.step hb1; cases r)
    | (go_at_call 8; refine (bytes8 c hc _ _ _ ss pr hp _ (by omega) (hk1.row hr)).mono ?_; rintro e w2 ⟨⟨r, rfl, hr0, hr1⟩, hb2⟩; have hk2 := hk1.step hb2)
    | (go_at_call 9; refine (refs9 c _).mono ?_; rintro e w3 ⟨⟨r, rfl⟩, hb3⟩; have hk3 := hk2.step hb3; cases r)
    | (go_at_call 10; refine (copyStrings _ _ _ ss _ (by omega) HN.out (hk3.row hr)).mono ?_; rintro e w4 ⟨a2, rfl, hr4, hb4⟩; have hk4 := hk3.step hb4)
    | (go_at_call 12; refine (config12 c _).mono ?_; rintro e w5 ⟨⟨cs, rfl, hcs⟩, hb5⟩; have hk5 := hk4.step hb5; rw [hd] at hcs)
    | (go_at_call 11; refine (zleftOut_off cs hcs _ _ _ _).mono ?_; rintro e w6 ⟨hnm, hb6⟩; unfold NoMap at hnm; subst hnm; have hk6 := hk5.step hb6; have hdd := hk6.dd; rw [hd] at hdd))
  all_goals go_ret
  · exact ⟨rfl, hk1.below⟩
  · exact ⟨rfl, hk1.below⟩
  · exact ⟨rfl, hk2.below⟩
  · exact ⟨rfl, hk3.below⟩
  · exact ⟨rfl, hk6.below⟩

set_option maxRecDepth 100000 in
set_option maxHeartbeats 1000000 in
theorem walk4_none (c : Cfg) (hc : c.Ok) (hd : c.b11 = true) (a : Option Addr) (cap : Nat) (ss : List ByteArray) (pr : ByteArray) (hp : pr.size ≤ 9223372036854775807) (w : World) (hr : RowS w a 0 ss) :
    Calls Try.prog 4 #[.agg c.cells, .slice a 0 cap, .string pr] w fun e w' => e = .returned (.bool true) ∧ Below w.heap.size w w' := by
  have hs : c.cells.size = 18 := rfl
  have hk0 := Kept.start w c
  have HS := hid (cells24 c)
  have hlk := fun wx => look_no (w := wx) hp
  have hm : 0 ≤ 9223372036854775807 := by omega
  cases hpe : pr.toList.isEmpty
  all_goals
    go_enter Try.func4, Try.ntmps4
    go_wp2_with (first
      | (with_reducible show wpList _ _ _ (Oper.mk _ (Op.load 24 _) _ _ _ _ :: _) _ _; refine wpList_load_row rfl 24 _ rfl w.heap.size rfl 24 c.cells (0, 0) _ (Kept.block (by assumption)) Try.underlying24 rfl HS.out ?_)
      | (go_at_call 13; refine (bytes13 c hc _ _ _ ss pr hp _ hm (hk0.row hr)).mono ?_; rintro e w1 ⟨⟨r, rfl⟩, hb1⟩; have hk1 := hk0.step hb1; cases r)
      | (go_at_call 8; refine (bytes8 c hc _ _ _ ss pr hp _ (by omega) (hk1.row hr)).mono ?_; rintro e w2 ⟨⟨r, rfl, hr0, hr1⟩, hb2⟩; have hk2 := hk1.step hb2)
      | (go_at_call 9; refine (refs9 c _).mono ?_; rintro e w3 ⟨⟨r, rfl⟩, hb3⟩; have hk3 := hk2.step hb3; cases r)
      | (go_at_call 10; refine (copyStrings _ _ _ ss _ (by omega) (fun _ => rfl) (hk3.row hr)).mono ?_; rintro e w4 ⟨a2, rfl, hr4, hb4⟩; have hk4 := hk3.step hb4)
      | (go_at_call 12; refine (config12 c _).mono ?_; rintro e w5 ⟨⟨cs, rfl, hcs⟩, hb5⟩; have hk5 := hk4.step hb5; rw [hd] at hcs)
      | (go_at_call 11; refine (zleftOut_none cs hcs _ _ _).mono ?_; rintro e w6 ⟨hnm, hb6⟩; unfold NoMap at hnm; subst hnm; have hk6 := hk5.step hb6; have hdd := hk6.dd; rw [hd] at hdd))
  · go_ret; exact ⟨rfl, hk1.below⟩
  · go_ret; exact ⟨rfl, hk2.below⟩
  · go_ret; exact ⟨rfl, hk3.below⟩
  · refine wp_loop_rounds 1 ?_
    rw [rounds_succ]
    go_wp2
    go_ret
    exact ⟨rfl, hk6.below⟩
  · go_ret; exact ⟨rfl, hk1.below⟩
  · go_ret; exact ⟨rfl, hk2.below⟩
  · go_ret; exact ⟨rfl, hk3.below⟩
  · go_ret; exact ⟨rfl, hk6.below⟩

theorem len_pos_bytes {s : ByteArray} (h : s.toList.isEmpty = false) : s.data.toList ≠ [] := by
  rw [ByteArray.toList_eq] at h; intro e; rw [e] at h; cases h

theorem same_iff (s t : ByteArray) : (s.toList == t.toList) = decide (s.data.toList = t.data.toList) := by
  rw [ByteArray.toList_eq, ByteArray.toList_eq]; exact Bool.eq_iff_iff.2 (by simp)

set_option maxRecDepth 100000 in
set_option maxHeartbeats 1000000 in
theorem walk4_empty (c : Cfg) (hc : c.Ok) (hd : c.b11 = true) (a : Option Addr) (len cap : Nat) (ss : List ByteArray) (pr : ByteArray) (hp : pr.size ≤ 9223372036854775807) (w : World) (hm : len ≤ 9223372036854775807) (h0 : 0 < len) (hn : a = none → len = 0) (hr : RowS w a len ss)
    (hpe : pr.toList.isEmpty = true) :
    Calls Try.prog 4 #[.agg c.cells, .slice a len cap, .string pr] w fun e w' => e = .returned (.bool true) ∧ Below w.heap.size w w' := by
  have hs : c.cells.size = 18 := rfl
  have hk0 := Kept.start w c
  have HN := hid hn
  have HS := hid (cells24 c)
  have hpn : pr.data.toList = [] := by rw [← ByteArray.toList_eq]; simpa using hpe
  have HP := hid hpn
  clear hn hpn
  go_enter Try.func4, Try.ntmps4
  go_wp2_with (first
    | (with_reducible show wpList _ _ _ (Oper.mk _ (Op.load 24 _) _ _ _ _ :: _) _ _; refine wpList_load_row rfl 24 _ rfl w.heap.size rfl 24 c.cells (0, 0) _ (Kept.block (by assumption)) Try.underlying24 rfl HS.out ?_)
    | (go_at_call 13; refine (bytes13 c hc _ _ _ ss pr hp _ hm (hk0.row hr)).mono ?_; rintro e w1 ⟨⟨r, rfl⟩, hb1⟩; have hk1 := hk0.step hb1; cases r)
    | (go_at_call 8; refine (bytes8 c hc _ _ _ ss pr hp _ (by omega) (hk1.row hr)).mono ?_; rintro e w2 ⟨⟨r, rfl, hr0, hr1⟩, hb2⟩; have hk2 := hk1.step hb2)
    | (go_at_call 9; refine (refs9 c _).mono ?_; rintro e w3 ⟨⟨r, rfl⟩, hb3⟩; have hk3 := hk2.step hb3; cases r)
    | (go_at_call 10; refine (copyStrings _ _ _ ss _ (by omega) HN.out (hk3.row hr)).mono ?_; rintro e w4 ⟨a2, rfl, hr4, hb4⟩; have hk4 := hk3.step hb4)
    | (go_at_call 12; refine (config12 c _).mono ?_; rintro e w5 ⟨⟨cs, rfl, hcs⟩, hb5⟩; have hk5 := hk4.step hb5; rw [hd] at hcs)
    | (go_at_call 11; refine (zleftOut_yes cs hcs _ _ _ ss _ h0 (by omega) (hr4.below hb5)).mono ?_; rintro e w6 ⟨⟨B, D, rfl, hB, hown, hset⟩, hb6⟩; have hk6 := hk5.step hb6; have hdd := hk6.dd; rw [hd] at hdd; have hlk := look_out hown hset hp (by rw [HP.out]; cases hh : Maps.has D (.string []) with | false => rfl | true => exact absurd rfl ((hset.has []).1 hh).1)))
  all_goals go_ret
  · exact ⟨rfl, hk1.below⟩
  · exact ⟨rfl, hk1.below⟩
  · exact ⟨rfl, hk2.below⟩
  · exact ⟨rfl, hk3.below⟩
  · exact ⟨rfl, hk6.below⟩

set_option maxRecDepth 100000 in
set_option maxHeartbeats 1000000 in
theorem walk4_yes (c : Cfg) (hc : c.Ok) (hd : c.b11 = true) (a : Option Addr) (len cap : Nat) (ss : List ByteArray) (pr : ByteArray) (hp : pr.size ≤ 9223372036854775807) (w : World) (hm : len ≤ 9223372036854775807) (h0 : 0 < len) (hn : a = none → len = 0) (hr : RowS w a len ss)
    (hpe : pr.toList.isEmpty = false) :
    Calls Try.prog 4 #[.agg c.cells, .slice a len cap, .string pr] w fun e w' => e = .returned (.bool true) ∧ Below w.heap.size w w' := by
  have hs : c.cells.size = 18 := rfl
  have hk0 := Kept.start w c
  have HN := hid hn
  have HS := hid (cells24 c)
  have HP := hid (len_pos_bytes hpe)
  clear hn
  go_enter Try.func4, Try.ntmps4
  go_wp2_with (first
    | (with_reducible show wpList _ _ _ (Oper.mk _ (Op.load 24 _) _ _ _ _ :: _) _ _; refine wpList_load_row rfl 24 _ rfl w.heap.size rfl 24 c.cells (0, 0) _ (Kept.block (by assumption)) Try.underlying24 rfl HS.out ?_)
    | (go_at_call 13; refine (bytes13 c hc _ _ _ ss pr hp _ hm (hk0.row hr)).mono ?_; rintro e w1 ⟨⟨r, rfl⟩, hb1⟩; have hk1 := hk0.step hb1; cases r)
    | (go_at_call 8; refine (bytes8 c hc _ _ _ ss pr hp _ (by omega) (hk1.row hr)).mono ?_; rintro e w2 ⟨⟨r, rfl, hr0, hr1⟩, hb2⟩; have hk2 := hk1.step hb2)
    | (go_at_call 9; refine (refs9 c _).mono ?_; rintro e w3 ⟨⟨r, rfl⟩, hb3⟩; have hk3 := hk2.step hb3; cases r)
    | (go_at_call 10; refine (copyStrings _ _ _ ss _ (by omega) HN.out (hk3.row hr)).mono ?_; rintro e w4 ⟨a2, rfl, hr4, hb4⟩; have hk4 := hk3.step hb4)
    | (go_at_call 12; refine (config12 c _).mono ?_; rintro e w5 ⟨⟨cs, rfl, hcs⟩, hb5⟩; have hk5 := hk4.step hb5; rw [hd] at hcs)
    | (go_at_call 11; refine (zleftOut_yes cs hcs _ _ _ ss _ h0 (by omega) (hr4.below hb5)).mono ?_; rintro e w6 ⟨⟨B, D, rfl, hB, hown, hset⟩, hb6⟩; have hk6 := hk5.step hb6; have hdd := hk6.dd; rw [hd] at hdd))
  · go_ret; exact ⟨rfl, hk1.below⟩
  · go_ret; exact ⟨rfl, hk1.below⟩
  · go_ret; exact ⟨rfl, hk2.below⟩
  · go_ret; exact ⟨rfl, hk3.below⟩
  · obtain ⟨b2, off2, rfl, hlt2, hc2⟩ := (hr4.below hb5) h0
    have HC := hid hc2
    clear hc2
    go_loop [8, 9] (fun t i => ∃ k : Nat, k ≤ len ∧ i = .int .i64 k ∧ t = .bool false ∧ ∀ j, j < k → bytesAt ss j ≠ pr.data.toList) (fun _ i => len - (intOf i).toNat)
    case atStart => exact ⟨0, Nat.zero_le _, rfl, rfl, fun j hj => by omega⟩
    case round =>
      obtain ⟨k, hk, rfl, rfl, hall⟩ := hrel
      have HA := hid hall
      clear hall
      by_cases hlt : k < len
      · obtain ⟨sk, hsk⟩ : ∃ z, z = ss.getD k ByteArray.empty := ⟨_, rfl⟩
        have hck : w6.cell? ⟨b2, off2 + k, none⟩ = some (.string sk) := by rw [hb6.cell (by exact hlt2), (HC.out k hlt).1, hsk]
        have HB := hid (show bytesAt ss k = sk.data.toList by rw [hsk]; rfl)
        clear hsk
        by_cases he : sk.data.toList = pr.data.toList
        · have hq : (sk.toList == pr.toList) = true := by rw [same_iff]; simpa using he
          have hlk := look_in hown hset hp ((hset.has _).2 ⟨HP.out, k, hlt, HB.out.trans he⟩)
          clear he
          go_wp2
          go_ret
          exact ⟨rfl, hk6.below⟩
        · have hq : (sk.toList == pr.toList) = false := by rw [same_iff]; simpa using he
          have HE := hid he
          clear he
          go_wp2
          go_round
          case rel =>
            refine ⟨k + 1, by omega, by go_num, rfl, fun j hj => ?_⟩
            by_cases e : j = k
            · subst e; rw [HB.out]; exact HE.out
            · exact HA.out j (by omega)
          case measure => simp [intOf]; omega
      · have hkl : k = len := by omega
        clear hk
        subst hkl
        have hlk := look_out hown hset hp (by
          cases hh : Maps.has D (.string pr.data.toList) with
          | false => rfl
          | true => obtain ⟨_, j, hj, e⟩ := (hset.has _).1 hh; exact absurd e (HA.out j hj))
        go_wp2
        go_ret
        exact ⟨rfl, hk6.below⟩

theorem walk4 (c : Cfg) (hc : c.Ok) (a : Option Addr) (len cap : Nat) (ss : List ByteArray) (pr : ByteArray) (hp : pr.size ≤ 9223372036854775807) (w : World) (hm : len ≤ 9223372036854775807) (hn : a = none → len = 0) (hr : RowS w a len ss) :
    Calls Try.prog 4 #[.agg c.cells, .slice a len cap, .string pr] w fun e w' => e = .returned (.bool true) ∧ Below w.heap.size w w' := by
  cases hd : c.b11 with
  | false => exact walk4_off c hc hd a len cap ss pr hp w hm hn hr
  | true =>
    by_cases h0 : len = 0
    · subst h0; exact walk4_none c hc hd a cap ss pr hp w hr
    · cases hpe : pr.toList.isEmpty with
      | true => exact walk4_empty c hc hd a len cap ss pr hp w hm (by omega) hn hr hpe
      | false => exact walk4_yes c hc hd a len cap ss pr hp w hm (by omega) hn hr hpe
end Go.Proofs.Qxb6603649a
