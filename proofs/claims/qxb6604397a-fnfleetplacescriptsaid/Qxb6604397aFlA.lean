/-
  Seat b6604397a. Floats: sums and maxima as relations on the bits; what holds of a finite number and its opposite.
-/
import Derived.Laws.FloatArith
import Derived.WalkKit
namespace Go.Proofs.Qxb6604397a
open Ieee

def NaN (r : Nat) : Prop := (double.read r).isNaN = true

/-- r is what x + y gives: its bits where the sum has any, else some NaN. -/
def FAdd (x y r : Nat) : Prop := match double.add x y with
  | some z => r = z
  | none => NaN r

/-- r is what max(x, y) gives. -/
def FMax (x y r : Nat) : Prop := match double.order x y with
  | none => NaN r
  | some .lt => r = y
  | some .gt => r = x
  | some .eq => r = if (double.read x).neg then y else x

theorem nan_cut (t : Nat) : NaN ((t % 2) * 2 ^ 63 + 0x7ff0000000000000 + 1 + (t / 2) % (2 ^ 52 - 1)) := by
  have h1 : (t / 2) % (2 ^ 52 - 1) < 2 ^ 52 - 1 := Nat.mod_lt _ (by decide)
  generalize (t / 2) % (2 ^ 52 - 1) = a at h1
  have h2 : t % 2 < 2 := Nat.mod_lt _ (by decide)
  generalize t % 2 = b at h2
  have hr : (b * 2 ^ 63 + 0x7ff0000000000000 + 1 + a) % 2 ^ 63 = 0x7ff0000000000000 + 1 + a := by omega
  unfold NaN
  simp only [Format.read, show double.signWeight = 2 ^ 63 from rfl, show double.binade = 2 ^ 52 from rfl, show double.infRung = 0x7ff0000000000000 from rfl, hr]
  rw [if_neg (by omega), if_neg (by omega), if_neg (by omega)]
  rfl

theorem isNaN_iff (d : Datum) : d.isNaN = true ↔ ∃ s f, d = .nan s f := by
  cases d <;> simp [Datum.isNaN]

theorem order_none (x y : Nat) : double.order x y = none ↔ NaN x ∨ NaN y := by
  unfold Format.order NaN
  cases double.read x <;> cases double.read y <;> simp [Datum.order, Datum.isNaN]

theorem compare_self_int (a : Int) : compare a a = .eq := by simp

theorem order_self (x : Nat) (h : ¬ NaN x) : double.order x x = some .eq := by
  unfold Format.order
  unfold NaN at h
  cases hx : double.read x with
  | nan s f => rw [hx] at h; simp [Datum.isNaN] at h
  | infinity s => simp [Datum.order]
  | number s m i => simp [Datum.order]

theorem add_nan_left (x y : Nat) (h : NaN x) : double.add x y = none := by
  obtain ⟨s, f, hf⟩ := (isNaN_iff _).1 h
  simp [Format.add, hf, Datum.sum]

section
variable {P : Program} (w : World)

theorem run_fadd (t : TypeId) (x y : Nat) : ∃ r w2, FAdd x y r ∧ (w2 = w ∨ w2 = w.drew) ∧ (binOp .add t (.float .f64 x) (.float .f64 y)).run P w = .ok (.float .f64 r) w2 := by
  cases h : double.add x y with
  | some z => exact ⟨z, w, by simp [FAdd, h], .inl rfl, run_float_arith w .add t .f64 x y z h⟩
  | none =>
    refine ⟨(Question.nanBits .f64 x y).cut (w.tape w.drawn (.nanBits .f64 x y)), w.drew, ?_, .inr rfl, ?_⟩
    · simp only [FAdd, h]
      exact nan_cut _
    · simp [binOp, Op.floatArith, FloatKind.format, h, Question.forced]

theorem run_fmax (ts : Array TypeId) (t : TypeId) (x y : Nat) (h : double.order x y ≠ none) : ∃ r, FMax x y r ∧ ∀ w, (Builtin.max_ ts t #[.float .f64 x, .float .f64 y]).run P w = .ok (.float .f64 r) w := by
  cases h' : double.order x y with
  | none => exact absurd h' h
  | some o =>
    cases o
    · exact ⟨y, by simp [FMax, h'], fun w => by simp [Builtin.max_, Builtin.max2, FloatKind.format, h']⟩
    · cases hb : (double.read x).neg
      · exact ⟨x, by simp [FMax, h', hb], fun w => by simp [Builtin.max_, Builtin.max2, FloatKind.format, FloatKind.decode, h', hb]⟩
      · exact ⟨y, by simp [FMax, h', hb], fun w => by simp [Builtin.max_, Builtin.max2, FloatKind.format, FloatKind.decode, h', hb]⟩
    · exact ⟨x, by simp [FMax, h'], fun w => by simp [Builtin.max_, Builtin.max2, FloatKind.format, h']⟩

theorem run_fmax_nan (ts : Array TypeId) (t : TypeId) (x y : Nat) (h : double.order x y = none) : ∃ r : World → Nat, (∀ w, FMax x y (r w)) ∧ ∀ w, (Builtin.max_ ts t #[.float .f64 x, .float .f64 y]).run P w = .ok (.float .f64 (r w)) w.drew := by
  refine ⟨fun w => (Question.nanMinMax .f64 true x y).cut (w.tape w.drawn (.nanMinMax .f64 true x y)), fun w => ?_, fun w => ?_⟩
  · simp only [FMax, h]
    exact nan_cut _
  · simp [Builtin.max_, Builtin.max2, FloatKind.format, h, Question.forced]

end

/-! A finite number. -/

theorem read_zero : double.read 0 = .number false 0 (-1074) := by decide

theorem log2_shl (m k : Nat) (hm : m ≠ 0) : (m <<< k).log2 = m.log2 + k := by
  rw [Nat.shiftLeft_eq]
  have hp : m * 2 ^ k ≠ 0 := Nat.mul_ne_zero hm (Nat.ne_of_gt (Nat.two_pow_pos k))
  rw [Nat.log2_eq_iff hp]
  obtain ⟨h1, h2⟩ := (Nat.log2_eq_iff hm).1 (rfl : m.log2 = m.log2)
  constructor
  · rw [Nat.pow_add]; exact Nat.mul_le_mul_right _ h1
  · rw [show m.log2 + k + 1 = (m.log2 + 1) + k by omega, Nat.pow_add]; exact Nat.mul_lt_mul_of_pos_right h2 (Nat.two_pow_pos k)

theorem nearest_exact (s : Bool) (m k : Nat) (hm : m ≠ 0) (h : (2 ^ 52 ≤ m ∧ m < 2 ^ 53) ∨ (m < 2 ^ 52 ∧ k = 0)) :
    double.nearest s (m <<< k) (-1074) = double.word s (min (k * 2 ^ 52 + m) (2047 * 2 ^ 52)) := by
  have hp : m <<< k ≠ 0 := by
    rw [Nat.shiftLeft_eq]
    exact Nat.mul_ne_zero hm (Nat.ne_of_gt (Nat.two_pow_pos k))
  unfold Format.nearest
  rw [if_neg hp]
  have hl : max (-1074 + ((m <<< k).log2 : Int) - (double.fractionBits : Int)) double.leastPlace = -1074 + (k : Int) := by
    rw [log2_shl m k hm, show double.leastPlace = -1074 from by decide, show double.fractionBits = 52 from rfl]
    rcases h with ⟨h1, h2⟩ | ⟨h1, rfl⟩
    · have : m.log2 = 52 := by
        rw [Nat.log2_eq_iff hm]; exact ⟨h1, h2⟩
      rw [this]; omega
    · have : m.log2 < 52 := (Nat.log2_lt hm).2 h1
      omega
  simp only [hl]
  rw [show (-1074 - (-1074 + (k : Int))).toNat = 0 by omega, show (-1074 + (k : Int) - -1074).toNat = k by omega, show double.leastPlace = -1074 from by decide, show (-1074 + (k : Int) - -1074).toNat = k by omega]
  have hc : Toward.even.cut s ((m <<< k) <<< 0) k = m := by
    unfold Toward.cut
    have hmin : min k (((m <<< k) <<< 0).log2 + 2) = k := by
      rw [Nat.shiftLeft_zero, log2_shl m k hm]; omega
    simp only [hmin]
    rw [Nat.shiftLeft_zero, Nat.shiftLeft_eq, Nat.shiftLeft_eq, Nat.one_mul, Nat.mul_div_cancel _ (Nat.two_pow_pos k), Nat.mul_mod_left]
    have : 0 < 2 ^ k := Nat.two_pow_pos k
    simp
  rw [hc]
  rfl

/-- The bits of a finite number, from what it stands for. -/
theorem write_read {u : Nat} (hu : u < 2 ^ 64) {s : Bool} {m : Nat} {i : Int} (h : double.read u = .number s m i) :
    -1074 ≤ i ∧ (m ≠ 0 → double.nearest s (m <<< (i + 1074).toNat) (-1074) = u) := by
  simp only [Format.read, show double.signWeight = 2 ^ 63 from rfl, show double.binade = 2 ^ 52 from rfl, show double.infRung = 2047 * 2 ^ 52 from rfl, show double.leastPlace = -1074 from by decide] at h
  have hw : ∀ r, r = u % 2 ^ 63 → double.word (u / 2 ^ 63 % 2 == 1) r = u := by
    intro r hr
    unfold Format.word
    rw [show double.signWeight = 2 ^ 63 from rfl]
    have : u / 2 ^ 63 < 2 := by omega
    by_cases hb : u / 2 ^ 63 % 2 = 1
    · rw [if_pos (by simpa using hb)]; omega
    · rw [if_neg (by simpa using hb)]; omega
  split at h
  · rename_i h1
    injection h with e1 e2 e3
    subst e2 e3 e1
    refine ⟨by omega, fun hm => ?_⟩
    rw [show (-1074 + 1074 : Int).toNat = 0 from rfl, nearest_exact _ _ _ hm (.inr ⟨h1, rfl⟩)]
    exact hw _ (by omega)
  · rename_i h1
    split at h
    · rename_i h2
      injection h with e1 e2 e3
      subst e2 e3 e1
      refine ⟨by omega, fun hm => ?_⟩
      rw [show (-1074 + ((u % 2 ^ 63 / 2 ^ 52 - 1 : Nat) : Int) + 1074).toNat = u % 2 ^ 63 / 2 ^ 52 - 1 by omega, nearest_exact _ _ _ hm (.inl ⟨by omega, by omega⟩)]
      exact hw _ (by omega)
    · split at h <;> cases h

/-- 0 + u. -/
theorem add_zero_left {u : Nat} (hu : u < 2 ^ 64) {s : Bool} {m : Nat} {i : Int} (h : double.read u = .number s m i) : double.add 0 u = some (if m = 0 then 0 else u) := by
  obtain ⟨hi, hw⟩ := write_read hu h
  unfold Format.add
  rw [read_zero, h]
  have hb : min (-1074) i = -1074 := by omega
  simp only [Datum.sum, hb, Option.map_some, Option.some.injEq]
  rw [show (i - -1074).toNat = (i + 1074).toNat by omega]
  by_cases hm : m = 0
  · subst hm
    simp [signed, Format.write, Format.nearest, Format.word]
  · have hp : m <<< (i + 1074).toNat ≠ 0 := by
      rw [Nat.shiftLeft_eq]
      exact Nat.mul_ne_zero hm (Nat.ne_of_gt (Nat.two_pow_pos _))
    rw [if_neg hm]
    have hws := hw hm
    have e0 : signed false 0 (-1074 - -1074 : Int).toNat = 0 := by simp [signed]
    rw [e0, Int.zero_add]
    obtain ⟨T, hT⟩ : ∃ T, T = signed s m (i + 1074).toNat := ⟨_, rfl⟩
    rw [← hT]
    unfold signed at hT
    generalize m <<< (i + 1074).toNat = M at hp hws hT
    have h1 : T ≠ 0 := by rw [hT]; split <;> omega
    have h2 : T.natAbs = M := by rw [hT]; split <;> omega
    have h3 : decide (T < 0) = s := by
      cases s
      · rw [decide_eq_false_iff_not, hT]; simp
      · rw [decide_eq_true_iff, hT]; simp; omega
    rw [if_neg h1, h2, h3]
    exact hws

/-- A number and its opposite. -/
theorem add_opposite {u v : Nat} {s : Bool} {m : Nat} {i : Int} (h : double.read u = .number s m i) (hv : double.read v = .number (!s) m i) : double.add u v = some 0 := by
  unfold Format.add
  rw [h, hv]
  cases s <;> simp [Datum.sum, signed, Format.write, Format.nearest, Format.word]
  all_goals
    rw [if_pos (by omega), if_neg (by omega)]

theorem add_zero_zero {v : Nat} {s : Bool} {i : Int} (hv : double.read v = .number s 0 i) : double.add 0 v = some 0 := by
  unfold Format.add
  rw [read_zero, hv]
  simp [Datum.sum, signed, Format.write, Format.nearest, Format.word]

/-- Where a finite number stands to zero. -/
theorem order_zero {u : Nat} {s : Bool} {m : Nat} {i : Int} (h : double.read u = .number s m i) :
    double.order 0 u = some (if m = 0 then .eq else if s then .gt else .lt) ∧ double.order u 0 = some (if m = 0 then .eq else if s then .lt else .gt) := by
  unfold Format.order
  rw [read_zero, h]
  simp only [Datum.order, Option.some.injEq, signed]
  have q : ∀ k, m ≠ 0 → 0 < m <<< k := fun k hm => by
    rw [Nat.shiftLeft_eq]
    exact Nat.pos_of_ne_zero (Nat.mul_ne_zero hm (Nat.ne_of_gt (Nat.two_pow_pos _)))
  have z : ∀ k, (0 : Nat) <<< k = 0 := fun k => by simp
  rw [z, z]
  by_cases hm : m = 0
  · subst hm
    simp [z]
  · have q1 := q (i - min (-1074) i).toNat hm
    have q2 := q (i - min i (-1074)).toNat hm
    generalize m <<< (i - min (-1074) i).toNat = M1 at q1
    generalize m <<< (i - min i (-1074)).toNat = M2 at q2
    rw [if_neg hm, if_neg hm]
    cases s
    · simp only [Bool.false_eq_true, if_false]
      exact ⟨by rw [Int.compare_eq_lt]; omega, by rw [Int.compare_eq_gt]; omega⟩
    · simp only [if_true, Bool.false_eq_true, if_false]
      exact ⟨by rw [Int.compare_eq_gt]; omega, by rw [Int.compare_eq_lt]; omega⟩

theorem xor_top (b : Nat) (hb : b < 2 ^ 64) : b ^^^ 2 ^ 63 = 2 ^ 63 * (1 - b / 2 ^ 63) + b % 2 ^ 63 := by
  have hr : b % 2 ^ 63 < 2 ^ 63 := Nat.mod_lt _ (by decide)
  have hq : b / 2 ^ 63 < 2 := by omega
  have hb' : b = 2 ^ 63 * (b / 2 ^ 63) + b % 2 ^ 63 := by omega
  generalize b / 2 ^ 63 = q at hq hb'
  generalize b % 2 ^ 63 = r at hr hb'
  subst hb'
  apply Nat.eq_of_testBit_eq
  intro j
  rw [Nat.testBit_xor, Nat.testBit_two_pow_mul_add q hr j, Nat.testBit_two_pow_mul_add (1 - q) hr j, Nat.testBit_two_pow]
  rcases Nat.lt_trichotomy j 63 with h | h | h
  · simp [h, show ¬ 63 = j by omega]
  · subst h
    have : q = 0 ∨ q = 1 := by omega
    rcases this with rfl | rfl <;> simp
  · rw [if_neg (by omega), if_neg (by omega), show decide (63 = j) = false by simp; omega, Bool.xor_false]
    obtain ⟨e, he⟩ : ∃ e, j - 63 = e + 1 := ⟨j - 64, by omega⟩
    rw [he]
    have : q = 0 ∨ q = 1 := by omega
    rcases this with rfl | rfl <;> simp [Nat.testBit_succ]

theorem read_neg {b : Nat} (hb : b < 2 ^ 64) {s : Bool} {m : Nat} {i : Int} (h : double.read b = .number s m i) : double.read (b ^^^ 2 ^ 63) = .number (!s) m i := by
  rw [xor_top b hb]
  have hr : b % 2 ^ 63 < 2 ^ 63 := Nat.mod_lt _ (by decide)
  have hq : b / 2 ^ 63 < 2 := by omega
  have e1 : (2 ^ 63 * (1 - b / 2 ^ 63) + b % 2 ^ 63) % 2 ^ 63 = b % 2 ^ 63 := by omega
  have e2 : ((2 ^ 63 * (1 - b / 2 ^ 63) + b % 2 ^ 63) / 2 ^ 63 % 2 == 1) = !(b / 2 ^ 63 % 2 == 1) := by
    rw [show (2 ^ 63 * (1 - b / 2 ^ 63) + b % 2 ^ 63) / 2 ^ 63 = 1 - b / 2 ^ 63 by omega]
    have : b / 2 ^ 63 = 0 ∨ b / 2 ^ 63 = 1 := by omega
    rcases this with h | h <;> rw [h] <;> decide
  simp only [Format.read, show double.signWeight = 2 ^ 63 from rfl] at h ⊢
  rw [e1, e2]
  split at h
  · rename_i h1
    rw [if_pos h1]
    injection h with a1 a2 a3
    rw [a1, a2, a3]
  · rename_i h1
    rw [if_neg h1]
    split at h
    · rename_i h2
      rw [if_pos h2]
      injection h with a1 a2 a3
      rw [a1, a2, a3]
    · split at h <;> cases h

end Go.Proofs.Qxb6604397a
