/-
  Floats: 'f == math.Trunc(f)' beside 'float64(int64(f)) == f', for every float64 of int64's range. No Go in sight.
-/
import Derived.Test.YbulkexpwyRows
import Derived.Laws.FloatArith
namespace Go.Proofs.Ybulkexpwy
open Ieee
set_option linter.unusedVariables false
set_option linter.unusedSimpArgs false

abbrev F64 : Format := FloatKind.f64.format

/-- The float64 of these bits lies within int64's range. -/
def inR (b : Nat) : Bool := (F64.order b 14114281232179134464 == some .gt || F64.order b 14114281232179134464 == some .eq) && (F64.order b 4890909195324358656 == some .lt)
/-- The float64 of these bits, cut towards zero. -/
def fint (b : Nat) : Int := (floatToIntVal .f64 b .i64).getD 0
def isInt (b : Nat) : Bool := inR b && (F64.order (FloatKind.f64.nearest (fint b)) b == some .eq)

theorem cut_zero (s : Bool) (n d : Nat) : Toward.zero.cut s n d * 2 ^ d ≤ n := by
  unfold Toward.cut
  simp only [Bool.toNat_false, Nat.add_zero, Nat.shiftLeft_eq, Nat.one_mul]
  by_cases h : d ≤ n.log2 + 2
  · rw [Nat.min_eq_left h]; exact Nat.div_mul_le_self n (2 ^ d)
  · rw [Nat.min_eq_right (by omega)]
    have : n < 2 ^ (n.log2 + 2) := Nat.lt_trans (Nat.lt_log2_self) (Nat.pow_lt_pow_right (by omega) (by omega))
    rw [Nat.div_eq_of_lt this]; omega

theorem cmp_eq (a b : Int) : (compare a b == Ordering.eq) = decide (a = b) := by
  show (compareOfLessAndEq a b == _) = _
  unfold compareOfLessAndEq
  by_cases h : a < b
  · have : a ≠ b := by omega
    simp [h, this]
  · by_cases h2 : a = b <;> simp [h, h2]
theorem cmp_lt (a b : Int) : (compare a b == Ordering.lt) = decide (a < b) := by
  show (compareOfLessAndEq a b == _) = _
  unfold compareOfLessAndEq
  by_cases h : a < b
  · simp [h]
  · by_cases h2 : a = b <;> simp [h, h2]
theorem cmp_gt (a b : Int) : (compare a b == Ordering.gt) = decide (b < a) := by
  show (compareOfLessAndEq a b == _) = _
  unfold compareOfLessAndEq
  by_cases h : a < b
  · have : ¬ b < a := by omega
    simp [h, this]
  · by_cases h2 : a = b
    · simp [h, h2]
    · have : b < a := by omega
      simp [h, h2, this]

theorem some_beq (a b : Ordering) : (some a == some b) = (a == b) := rfl

theorem read_min : F64.read 14114281232179134464 = .number true (2 ^ 52) 11 := by decide +kernel
theorem read_max : F64.read 4890909195324358656 = .number false (2 ^ 52) 11 := by decide +kernel

/-- A float within the range, cut, lies within int64. -/
theorem fint_some (b : Nat) (h : inR b = true) : ∃ s m i, F64.read b = .number s m i ∧ floatToIntVal .f64 b .i64 = some (signed s (Toward.zero.cut s (m <<< i.toNat) (-i).toNat) 0) := by
  unfold inR Format.order at h
  rw [read_min, read_max] at h
  cases hr : F64.read b with
  | nan s t => rw [hr] at h; simp [Datum.order] at h
  | infinity s => rw [hr] at h; cases s <;> simp [Datum.order] at h
  | number s m i =>
    rw [hr] at h
    refine ⟨s, m, i, rfl, ?_⟩
    simp only [Datum.order, some_beq, cmp_eq, cmp_lt, cmp_gt, Bool.and_eq_true, Bool.or_eq_true, decide_eq_true_eq] at h
    obtain ⟨h1, h2⟩ := h
    have hq := cut_zero s (m <<< i.toNat) (-i).toNat
    unfold floatToIntVal
    have hr' : FloatKind.f64.decode b = .number s m i := hr
    rw [hr']
    simp only [Datum.toInt, Datum.integral]
    generalize Toward.zero.cut s (m <<< i.toNat) (-i).toNat = q at hq ⊢
    have hb : q ≤ 2 ^ 63 ∧ (s = false → q < 2 ^ 63) := by
      simp only [Nat.shiftLeft_eq] at hq
      simp only [signed, Nat.shiftLeft_eq] at h1 h2
      obtain ⟨e, e1, e2⟩ : ∃ e : Nat, i.toNat = (i - min i 11).toNat + e ∧ 52 + (11 - min i 11).toNat + e = 63 + (-i).toNat := by
        by_cases hi : i ≤ 11
        · by_cases h0 : 0 ≤ i
          · exact ⟨i.toNat, by rw [Int.min_eq_left hi]; omega, by rw [Int.min_eq_left hi]; omega⟩
          · exact ⟨0, by rw [Int.min_eq_left hi]; omega, by rw [Int.min_eq_left hi]; omega⟩
        · exact ⟨11, by rw [Int.min_eq_right (by omega)]; omega, by rw [Int.min_eq_right (by omega)]; omega⟩
      have hp : 2 ^ 52 * 2 ^ (11 - min i 11).toNat * 2 ^ e = 2 ^ 63 * 2 ^ (-i).toNat := by rw [← Nat.pow_add, ← Nat.pow_add, ← Nat.pow_add, e2]
      rw [e1, Nat.pow_add, ← Nat.mul_assoc] at hq
      generalize hX : m * 2 ^ (i - min i 11).toNat = X at *
      generalize hY : 2 ^ 52 * 2 ^ (11 - min i 11).toNat = Y at *
      have hpk : 0 < 2 ^ (-i).toNat := Nat.pow_pos (by omega)
      have hpe : 0 < 2 ^ e := Nat.pow_pos (by omega)
      cases s with
      | false =>
        simp only [Bool.false_eq_true, if_false, if_true] at h1 h2
        have hXY : X < Y := by omega
        have : q * 2 ^ (-i).toNat < 2 ^ 63 * 2 ^ (-i).toNat := Nat.lt_of_le_of_lt hq (hp ▸ Nat.mul_lt_mul_of_pos_right hXY hpe)
        have := Nat.lt_of_mul_lt_mul_right this
        exact ⟨by omega, fun _ => this⟩
      | true =>
        simp only [Bool.false_eq_true, if_false, if_true] at h1 h2
        have hXY : X ≤ Y := by omega
        have : q * 2 ^ (-i).toNat ≤ 2 ^ 63 * 2 ^ (-i).toNat := Nat.le_trans hq (hp ▸ Nat.mul_le_mul_right _ hXY)
        exact ⟨Nat.le_of_mul_le_mul_right this hpk, fun h => by cases h⟩
    have : IntKind.i64.min ≤ signed s q 0 ∧ signed s q 0 ≤ IntKind.i64.max := by
      have e1 : IntKind.i64.min = -(2 ^ 63 : Nat) := by decide
      have e2 : IntKind.i64.max = (2 ^ 63 : Nat) - 1 := by decide
      rw [e1, e2]
      simp only [signed, Nat.shiftLeft_zero]
      cases s with
      | false => have := hb.2 rfl; simp only [Bool.false_eq_true, if_false]; omega
      | true => have := hb.1; simp only [if_true]; omega
    rw [if_pos this]

theorem order_eq_comm (d e : Datum) : (d.order e == some .eq) = (e.order d == some .eq) := by
  cases d with
  | nan s t => cases e <;> rfl
  | infinity s =>
    cases e with
    | nan => rfl
    | infinity t => cases s <;> cases t <;> rfl
    | number t n j => cases s <;> rfl
  | number s m i =>
    cases e with
    | nan => rfl
    | infinity t => cases t <;> rfl
    | number t n j =>
      simp only [Datum.order, some_beq, cmp_eq]
      rw [Int.min_comm i j, Bool.eq_iff_iff, decide_eq_true_eq, decide_eq_true_eq]
      exact eq_comm

theorem signed_zero (s : Bool) (k : Nat) : signed s 0 k = 0 := by cases s <;> simp [signed]

theorem order_zero (s t t' : Bool) (m : Nat) (i j : Int) : (Datum.number s m i).order (.number t 0 j) = (Datum.number s m i).order (.number t' 0 j) := by
  simp only [Datum.order, signed_zero]

theorem read_zero (s : Bool) : F64.read (F64.word s 0) = .number s 0 F64.leastPlace := by cases s <;> decide +kernel

/-- 'f == math.Trunc(f)' just where 'float64(int64(f)) == f'. -/
theorem trunc_same (b : Nat) (h : inR b = true) : (F64.order b (FloatKind.f64.encode ((FloatKind.f64.decode b).integral .zero)) == some .eq) = (F64.order (FloatKind.f64.nearest (fint b)) b == some .eq) := by
  obtain ⟨s, m, i, hr, hf⟩ := fint_some b h
  have hr' : FloatKind.f64.decode b = .number s m i := hr
  unfold fint
  rw [hf, hr', Option.getD_some]
  simp only [Datum.integral]
  generalize Toward.zero.cut s (m <<< i.toNat) (-i).toNat = q
  show (Datum.order (F64.read b) (F64.read (F64.nearest s q 0)) == some .eq) = (Datum.order (F64.read (F64.nearest (signed s q 0 < 0) (signed s q 0).natAbs 0)) (F64.read b) == some .eq)
  rw [order_eq_comm (F64.read (F64.nearest (signed s q 0 < 0) (signed s q 0).natAbs 0)), hr]
  rcases Nat.eq_zero_or_pos q with rfl | hq
  · rw [signed_zero]
    have e1 : ∀ s, F64.nearest s 0 0 = F64.word s 0 := fun s => by simp [Format.nearest]
    rw [e1, Int.natAbs_zero, e1, read_zero, read_zero, order_zero]
  · cases s with
    | false =>
      have : signed false q 0 = (q : Int) := by simp [signed]
      rw [this]
      have h2 : decide ((q : Int) < 0) = false := by simp
      rw [h2, Int.natAbs_natCast]
    | true =>
      have : signed true q 0 = -(q : Int) := by simp [signed]
      rw [this]
      have h2 : decide (-(q : Int) < 0) = true := by simp; omega
      rw [h2, Int.natAbs_neg, Int.natAbs_natCast]

theorem fint_eq (b : Nat) (h : inR b = true) : floatToIntVal .f64 b .i64 = some (fint b) := by
  obtain ⟨s, m, i, hr, hf⟩ := fint_some b h
  unfold fint
  rw [hf, Option.getD_some]

end Go.Proofs.Ybulkexpwy
