/-
  FLOATS AS SCALED WHOLE NUMBERS: 'sc n' is what the bits n stand for, times 2 ^ 1074; comparisons and int(x) said of it.
-/
import Derived.Test.YtbcnhcpgloncdaaGreatDoorFl
namespace Go.Proofs.YtbcnhcpgloncdaaGreatDoor
open Go.RowKit
open Ieee (Datum)

def E0 : Nat := 1074
theorem E0_is : E0 = 1074 := rfl
/-- What 1 is. -/
def U : Int := ((2 ^ E0 : Nat) : Int)
theorem U_pos : 0 < U := by unfold U; exact Int.natCast_pos.2 (Nat.two_pow_pos _)

def sc (n : Nat) : Int := match dbl.read n with
  | .number s m i => Ieee.signed s m (i + 1074).toNat
  | _ => 0
def isNum (n : Nat) : Bool := match dbl.read n with
  | .number .. => true
  | _ => false

theorem signed_add (s : Bool) (m a k : Nat) : Ieee.signed s m (a + k) = Ieee.signed s m a * 2 ^ k := by
  have h : m <<< (a + k) = m <<< a * 2 ^ k := by rw [Nat.shiftLeft_eq, Nat.shiftLeft_eq, Nat.pow_add, Nat.mul_assoc]
  cases s <;> simp [Ieee.signed, h, Int.neg_mul]

theorem read_place {n : Nat} {s : Bool} {m : Nat} {i : Int} (h : dbl.read n = .number s m i) : -1074 ≤ i := by
  unfold Ieee.Format.read at h
  have e : dbl.leastPlace = -1074 := by decide
  rw [e] at h
  dsimp only at h
  split at h
  · cases h; omega
  · split at h
    · cases h; omega
    · split at h <;> cases h

theorem compare_mul (a b : Int) (p : Nat) (hp : 0 < p) : compare (a * p) (b * p) = compare a b := by
  rcases Int.lt_trichotomy a b with h | h | h
  · rw [(Int.compare_eq_lt).2 h, (Int.compare_eq_lt).2 (Int.mul_lt_mul_of_pos_right h (by omega))]
  · subst h; simp
  · rw [(Int.compare_eq_gt).2 h, (Int.compare_eq_gt).2 (Int.mul_lt_mul_of_pos_right h (by omega))]

theorem order_num {x y : Nat} (hx : isNum x = true) (hy : isNum y = true) : dbl.order x y = some (compare (sc x) (sc y)) := by
  unfold isNum at hx hy
  unfold Ieee.Format.order sc
  cases h1 : dbl.read x with
  | number s m i =>
    cases h2 : dbl.read y with
    | number t n j =>
      have p1 := read_place h1
      have p2 := read_place h2
      simp only [Datum.order]
      have e1 : (i + 1074).toNat = (i - min i j).toNat + (min i j + 1074).toNat := by omega
      have e2 : (j + 1074).toNat = (j - min i j).toNat + (min i j + 1074).toNat := by omega
      rw [e1, e2, signed_add, signed_add]
      have := compare_mul (Ieee.signed s m (i - min i j).toNat) (Ieee.signed t n (j - min i j).toNat) (2 ^ (min i j + 1074).toNat) (Nat.two_pow_pos _)
      rw [← this]
      simp
    | infinity _ => rw [h2] at hy; cases hy
    | nan _ _ => rw [h2] at hy; cases hy
  | infinity _ => rw [h1] at hx; cases hx
  | nan _ _ => rw [h1] at hx; cases hx

theorem fin_num (n : Nat) : fin n = isNum n := by
  unfold fin isNum Ieee.Format.sub
  cases h : dbl.read n with
  | number s m i => simp [Datum.opposite, Datum.sum]
  | infinity s => cases s <;> simp [Datum.opposite, Datum.sum]
  | nan s f => simp [Datum.sum]

theorem cut_zero (s : Bool) (n d : Nat) : Ieee.Toward.cut .zero s n d = n / 2 ^ d := by
  unfold Ieee.Toward.cut
  simp only [Bool.toNat_false, Nat.add_zero]
  rw [Nat.shiftLeft_eq, Nat.one_mul]
  rcases Nat.le_total d (n.log2 + 2) with h | h
  · rw [Nat.min_eq_left h]
  · rw [Nat.min_eq_right h]
    have hlt : n < 2 ^ (n.log2 + 2) := Nat.lt_of_lt_of_le Nat.lt_log2_self (Nat.pow_le_pow_right (by omega) (by omega))
    rw [Nat.div_eq_of_lt hlt, Nat.div_eq_of_lt (Nat.lt_of_lt_of_le hlt (Nat.pow_le_pow_right (by omega) h))]

theorem toInt_sc {n : Nat} (hn : isNum n = true) (h0 : 0 ≤ sc n) : (FloatKind.f64.decode n).toInt .zero = some (sc n / U) := by
  unfold U
  show (dbl.read n).toInt .zero = _
  unfold isNum at hn
  unfold sc at *
  cases h : dbl.read n with
  | number s m i =>
    rw [h] at h0
    have p := read_place h
    simp only at h0
    simp only [Datum.toInt, Datum.integral, cut_zero, Option.some.injEq]
    have key : ∀ m' : Nat, (m' <<< i.toNat / 2 ^ (-i).toNat : Nat) = (m' <<< (i + 1074).toNat) / 2 ^ E0 := by
      intro m'
      have hE := E0_is
      rw [Nat.shiftLeft_eq, Nat.shiftLeft_eq]
      rcases Int.le_total 0 i with hi | hi
      · have e1 : (-i).toNat = 0 := by omega
        have e2 : (i + 1074).toNat = i.toNat + E0 := by omega
        rw [e1, e2, Nat.pow_zero, Nat.div_one, Nat.pow_add, ← Nat.mul_assoc, Nat.mul_div_cancel _ (Nat.two_pow_pos _)]
      · have e1 : i.toNat = 0 := by omega
        have e2 : E0 = (i + 1074).toNat + (-i).toNat := by omega
        rw [e1, Nat.pow_zero, Nat.mul_one]
        rw [show (2 : Nat) ^ E0 = 2 ^ (i + 1074).toNat * 2 ^ (-i).toNat by rw [← Nat.pow_add]; exact congrArg _ e2]
        rw [Nat.mul_comm m', Nat.mul_div_mul_left _ _ (Nat.two_pow_pos _)]
    cases s with
    | false =>
      simp only [Ieee.signed]
      rw [key]
      simp
    | true =>
      simp only [Ieee.signed, if_true] at h0 ⊢
      have hz : m = 0 := by
        rcases Nat.eq_zero_or_pos m with h | h
        · exact h
        · have : 0 < m <<< (i + 1074).toNat := by rw [Nat.shiftLeft_eq]; exact Nat.mul_pos h (Nat.two_pow_pos _)
          omega
      subst hz
      simp
  | infinity _ => rw [h] at hn; cases hn
  | nan _ _ => rw [h] at hn; cases hn

/-- A number from 0 to 1000000: what int(x) is. -/
theorem int_small {n : Nat} (hn : isNum n = true) (h0 : 0 ≤ sc n) (h1 : sc n ≤ 1000000 * U) : floatToIntVal .f64 n .i64 = some (sc n / U) ∧ 0 ≤ sc n / U ∧ sc n / U ≤ 1000000 := by
  have a0 : 0 ≤ sc n / U := Int.ediv_nonneg h0 (Int.le_of_lt U_pos)
  have a1 : sc n / U ≤ 1000000 := Int.ediv_le_of_le_mul U_pos h1
  refine ⟨?_, a0, a1⟩
  unfold floatToIntVal
  rw [toInt_sc hn h0]
  simp only
  rw [if_pos]
  exact ⟨Int.le_trans (by decide) a0, Int.le_trans a1 (by decide)⟩
end Go.Proofs.YtbcnhcpgloncdaaGreatDoor
