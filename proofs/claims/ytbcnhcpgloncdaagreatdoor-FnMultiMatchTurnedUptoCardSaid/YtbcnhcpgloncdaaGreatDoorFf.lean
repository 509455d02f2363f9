/-
  FormatFloat AT A BOOST: the text, and what the code reckons.
-/
import Derived.Test.YtbcnhcpgloncdaaGreatDoorBo
import Derived.Lib.ItoaNum
namespace Go.Proofs.YtbcnhcpgloncdaaGreatDoor
open Go.RowKit
/-- What x is, times 64. -/
def kOf (x : Nat) : Nat := (2 ^ 52 + x % 2 ^ 52) / 2 ^ (52 - (x % 2 ^ 63 / 2 ^ 52 - 1017))
/-- d / 10^6 with six places. -/
def fText (d : Nat) : List UInt8 :=
  (if 6 < (Lib.decDigits d).length then (Lib.decDigits d).take ((Lib.decDigits d).length - 6) else [48]) ++ (46 :: (List.replicate (6 - (Lib.decDigits d).length) 48 ++ (Lib.decDigits d).drop ((Lib.decDigits d).length - 6)))
/-- The text that FormatFloat gives of a boost. -/
def bText (x : Nat) : List UInt8 := fText (kOf x * 15625)

theorem kOf_eq {x k L : Nat} (hL : L ≤ 15) (h1 : 2 ^ L ≤ k) (h2 : k < 2 ^ (L + 1)) (h : x % 2 ^ 63 = (L + 1016) * 2 ^ 52 + k * 2 ^ (52 - L)) : kOf x = k := by
  have a1 : 2 ^ 52 ≤ k * 2 ^ (52 - L) := by
    calc 2 ^ 52 = 2 ^ L * 2 ^ (52 - L) := by rw [← Nat.pow_add, show L + (52 - L) = 52 by omega]
      _ ≤ _ := Nat.mul_le_mul_right _ h1
  have a2 : k * 2 ^ (52 - L) < 2 ^ 53 := by
    calc k * 2 ^ (52 - L) < 2 ^ (L + 1) * 2 ^ (52 - L) := Nat.mul_lt_mul_of_pos_right h2 (Nat.two_pow_pos _)
      _ = 2 ^ 53 := by rw [← Nat.pow_add, show L + 1 + (52 - L) = 53 by omega]
  have hp := Nat.two_pow_pos (52 - L)
  have e1 : x % 2 ^ 63 / 2 ^ 52 = L + 1017 := by
    generalize k * 2 ^ (52 - L) = y at *
    omega
  have e2 : 2 ^ 52 + x % 2 ^ 52 = k * 2 ^ (52 - L) := by
    have : x % 2 ^ 52 = x % 2 ^ 63 % 2 ^ 52 := by rw [Nat.mod_mod_of_dvd _ (by decide)]
    generalize k * 2 ^ (52 - L) = y at *
    omega
  unfold kOf
  rw [e1, e2, show L + 1017 - 1017 = L by omega, Nat.mul_div_cancel _ hp]

theorem pad_zeros : ∀ (l : List UInt8) (n : Nat), (∀ i c, n ≤ i → l[i]? = some c → c = 48) → l.take n ++ List.replicate (l.length - n) 48 = l
  | [], n, _ => by simp
  | c :: l, 0, h => by
    simp only [List.take_zero, List.nil_append, List.length_cons, Nat.sub_zero, List.replicate_succ]
    rw [h 0 c (Nat.le_refl _) rfl]
    have := pad_zeros l 0 (fun i c _ hc => h (i + 1) c (Nat.zero_le _) (by simpa using hc))
    simp at this
    rw [← this]; simp
  | c :: l, n + 1, h => by
    simp only [List.take_succ_cons, List.length_cons, List.cons_append]
    rw [show l.length + 1 - (n + 1) = l.length - n by omega, pad_zeros l n (fun i c hi hc => h (i + 1) c (by omega) (by simpa using hc))]

/-- The text's parts, as the code lays them. -/
theorem fText_parts (d : Nat) (nz : Nat) (hnz : nz ≤ (Lib.decDigits d).length) (h0 : ∀ i c, nz ≤ i → (Lib.decDigits d)[i]? = some c → c = 48) :
    fText d = (if 6 < (Lib.decDigits d).length then (Lib.decDigits d).take (min nz ((Lib.decDigits d).length - 6)) ++ List.replicate ((Lib.decDigits d).length - 6 - min nz ((Lib.decDigits d).length - 6)) 48 else [48]) ++
      (46 :: (List.replicate (6 - (Lib.decDigits d).length) 48 ++ (((Lib.decDigits d).drop ((Lib.decDigits d).length - 6)).take (nz - ((Lib.decDigits d).length - 6)) ++ List.replicate ((Lib.decDigits d).length - ((Lib.decDigits d).length - 6) - (nz - ((Lib.decDigits d).length - 6))) 48))) := by
  unfold fText
  generalize Lib.decDigits d = ds at *
  have e1 : ds.take (min nz (ds.length - 6)) ++ List.replicate (ds.length - 6 - min nz (ds.length - 6)) 48 = ds.take (ds.length - 6) := by
    have := pad_zeros (ds.take (ds.length - 6)) (min nz (ds.length - 6)) (fun i c hi hc => by
      rw [List.getElem?_take] at hc
      split at hc
      · exact h0 i c (by omega) hc
      · cases hc)
    rw [List.take_take, List.length_take] at this
    rw [show min (min nz (ds.length - 6)) (ds.length - 6) = min nz (ds.length - 6) by omega, show min (ds.length - 6) ds.length = ds.length - 6 by omega] at this
    exact this
  have e2 : (ds.drop (ds.length - 6)).take (nz - (ds.length - 6)) ++ List.replicate (ds.length - (ds.length - 6) - (nz - (ds.length - 6))) 48 = ds.drop (ds.length - 6) := by
    have := pad_zeros (ds.drop (ds.length - 6)) (nz - (ds.length - 6)) (fun i c hi hc => by
      rw [List.getElem?_drop] at hc
      exact h0 _ c (by omega) hc)
    rw [List.length_drop] at this
    exact this
  rw [e1, e2]

theorem fText_length (d : Nat) (h : (Lib.decDigits d).length ≤ 20) : (fText d).length ≤ 30 := by
  unfold fText
  generalize Lib.decDigits d = ds at *
  split <;> simp <;> omega

/-- How many digits the code asks for, and the power of ten it scales by. -/
def nL (L : Nat) : Nat := if 6 ≤ L then 7 + (L - 5) * 78913 / 262144 else 7 - (6 - L) * 78913 / 262144
def pL (L : Nat) : Nat := if L ≤ 5 ∨ L = 9 ∨ L = 12 ∨ L = 15 then 7 else 6
def lL (L : Nat) : Nat := if pL L = 7 then 23 else 19
def hiL (L : Nat) : Nat := if pL L = 7 then 78125 * 2 ^ 47 else 15625 * 2 ^ 50
def sL (L : Nat) : Nat := if pL L = 7 then 43 - L else 47 - L
def uL (L k : Nat) : Nat := if pL L = 7 then k * 625000 else k * 62500
theorem pL_or (L : Nat) : pL L = 7 ∨ (pL L ≠ 7 ∧ pL L = 6) := by unfold pL; split <;> simp
theorem L_tab : ∀ L : Fin 16, ((nL L.val : Int) - 1 - ((L.val : Int) - 6) * 78913 / 262144 = (pL L.val : Int)) ∧ ((pL L.val : Int) * 108853 / 32768 = (lL L.val : Int)) ∧ (-((L.val : Int) - 69 + (lL L.val : Int) + 3) = (sL L.val : Int)) ∧ nL L.val ≤ 10 ∧ 6 ≤ nL L.val ∧ sL L.val ≤ 63 := by decide +kernel

theorem L_le : ∀ L : Fin 16, pL L.val ≠ 7 → 2 ^ (L.val + 1) * 62500 + 2 ≤ 4 * 10 ^ nL L.val := by decide +kernel
theorem scaled {k L : Nat} (hL : L ≤ 15) : k * 2 ^ (63 - L) * hiL L / 18446744073709551616 = uL L k * 2 ^ sL L ∧ k * 2 ^ (63 - L) * hiL L % 18446744073709551616 = 0 := by
  have h64 : 18446744073709551616 = 2 ^ 64 := by decide
  have key : k * 2 ^ (63 - L) * hiL L = uL L k * 2 ^ sL L * 18446744073709551616 := by
    rw [h64]
    unfold hiL uL sL
    split
    · have : 2 ^ (63 - L) * 2 ^ 47 = 2 ^ 3 * 2 ^ (43 - L) * 2 ^ 64 := by rw [← Nat.pow_add, ← Nat.pow_add, ← Nat.pow_add]; congr 1; omega
      calc k * 2 ^ (63 - L) * (78125 * 2 ^ 47) = k * 78125 * (2 ^ (63 - L) * 2 ^ 47) := by ac_rfl
        _ = k * (78125 * 2 ^ 3) * 2 ^ (43 - L) * 2 ^ 64 := by rw [this]; ac_rfl
        _ = _ := by rw [show 78125 * 2 ^ 3 = 625000 by decide]
    · have : 2 ^ (63 - L) * 2 ^ 50 = 2 ^ 2 * 2 ^ (47 - L) * 2 ^ 64 := by rw [← Nat.pow_add, ← Nat.pow_add, ← Nat.pow_add]; congr 1; omega
      calc k * 2 ^ (63 - L) * (15625 * 2 ^ 50) = k * 15625 * (2 ^ (63 - L) * 2 ^ 50) := by ac_rfl
        _ = k * (15625 * 2 ^ 2) * 2 ^ (47 - L) * 2 ^ 64 := by rw [this]; ac_rfl
        _ = _ := by rw [show 15625 * 2 ^ 2 = 62500 by decide]
  rw [key]
  exact ⟨Nat.mul_div_cancel _ (by decide), Nat.mul_mod_left _ _⟩
end Go.Proofs.YtbcnhcpgloncdaaGreatDoor
