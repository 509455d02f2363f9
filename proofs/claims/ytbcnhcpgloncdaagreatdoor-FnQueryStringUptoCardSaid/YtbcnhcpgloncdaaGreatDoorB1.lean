/-
  THE SMALL FUNCTIONS UNDER FormatFloat.
-/
import Derived.Test.YtbcnhcpgloncdaaGreatDoorA1
import Derived.Laws.Bits64b
import Derived.Deep.QuietTactic
import Derived.BigQuiet
import Derived.Lib.ItoaNum
namespace Go.Proofs.YtbcnhcpgloncdaaGreatDoor
open Go.RowKit

theorem log10_any (x : Int) (h0 : -1000 ≤ x) (h1 : x ≤ 1000) (w : World) : Calls Tryz.prog 192 #[.int .i64 x] w fun e w' => e = .returned (.int .i64 (x * 78913 / 262144)) ∧ w' = w := by
  go_enter Tryz.func192, Tryz.ntmps192
  go_wp2
  go_ret
  exact ⟨rfl, rfl⟩
theorem log2_any (x : Int) (h0 : -1000 ≤ x) (h1 : x ≤ 1000) (w : World) : Calls Tryz.prog 230 #[.int .i64 x] w fun e w' => e = .returned (.int .i64 (x * 108853 / 32768)) ∧ w' = w := by
  go_enter Tryz.func230, Tryz.ntmps230
  go_wp2
  go_ret
  exact ⟨rfl, rfl⟩
theorem unmin_any (x : Nat) (h1 : x ≤ 1000000000000000000) (h0 : 1 ≤ x) (w : World) : Calls Tryz.prog 238 #[.int .u64 x] w fun e w' => e = .returned (.int .u64 ((x : Int) * 4 - 2)) ∧ w' = w := by
  go_enter Tryz.func238, Tryz.ntmps238
  go_wp2
  go_ret
  exact ⟨rfl, rfl⟩
theorem round_any (d : Nat) (h1 : d ≤ 1000000000000000000) (w : World) : Calls Tryz.prog 235 #[.int .u64 (4 * d : Int)] w fun e w' => e = .returned (.int .u64 d) ∧ w' = w := by
  have hb : bits .and .u64 (d : Int) 1 = ((d % 2 : Nat) : Int) := by
    rw [show (1 : Int) = ((1 : Nat) : Int) by rfl, bits_and_u64_nat d 1 (by omega) (by omega), Nat.and_one_is_mod]
  have hq : (4 * (d : Int) + 1 + (d : Int) % 2) / 4 = d := by omega
  go_enter Tryz.func235, Tryz.ntmps235
  go_wp2
  go_ret
  exact ⟨rfl, rfl⟩
theorem b64_any (b : Bool) (w : World) : Calls Tryz.prog 207 #[.bool b] w fun e w' => e = .returned (.int .u64 (if b then 1 else 0)) ∧ w' = w := by
  cases b
  all_goals
    go_enter Tryz.func207, Tryz.ntmps207
    go_wp2
    go_ret
    exact ⟨rfl, rfl⟩
theorem bun_any (b : Bool) (w : World) : Calls Tryz.prog 263 #[.bool b] w fun e w' => e = .returned (.int .u64 (if b then 1 else 0)) ∧ w' = w := by
  cases b
  all_goals
    go_enter Tryz.func263, Tryz.ntmps263
    go_wp2
    go_ret
    exact ⟨rfl, rfl⟩
theorem below_drewN (w : World) (n : Nat) : Below w.heap.size w (w.drewN n) :=
  ⟨rfl, rfl, rfl, Nat.le_refl _, fun _ _ => rfl⟩
/-- A multiple of 20 by 10. -/
theorem div_any (v : Nat) (h1 : v ≤ 1000000000000000000) (hv : v % 2 = 0) (w : World) : Calls Tryz.prog 239 #[.int .u64 ((v : Int) * 10), .int .u64 10] w fun e w' => e = .returned (.int .u64 v) ∧ Below w.heap.size w w' := by
  have hb : bits .and .u64 ((v : Int) * 10) 1 = 0 := by
    rw [show (v : Int) * 10 = ((v * 10 : Nat) : Int) by push_cast; rfl, show (1 : Int) = ((1 : Nat) : Int) by rfl, bits_and_u64_nat (v * 10) 1 (by omega) (by omega), Nat.and_one_is_mod]
    omega
  have ho : bits .or .u64 ((v : Nat) : Int) 0 = v := by
    rw [show (0 : Int) = ((0 : Nat) : Int) by rfl, bits_or_u64_nat v 0 (by omega) (by omega), Nat.or_zero]
  have hq : ((v : Int) * 10).tdiv 10 = (v : Int) := by rw [Int.tdiv_eq_ediv_of_nonneg (by omega)]; omega
  have hr : ((v : Int) * 10).tmod 10 = 0 := by rw [Int.tmod_eq_emod_of_nonneg (by omega)]; omega
  have hV0 : 0 ≤ (v : Int) * 10 := by omega
  have hV1 : (v : Int) * 10 < 18446744073709551616 := by omega
  generalize (v : Int) * 10 = V at *
  have hc : ∀ n, Calls Tryz.prog 263 #[.bool false] (w.drewN n) fun e w' => e = .returned (.int .u64 0) ∧ ∃ m, w' = (w.drewN m) := fun n => (bun_any false _).mono fun e w' ⟨h1, h2⟩ => ⟨h1, n, h2⟩
  go_enter Tryz.func239, Tryz.ntmps239
  go_wp2
  go_quiet (exact hc _)
  go_wp2
  go_returns
  exact ⟨rfl, below_drewN _ _⟩
def PreAt (w : World) (b : Nat) (h l : Int) (s : Int) : Prop := w.heap[b]? = some (.cells #[.int .u64 h, .int .u64 l, .int .i64 s] 255 (0, 0))
theorem set3 {w1 : World} {b : Nat} {z0 z1 z2 : Value} {t : TypeId} (h : w1.heap[b]? = some (.cells #[z0, z1, z2] t (0, 0))) (v0 v1 v2 : Value) :
    (((w1.setCell ⟨b, 0, none⟩ v0).setCell ⟨b, 1, none⟩ v1).setCell ⟨b, 2, none⟩ v2).heap[b]? = some (.cells #[v0, v1, v2] t (0, 0)) :=
  heap_setCell_same _ _ _ _ _ _ (heap_setCell_same _ _ _ _ _ _ (heap_setCell_same _ _ _ _ _ _ h))
theorem below3 {w1 : World} {b n : Nat} (hn : n ≤ b) (v0 v1 v2 : Value) : Below n w1 (((w1.setCell ⟨b, 0, none⟩ v0).setCell ⟨b, 1, none⟩ v1).setCell ⟨b, 2, none⟩ v2) :=
  Below.setCell (Below.setCell (Below.setCell (Below.refl _ _) hn _) hn _) hn _
theorem prescale_any (p e lp s hi : Int) (hp : (p = 6 ∧ hi = 17592186044416000000) ∨ (p = 7 ∧ hi = 10995116277760000000)) (he : -1000 ≤ e) (he' : e ≤ 1000) (hl : -1000 ≤ lp) (hl' : lp ≤ 1000) (hs : -(e + lp + 3) = s) (b : Nat) (w : World) (c1 : w.cell? ⟨13, 708, none⟩ = some (.int .u64 17592186044416000000)) (c2 : w.cell? ⟨13, 709, none⟩ = some (.int .u64 0))
    (c3 : w.cell? ⟨13, 710, none⟩ = some (.int .u64 10995116277760000000)) (c4 : w.cell? ⟨13, 711, none⟩ = some (.int .u64 0)) (hb : PreAt w b 0 0 0) :
    Calls Tryz.prog 229 #[.pointer (some ⟨b, 0, none⟩), .int .i64 e, .int .i64 p, .int .i64 lp] w fun r w' => r = .returned (.tuple #[]) ∧ PreAt w' b hi 0 s ∧ Below b w w' := by
  unfold PreAt at hb
  have d0 := cell_of_row w _ 0 _ _ _ hb
  have d1 := cell_of_row w _ 1 _ _ _ hb
  have d2 := cell_of_row w _ 2 _ _ _ hb
  have f0 := frozen_of_row w _ 0 _ _ hb
  have f1 := frozen_of_row w _ 1 _ _ hb
  have f2 := frozen_of_row w _ 2 _ _ hb
  have HB := hide hb
  clear hb
  rcases hp with ⟨rfl, rfl⟩ | ⟨rfl, rfl⟩
  all_goals
    go_enter Tryz.func229, Tryz.ntmps229
    go_wp2
    go_returns
    exact ⟨rfl, set3 HB.out _ _ _, below3 (Nat.le_refl _) _ _ _⟩
/-- What is scaled exactly. -/
theorem uscale_any (x h s u : Nat) (hx : x < 18446744073709551616) (hh : h < 18446744073709551616) (hs : s ≤ 63) (hu : u ≤ 1000000000000000000) (e1 : x * h / 18446744073709551616 = u * 2 ^ s) (e2 : x * h % 18446744073709551616 = 0) (b : Nat) (w : World) (hb : PreAt w b h 0 s)
    (M : ∀ y z w, y < 18446744073709551616 → z < 18446744073709551616 → Calls Tryz.prog 262 #[.int .u64 (y : Nat), .int .u64 (z : Nat)] w fun e w' => e = .returned (.tuple #[.int .u64 ((y * z / 18446744073709551616 : Nat) : Int), .int .u64 ((y * z % 18446744073709551616 : Nat) : Int)]) ∧ w' = w) :
    Calls Tryz.prog 231 #[.int .u64 x, .pointer (some ⟨b, 0, none⟩)] w fun r w' => r = .returned (.int .u64 u) ∧ Below w.heap.size w w' := by
  unfold PreAt at hb
  have d0 := cell_of_row w _ 0 _ _ _ hb
  have d1 := cell_of_row w _ 1 _ _ _ hb
  have d2 := cell_of_row w _ 2 _ _ _ hb
  have hb1 : bits .and .i64 (s : Int) 63 = s := by
    have := bits_mask .i64 63 (by decide) (fun n h0 h1 => by rw [IntKind.wrap_i64]; omega) 6 (by decide) (s : Int) (by omega) (by omega)
    rw [show (63 : Int) = 2 ^ 6 - 1 by decide, this]
    omega
  have hM := hide M
  have hp := Nat.two_pow_pos s
  have hlt : u * 2 ^ s < 18446744073709551616 := by rw [← e1]; exact Nat.div_lt_of_lt_mul (by exact Nat.mul_lt_mul'' hx hh)
  have E1 := hide e1
  have E2 := hide e2
  clear M e1 e2
  go_enter Tryz.func231, Tryz.ntmps231
  go_wp2_with fail
  refine (hM.out x h _ hx hh).mono ?_
  rintro e w1 ⟨rfl, rfl⟩
  rw [E1.out, E2.out]
  obtain ⟨H, hH⟩ : ∃ H : Nat, H = u * 2 ^ s := ⟨_, rfl⟩
  have g1 : ((H : Nat) : Int) / 2 ^ s = (u : Int) := by rw [hH]; push_cast; exact Int.mul_ediv_cancel _ (by exact_mod_cast Nat.ne_of_gt hp)
  have g2 : (u : Int) * 2 ^ s = ((H : Nat) : Int) := by rw [hH]; push_cast; rfl
  have hH1 : H < 18446744073709551616 := by omega
  rw [← hH]
  clear hH
  go_wp2_with fail
  refine (hM.out x 0 _ hx (by omega)).mono ?_
  rintro e w1 ⟨rfl, rfl⟩
  rw [Nat.mul_zero, Nat.zero_div, Nat.zero_mod]
  go_wp2_with fail
  refine (b64_any _ _).mono ?_
  rintro e w1 ⟨rfl, rfl⟩
  have hc : ∀ n, Calls Tryz.prog 207 #[.bool false] (w1.drewN n) fun e w' => e = .returned (.int .u64 0) ∧ ∃ m, w' = (w1.drewN m) := fun n => (b64_any false _).mono fun e w' ⟨h1, h2⟩ => ⟨h1, n, h2⟩
  have ho : bits .or .u64 ((u : Nat) : Int) 0 = u := by
    rw [show (0 : Int) = ((0 : Nat) : Int) by rfl, bits_or_u64_nat u 0 (by omega) (by omega), Nat.or_zero]
  go_wp2_with fail
  go_quiet (exact hc _)
  go_wp2
  go_returns
  exact ⟨rfl, below_drewN _ _⟩
end Go.Proofs.YtbcnhcpgloncdaaGreatDoor

/-
  A BOOST IS k / 64 WITH 1 <= k <= 64000: its bits.
-/
namespace Go.Proofs.YtbcnhcpgloncdaaGreatDoor
open Go.RowKit
open Ieee (Datum)

theorem cut_even_pow (s : Bool) (m d : Nat) (hm : m ≠ 0) : Ieee.Toward.cut .even s (m * 2 ^ d) d = m := by
  unfold Ieee.Toward.cut
  have hd : min d ((m * 2 ^ d).log2 + 2) = d := by
    have : d ≤ (m * 2 ^ d).log2 := by
      rw [Nat.le_log2 (by exact Nat.mul_ne_zero hm (Nat.ne_of_gt (Nat.two_pow_pos _)))]
      exact Nat.le_mul_of_pos_left _ (Nat.pos_of_ne_zero hm)
    omega
  simp only [hd, Nat.shiftLeft_eq, Nat.one_mul]
  have h2 := Nat.two_pow_pos d
  rw [Nat.mul_mod_left, Nat.mul_div_cancel _ h2]
  have e1 : decide (2 ^ d < 2 * 0) = false := by simp
  have e2 : (2 ^ d == 2 * 0) = false := by simp
  rw [e1, e2]; simp
theorem log2_mul_pow (m d : Nat) (hm : m ≠ 0) : (m * 2 ^ d).log2 = m.log2 + d := by
  have h := Nat.two_pow_pos d
  have hne : m * 2 ^ d ≠ 0 := Nat.mul_ne_zero hm (Nat.ne_of_gt h)
  apply Nat.le_antisymm
  · have : (m * 2 ^ d).log2 < m.log2 + d + 1 := by
      rw [Nat.log2_lt hne, show m.log2 + d + 1 = (m.log2 + 1) + d by omega, Nat.pow_add]
      exact Nat.mul_lt_mul_of_pos_right Nat.lt_log2_self h
    omega
  · rw [Nat.le_log2 hne, Nat.pow_add]
    exact Nat.mul_le_mul_right _ (Nat.log2_self_le hm)

theorem word_read (s : Bool) (r : Nat) (h1 : 2 ^ 52 ≤ r) (h2 : r < 0x7ff0000000000000) : dbl.read (dbl.word s r) = .number s (2 ^ 52 + r % 2 ^ 52) (-1074 + (r / 2 ^ 52 - 1 : Nat)) := by
  unfold Ieee.Format.read
  have e1 : dbl.signWeight = 2 ^ 63 := rfl
  have e2 : dbl.binade = 2 ^ 52 := rfl
  have e3 : dbl.infRung = 0x7ff0000000000000 := rfl
  have e4 : dbl.leastPlace = -1074 := by decide
  have e5 : (dbl.word s r / 2 ^ 63 % 2 == 1) = s := by
    unfold Ieee.Format.word; rw [e1]
    cases s
    · have : r / 2 ^ 63 % 2 = 0 := by omega
      simp only [Bool.false_eq_true, if_false, this]; rfl
    · have : (2 ^ 63 + r) / 2 ^ 63 % 2 = 1 := by omega
      simp only [if_true, this]; rfl
  have e6 : dbl.word s r % 2 ^ 63 = r := by
    unfold Ieee.Format.word; rw [e1]
    cases s
    · simp only [Bool.false_eq_true, if_false]; omega
    · simp only [if_true]; omega
  rw [e1, e2, e3, e4, e6, e5]
  dsimp only
  rw [if_neg (by omega), if_pos (by omega)]
  
theorem sc_word (s : Bool) (r : Nat) (h1 : 2 ^ 52 ≤ r) (h2 : r < 0x7ff0000000000000) : sc (dbl.word s r) = Ieee.signed s (2 ^ 52 + r % 2 ^ 52) (r / 2 ^ 52 - 1) := by
  unfold sc
  rw [word_read s r h1 h2]
  simp only
  congr 1
  omega

theorem E0_split (a b : Nat) (h : a + b = 1074) : 2 ^ E0 = 2 ^ a * 2 ^ b := by
  have he : E0 = a + b := by rw [E0_is]; omega
  rw [← Nat.pow_add, he]
theorem U_split (a b : Nat) (h : a + b = 1074) : U = ((2 ^ a * 2 ^ b : Nat) : Int) := by
  unfold U; rw [E0_split a b h]
/-- A whole number's bits. -/
theorem ofInt_sc (k : Nat) (h1 : 1 ≤ k) (h2 : k ≤ 64000) : sc (floatOfInt .f64 (k : Int)) = (k : Int) * U := by
  have hlog : k.log2 ≤ 15 := by
    have : k.log2 < 16 := (Nat.log2_lt (by omega)).2 (by omega)
    omega
  have h3 := Nat.log2_self_le (n := k) (by omega)
  have h4 := Nat.lt_log2_self (n := k)
  have hmin : (k.log2 + 1022) * 2 ^ 52 + k * 2 ^ (52 - k.log2) ≤ 0x7ff0000000000000 := by
    have h5 : k * 2 ^ (52 - k.log2) < 2 ^ 53 := by
      calc k * 2 ^ (52 - k.log2) < 2 ^ (k.log2 + 1) * 2 ^ (52 - k.log2) := Nat.mul_lt_mul_of_pos_right h4 (Nat.two_pow_pos _)
        _ = 2 ^ 53 := by rw [← Nat.pow_add]; congr 1; omega
    clear h3 h4
    generalize k.log2 = l at *
    generalize k * 2 ^ (52 - l) = y at *
    omega
  have e : floatOfInt .f64 (k : Int) = dbl.word false ((k.log2 + 1022) * 2 ^ 52 + k * 2 ^ (52 - k.log2)) := by
    show dbl.nearest (decide ((k : Int) < 0)) (k : Int).natAbs 0 = _
    have hd : decide ((k : Int) < 0) = false := by simp
    rw [hd, Int.natAbs_natCast]
    unfold Ieee.Format.nearest
    rw [if_neg (by omega)]
    have e4 : dbl.leastPlace = -1074 := by decide
    have e5 : dbl.fractionBits = 52 := rfl
    have e2 : dbl.binade = 2 ^ 52 := rfl
    have e3 : dbl.infRung = 0x7ff0000000000000 := rfl
    rw [e4, e5, e2, e3]
    have hl : max (0 + (k.log2 : Int) - (52 : Nat)) (-1074) = (k.log2 : Int) - 52 := by omega
    rw [hl]
    dsimp only
    have a1 : ((0 : Int) - ((k.log2 : Int) - 52)).toNat = 52 - k.log2 := by omega
    have a2 : ((k.log2 : Int) - 52 - 0).toNat = 0 := by omega
    have a3 : ((k.log2 : Int) - 52 - (-1074)).toNat = k.log2 + 1022 := by omega
    rw [a1, a2, a3, Nat.shiftLeft_eq]
    have c := cut_even_pow false (k * 2 ^ (52 - k.log2)) 0 (Nat.mul_ne_zero (by omega) (Nat.ne_of_gt (Nat.two_pow_pos _)))
    rw [Nat.pow_zero, Nat.mul_one] at c
    rw [c]
    rw [Nat.min_eq_left hmin]
  have hlo : 2 ^ 52 ≤ k * 2 ^ (52 - k.log2) := by
    calc 2 ^ 52 = 2 ^ k.log2 * 2 ^ (52 - k.log2) := by rw [← Nat.pow_add]; congr 1; omega
      _ ≤ _ := Nat.mul_le_mul_right _ h3
  have hhi : k * 2 ^ (52 - k.log2) < 2 ^ 53 := by
    calc k * 2 ^ (52 - k.log2) < 2 ^ (k.log2 + 1) * 2 ^ (52 - k.log2) := Nat.mul_lt_mul_of_pos_right h4 (Nat.two_pow_pos _)
      _ = 2 ^ 53 := by rw [← Nat.pow_add]; congr 1; omega
  have hU : U = ((2 ^ (52 - k.log2) * 2 ^ (k.log2 + 1022) : Nat) : Int) := by
    exact U_split (52 - k.log2) (k.log2 + 1022) (by omega)
  rw [e, sc_word false _ (by omega) (by omega), hU]
  generalize 2 ^ (52 - k.log2) = P at *
  generalize hm : k * P = m at *
  have d1 : ((k.log2 + 1022) * 2 ^ 52 + m) / 2 ^ 52 - 1 = k.log2 + 1022 := by omega
  have d2 : 2 ^ 52 + ((k.log2 + 1022) * 2 ^ 52 + m) % 2 ^ 52 = m := by omega
  rw [d1, d2]
  simp only [Ieee.signed, Bool.false_eq_true, if_false, Nat.shiftLeft_eq]
  rw [← hm]
  push_cast
  rw [Int.mul_assoc]

theorem signed_small (s : Bool) (m j : Nat) (h1 : m < 2 ^ 53) (h2 : j ≤ 15) : Ieee.signed s m j < 2 ^ 68 := by
  have : m <<< j < 2 ^ 68 := by
    rw [Nat.shiftLeft_eq]
    calc m * 2 ^ j ≤ m * 2 ^ 15 := Nat.mul_le_mul_left _ (Nat.pow_le_pow_right (by decide) h2)
      _ < 2 ^ 53 * 2 ^ 15 := Nat.mul_lt_mul_of_pos_right h1 (by decide)
      _ = 2 ^ 68 := by decide
  cases s <;> simp only [Ieee.signed, Bool.false_eq_true, if_false, if_true] <;> generalize m <<< j = z at * <;> omega

theorem low_word (s : Bool) (R : Nat) (h : R < 2 ^ 52) : sc (dbl.word s R) = Ieee.signed s R 0 := by
  have e1 : dbl.signWeight = 2 ^ 63 := rfl
  have e2 : dbl.binade = 2 ^ 52 := rfl
  have e4 : dbl.leastPlace = -1074 := by decide
  unfold sc Ieee.Format.read
  rw [e1, e2, e4]
  have f6 : dbl.word s R % 2 ^ 63 = R := by
    unfold Ieee.Format.word; rw [e1]
    cases s
    · simp only [Bool.false_eq_true, if_false]; omega
    · simp only [if_true]; omega
  have f5 : (dbl.word s R / 2 ^ 63 % 2 == 1) = s := by
    unfold Ieee.Format.word; rw [e1]
    cases s
    · have : R / 2 ^ 63 % 2 = 0 := by omega
      simp only [Bool.false_eq_true, if_false, this]; rfl
    · have : (2 ^ 63 + R) / 2 ^ 63 % 2 = 1 := by omega
      simp only [if_true, this]; rfl
  rw [f6, f5]
  dsimp only
  rw [if_pos h]
  rfl

theorem sub_word (s : Bool) (r : Nat) (hlt : r < 2 ^ 52) : ∃ R, dbl.nearest s (r * 2 ^ 52) (-1074 + -46) = dbl.word s R ∧ R < 16 * 2 ^ 52 := by
  have e2 : dbl.binade = 2 ^ 52 := rfl
  have e3 : dbl.infRung = 0x7ff0000000000000 := rfl
  have e4 : dbl.leastPlace = -1074 := by decide
  have e5 : dbl.fractionBits = 52 := rfl
  unfold Ieee.Format.nearest
  split
  · exact ⟨0, rfl, by decide⟩
  · rename_i hm0
    have hm : r ≠ 0 := fun h => hm0 (by rw [h, Nat.zero_mul])
    clear hm0
    have hlr : r.log2 < 52 := (Nat.log2_lt hm).2 hlt
    have hls := Nat.lt_log2_self (n := r)
    rw [e4, e5, e2, e3, log2_mul_pow _ _ hm]
    refine ⟨_, rfl, Nat.lt_of_le_of_lt (Nat.min_le_left _ _) ?_⟩
    rcases Nat.lt_or_ge 46 r.log2 with hc | hc
    · have hl : max ((-1074 : Int) + -46 + ((r.log2 + 52 : Nat) : Int) - (52 : Nat)) (-1074) = (r.log2 : Int) - 1120 := by omega
      rw [hl]
      have a1 : ((-1074 : Int) + -46 - ((r.log2 : Int) - 1120)).toNat = 0 := by omega
      have a2 : ((r.log2 : Int) - 1120 - ((-1074 : Int) + -46)).toNat = r.log2 := by omega
      have a3 : ((r.log2 : Int) - 1120 - (-1074)).toNat = r.log2 - 46 := by omega
      rw [a1, a2, a3, Nat.shiftLeft_eq, Nat.pow_zero, Nat.mul_one]
      have e : r * 2 ^ 52 = (r * 2 ^ (52 - r.log2)) * 2 ^ r.log2 := by rw [Nat.mul_assoc, ← Nat.pow_add, show 52 - r.log2 + r.log2 = 52 by omega]
      rw [e, cut_even_pow s _ _ (Nat.mul_ne_zero hm (Nat.ne_of_gt (Nat.two_pow_pos _)))]
      have h1 : r * 2 ^ (52 - r.log2) < 2 ^ 53 := by
        calc r * 2 ^ (52 - r.log2) < 2 ^ (r.log2 + 1) * 2 ^ (52 - r.log2) := Nat.mul_lt_mul_of_pos_right hls (Nat.two_pow_pos _)
          _ = 2 ^ 53 := by rw [← Nat.pow_add, show r.log2 + 1 + (52 - r.log2) = 53 by omega]
      have h2 : (r.log2 - 46) * 2 ^ 52 ≤ 5 * 2 ^ 52 := Nat.mul_le_mul_right _ (by omega)
      omega
    · have hl : max ((-1074 : Int) + -46 + ((r.log2 + 52 : Nat) : Int) - (52 : Nat)) (-1074) = -1074 := by omega
      rw [hl]
      have a1 : ((-1074 : Int) + -46 - (-1074)).toNat = 0 := by omega
      have a2 : ((-1074 : Int) - ((-1074 : Int) + -46)).toNat = 46 := by omega
      have a3 : ((-1074 : Int) - (-1074)).toNat = 0 := by omega
      rw [a1, a2, a3, Nat.shiftLeft_eq, Nat.pow_zero, Nat.mul_one]
      have e : r * 2 ^ 52 = (r * 2 ^ 6) * 2 ^ 46 := by rw [Nat.mul_assoc, ← Nat.pow_add]
      rw [e, cut_even_pow s _ _ (Nat.mul_ne_zero hm (by decide))]
      have h4 : r < 2 ^ 47 := Nat.lt_of_lt_of_le hls (Nat.pow_le_pow_right (by decide) (by omega))
      omega

theorem norm_word (s : Bool) (m f : Nat) (h1 : 2 ^ 52 ≤ m) (h2 : m < 2 ^ 53) : dbl.nearest s (m * 2 ^ 52) (-1074 + (f : Int) + -46) = dbl.word s (min ((f + 6) * 2 ^ 52 + m) 0x7ff0000000000000) := by
  have e2 : dbl.binade = 2 ^ 52 := rfl
  have e3 : dbl.infRung = 0x7ff0000000000000 := rfl
  have e4 : dbl.leastPlace = -1074 := by decide
  have e5 : dbl.fractionBits = 52 := rfl
  have hm0 : m ≠ 0 := by omega
  have hml : m.log2 = 52 := by
    apply Nat.le_antisymm
    · have : m.log2 < 53 := (Nat.log2_lt hm0).2 h2
      omega
    · exact (Nat.le_log2 hm0).2 h1
  unfold Ieee.Format.nearest
  rw [if_neg (Nat.mul_ne_zero hm0 (by decide)), e4, e5, e2, e3, log2_mul_pow _ _ hm0, hml]
  have hl : max (-1074 + (f : Int) + -46 + ((52 + 52 : Nat) : Int) - (52 : Nat)) (-1074) = (f : Int) + 6 - 1074 := by omega
  rw [hl]
  dsimp only
  have a1 : (-1074 + (f : Int) + -46 - ((f : Int) + 6 - 1074)).toNat = 0 := by omega
  have a2 : ((f : Int) + 6 - 1074 - (-1074 + (f : Int) + -46)).toNat = 52 := by omega
  have a3 : ((f : Int) + 6 - 1074 - (-1074)).toNat = f + 6 := by omega
  rw [a1, a2, a3, Nat.shiftLeft_eq, Nat.pow_zero, Nat.mul_one, cut_even_pow s m 52 hm0]

theorem parts_of {k m f : Nat} (hk1 : 1 ≤ k) (hk2 : k ≤ 64000) (h1 : 2 ^ 52 ≤ m) (h2 : m < 2 ^ 53) (heq : k * 2 ^ E0 = m * 2 ^ (f + 6)) :
    ∃ L, L ≤ 15 ∧ 2 ^ L ≤ k ∧ k < 2 ^ (L + 1) ∧ m = k * 2 ^ (52 - L) ∧ f = L + 1016 := by
  have hf : f + 6 ≤ 1074 := by
    rcases Nat.lt_or_ge 1074 (f + 6) with hc | hc
    · exfalso
      have h3 : 2 ^ E0 * 2 ≤ 2 ^ (f + 6) := by rw [← Nat.pow_succ]; exact Nat.pow_le_pow_right (by decide) (by rw [E0_is]; omega)
      have h2 := Nat.mul_le_mul h1 h3
      rw [← heq] at h2
      have hz := Nat.two_pow_pos E0
      generalize 2 ^ E0 = P at *
      have : k * P ≤ 64000 * P := Nat.mul_le_mul_right _ hk2
      omega
    · exact hc
  have heq2 : m = k * 2 ^ (1074 - (f + 6)) := by
    rw [E0_split (1074 - (f + 6)) (f + 6) (by omega), ← Nat.mul_assoc] at heq
    exact (Nat.eq_of_mul_eq_mul_right (Nat.two_pow_pos _) heq).symm
  obtain ⟨j, hj⟩ : ∃ j, j = 1074 - (f + 6) := ⟨_, rfl⟩
  rw [← hj] at heq2
  have hj52 : j ≤ 52 := by
    rcases Nat.lt_or_ge 52 j with hc | hc
    · exfalso
      have : 2 ^ 53 ≤ 2 ^ j := Nat.pow_le_pow_right (by decide) hc
      have : 1 * 2 ^ j ≤ k * 2 ^ j := Nat.mul_le_mul_right _ hk1
      omega
    · exact hc
  have hj37 : 37 ≤ j := by
    rcases Nat.lt_or_ge j 37 with hc | hc
    · exfalso
      have : 2 ^ j ≤ 2 ^ 36 := Nat.pow_le_pow_right (by decide) (by omega)
      have : k * 2 ^ j ≤ 64000 * 2 ^ 36 := Nat.mul_le_mul hk2 this
      omega
    · exact hc
  refine ⟨52 - j, by omega, ?_, ?_, ?_, by omega⟩
  · have : 2 ^ (52 - j) * 2 ^ j ≤ k * 2 ^ j := by rw [← Nat.pow_add, show 52 - j + j = 52 by omega]; omega
    exact Nat.le_of_mul_le_mul_right this (Nat.two_pow_pos _)
  · have : k * 2 ^ j < 2 ^ (52 - j + 1) * 2 ^ j := by rw [← Nat.pow_add, show 52 - j + 1 + j = 53 by omega]; omega
    exact Nat.lt_of_mul_lt_mul_right this
  · rw [show 52 - (52 - j) = j by omega]; exact heq2

/-- What a number of the boost range is. -/
theorem whole_of_boost {p : Nat} (g1 : geB p f1 = true) (g2 : leB p f64k = true) (g3 : intEq p = true) : ∃ k : Nat, 1 ≤ k ∧ k ≤ 64000 ∧ isNum p = true ∧ sc p = (k : Int) * U := by
  have hnum : isNum p = true := num_between (by decide +kernel) (by decide +kernel) g1 g2
  have s1 := (geB_sc hnum (by decide +kernel)).1 g1
  have s2 := (leB_sc hnum (by decide +kernel)).1 g2
  rw [sc_1] at s1
  rw [sc_64k] at s2
  have hU := U_pos
  have h0 : 0 ≤ sc p := by omega
  obtain ⟨i1, i2, i3⟩ := int_small hnum h0 (by omega)
  have hq : ∃ k : Nat, (sc p / U) = (k : Int) ∧ 1 ≤ k ∧ k ≤ 64000 := by
    refine ⟨(sc p / U).toNat, by omega, ?_, ?_⟩
    · have : (1 : Int) ≤ sc p / U := (Int.le_ediv_iff_mul_le hU).2 (by omega)
      omega
    · have : sc p / U ≤ 64000 := Int.ediv_le_of_le_mul hU s2
      omega
  obtain ⟨k, hk, hk1, hk2⟩ := hq
  unfold intEq at g3
  rw [i1, hk] at g3
  simp only at g3
  have hof := ofInt_sc k hk1 hk2
  have hpos := Int.mul_pos (show (0 : Int) < k by omega) hU
  have hfi : isNum (floatOfInt .f64 (k : Int)) = true := by
    rw [← Bool.not_eq_false]
    intro hn
    unfold isNum at hn
    unfold sc at hof
    cases hz : dbl.read (floatOfInt .f64 (k : Int)) with
    | number s m i => rw [hz] at hn; cases hn
    | infinity _ => rw [hz] at hof; simp only at hof; omega
    | nan _ _ => rw [hz] at hof; simp only at hof; omega
  have hh : dbl.order (floatOfInt .f64 (k : Int)) p = some .eq := eq_of_beq g3
  rw [order_num hfi hnum] at hh
  have := Int.compare_eq_eq.1 (Option.some.inj hh)
  exact ⟨k, hk1, hk2, hnum, by rw [← this, hof]⟩

/-- A boost is k / 64: its bits. -/
theorem boost_bits {x : Nat} (h : boostB x = true) : ∃ k L : Nat, 1 ≤ k ∧ k ≤ 64000 ∧ L ≤ 15 ∧ 2 ^ L ≤ k ∧ k < 2 ^ (L + 1) ∧ x / 2 ^ 63 % 2 = 0 ∧ x % 2 ^ 63 = (L + 1016) * 2 ^ 52 + k * 2 ^ (52 - L) := by
  unfold boostB at h
  have e1 : dbl.signWeight = 2 ^ 63 := rfl
  have e2 : dbl.binade = 2 ^ 52 := rfl
  have e3 : dbl.infRung = 0x7ff0000000000000 := rfl
  have e4 : dbl.leastPlace = -1074 := by decide
  have e6 : dbl.read f64 = .number false (2 ^ 52) (-46) := by decide +kernel
  unfold Ieee.Format.mul at h
  rw [e6] at h
  cases hr : dbl.read x with
  | nan s f => rw [hr] at h; simp [Datum.product] at h
  | infinity s =>
    exfalso
    rw [hr] at h
    have : (Datum.product (.infinity s) (.number false (2 ^ 52) (-46))) = some (.infinity s) := by cases s <;> rfl
    rw [this] at h
    simp only [Option.map_some, Ieee.Format.write, Bool.and_eq_true] at h
    cases s
    · have : leB (dbl.word false dbl.infRung) f64k = false := by decide +kernel
      rw [this] at h; simp at h
    · have : geB (dbl.word true dbl.infRung) f1 = false := by decide +kernel
      rw [this] at h; simp at h
  | number s m i =>
    rw [hr] at h
    simp only [Datum.product, Bool.bne_false, Option.map_some, Ieee.Format.write, Bool.and_eq_true] at h
    obtain ⟨g1, g2, g3⟩ := h
    obtain ⟨k, hk1, hk2, hnum, hsp⟩ := whole_of_boost g1 g2 g3
    clear g1 g2 g3
    have hpos : U ≤ (k : Int) * U := by
      have := Int.mul_le_mul_of_nonneg_right (show (1 : Int) ≤ k by omega) (Int.le_of_lt U_pos)
      omega
    have hU := U_pos
    unfold Ieee.Format.read at hr
    rw [e1, e2, e3, e4] at hr
    dsimp only at hr
    have hrl : x % 2 ^ 63 < 2 ^ 63 := Nat.mod_lt _ (by decide)
    have hmz : x / 2 ^ 63 % 2 < 2 := Nat.mod_lt _ (by decide)
    generalize x % 2 ^ 63 = r at *
    generalize x / 2 ^ 63 % 2 = z at *
    split at hr
    · rename_i hlt
      exfalso
      injection hr with q1 q2 q3
      subst q2; subst q3
      obtain ⟨R, hR, hR2⟩ := sub_word s r hlt
      rw [hR] at hsp
      have hUb : (2 : Int) ^ 68 ≤ U := by
        rw [U_split 68 1006 rfl]
        have := Nat.two_pow_pos 1006
        generalize 2 ^ 1006 = P at *
        omega
      rcases Nat.lt_or_ge R (2 ^ 52) with hc | hc
      · rw [low_word s R hc] at hsp
        have := signed_small s R 0 (by omega) (by omega)
        omega
      · rw [sc_word s R hc (by omega)] at hsp
        have := signed_small s (2 ^ 52 + R % 2 ^ 52) (R / 2 ^ 52 - 1) (by omega) (by omega)
        omega
    · rename_i hge
      split at hr
      · rename_i hlt2
        injection hr with q1 q2 q3
        have hfd : r / 2 ^ 52 * 2 ^ 52 + r % 2 ^ 52 = r := by omega
        have hmd : r % 2 ^ 52 < 2 ^ 52 := Nat.mod_lt _ (by decide)
        generalize r / 2 ^ 52 = f at *
        generalize r % 2 ^ 52 = g at *
        subst q3
        rw [norm_word s m (f - 1) (by omega) (by omega)] at hsp hnum
        have hlt3 : (f - 1 + 6) * 2 ^ 52 + m < 0x7ff0000000000000 := by
          rcases Nat.lt_or_ge ((f - 1 + 6) * 2 ^ 52 + m) 0x7ff0000000000000 with h | h
          · exact h
          · rw [Nat.min_eq_right h] at hnum
            exfalso
            have w1 : isNum (dbl.word true 0x7ff0000000000000) = false := by decide +kernel
            have w2 : isNum (dbl.word false 0x7ff0000000000000) = false := by decide +kernel
            cases hs : s
            · rw [hs, w2] at hnum; cases hnum
            · rw [hs, w1] at hnum; cases hnum
        rw [Nat.min_eq_left (Nat.le_of_lt hlt3)] at hsp
        rw [sc_word s _ (by omega) hlt3] at hsp
        have d1 : ((f - 1 + 6) * 2 ^ 52 + m) / 2 ^ 52 - 1 = f - 1 + 6 := by omega
        have d2 : 2 ^ 52 + ((f - 1 + 6) * 2 ^ 52 + m) % 2 ^ 52 = m := by omega
        rw [d1, d2] at hsp
        have hs : s = false := by
          cases hs : s
          · rfl
          · exfalso
            rw [hs] at hsp
            simp only [Ieee.signed, if_true] at hsp
            generalize m <<< (f - 1 + 6) = y at hsp
            omega
        rw [hs] at hsp q1
        simp only [Ieee.signed, Bool.false_eq_true, if_false, Nat.shiftLeft_eq] at hsp
        unfold U at hsp
        obtain ⟨L, l1, l2, l3, l4, l5⟩ := parts_of (f := f - 1) (m := m) hk1 hk2 (by omega) (by omega) (by rw [← Int.natCast_mul] at hsp; exact (Int.natCast_inj.1 hsp).symm)
        refine ⟨k, L, hk1, hk2, l1, l2, l3, ?_, ?_⟩
        · have : ¬ z = 1 := fun hz => by rw [hz] at q1; cases q1
          omega
        · rw [← l4]
          omega
      · split at hr <;> cases hr
end Go.Proofs.YtbcnhcpgloncdaaGreatDoor

/-
  FormatFloat AT A BOOST: the text, and what the code reckons.
-/
namespace Go.Proofs.YtbcnhcpgloncdaaGreatDoor
open Go.RowKit
/-- What x is, times 64. -/
def kOf (x : Nat) : Nat := (2 ^ 52 + x % 2 ^ 52) / 2 ^ (52 - (x % 2 ^ 63 / 2 ^ 52 - 1017))
/-- d / 10^6 with six places. -/
def fText (d : Nat) : List UInt8 :=
  (if 6 < (Lib.decDigits d).length then (Lib.decDigits d).take ((Lib.decDigits d).length - 6) else [48]) ++ (46 :: (List.replicate (6 - (Lib.decDigits d).length) 48 ++ (Lib.decDigits d).drop ((Lib.decDigits d).length - 6)))
/-- The text that FormatFloat gives of a boost. -/
def bText (x : Nat) : List UInt8 := fText (kOf x * 15625)

theorem kOf_eq {x k L : Nat} (hL : L ≤ 15) (h1 : 2 ^ L ≤ k) (h2 : k < 2 ^ (L + 1)) (h : x % 2 ^ 63 = (L + 1016) * 2 ^ 52 + k * 2 ^ (52 - L)) : kOf x = k := by
  have a1 : 2 ^ 52 ≤ k * 2 ^ (52 - L) := by
    calc 2 ^ 52 = 2 ^ L * 2 ^ (52 - L) := by rw [← Nat.pow_add, show L + (52 - L) = 52 by omega]
      _ ≤ _ := Nat.mul_le_mul_right _ h1
  have a2 : k * 2 ^ (52 - L) < 2 ^ 53 := by
    calc k * 2 ^ (52 - L) < 2 ^ (L + 1) * 2 ^ (52 - L) := Nat.mul_lt_mul_of_pos_right h2 (Nat.two_pow_pos _)
      _ = 2 ^ 53 := by rw [← Nat.pow_add, show L + 1 + (52 - L) = 53 by omega]
  have hp := Nat.two_pow_pos (52 - L)
  have e1 : x % 2 ^ 63 / 2 ^ 52 = L + 1017 := by
    generalize k * 2 ^ (52 - L) = y at *
    omega
  have e2 : 2 ^ 52 + x % 2 ^ 52 = k * 2 ^ (52 - L) := by
    have : x % 2 ^ 52 = x % 2 ^ 63 % 2 ^ 52 := by rw [Nat.mod_mod_of_dvd _ (by decide)]
    generalize k * 2 ^ (52 - L) = y at *
    omega
  unfold kOf
  rw [e1, e2, show L + 1017 - 1017 = L by omega, Nat.mul_div_cancel _ hp]

theorem pad_zeros : ∀ (l : List UInt8) (n : Nat), (∀ i c, n ≤ i → l[i]? = some c → c = 48) → l.take n ++ List.replicate (l.length - n) 48 = l
  | [], n, _ => by simp
  | c :: l, 0, h => by
    simp only [List.take_zero, List.nil_append, List.length_cons, Nat.sub_zero, List.replicate_succ]
    rw [h 0 c (Nat.le_refl _) rfl]
    have := pad_zeros l 0 (fun i c _ hc => h (i + 1) c (Nat.zero_le _) (by simpa using hc))
    simp at this
    rw [← this]; simp
  | c :: l, n + 1, h => by
    simp only [List.take_succ_cons, List.length_cons, List.cons_append]
    rw [show l.length + 1 - (n + 1) = l.length - n by omega, pad_zeros l n (fun i c hi hc => h (i + 1) c (by omega) (by simpa using hc))]

/-- The text's parts, as the code lays them. -/
theorem fText_parts (d : Nat) (nz : Nat) (hnz : nz ≤ (Lib.decDigits d).length) (h0 : ∀ i c, nz ≤ i → (Lib.decDigits d)[i]? = some c → c = 48) :
    fText d = (if 6 < (Lib.decDigits d).length then (Lib.decDigits d).take (min nz ((Lib.decDigits d).length - 6)) ++ List.replicate ((Lib.decDigits d).length - 6 - min nz ((Lib.decDigits d).length - 6)) 48 else [48]) ++
      (46 :: (List.replicate (6 - (Lib.decDigits d).length) 48 ++ (((Lib.decDigits d).drop ((Lib.decDigits d).length - 6)).take (nz - ((Lib.decDigits d).length - 6)) ++ List.replicate ((Lib.decDigits d).length - ((Lib.decDigits d).length - 6) - (nz - ((Lib.decDigits d).length - 6))) 48))) := by
  unfold fText
  generalize Lib.decDigits d = ds at *
  have e1 : ds.take (min nz (ds.length - 6)) ++ List.replicate (ds.length - 6 - min nz (ds.length - 6)) 48 = ds.take (ds.length - 6) := by
    have := pad_zeros (ds.take (ds.length - 6)) (min nz (ds.length - 6)) (fun i c hi hc => by
      rw [List.getElem?_take] at hc
      split at hc
      · exact h0 i c (by omega) hc
      · cases hc)
    rw [List.take_take, List.length_take] at this
    rw [show min (min nz (ds.length - 6)) (ds.length - 6) = min nz (ds.length - 6) by omega, show min (ds.length - 6) ds.length = ds.length - 6 by omega] at this
    exact this
  have e2 : (ds.drop (ds.length - 6)).take (nz - (ds.length - 6)) ++ List.replicate (ds.length - (ds.length - 6) - (nz - (ds.length - 6))) 48 = ds.drop (ds.length - 6) := by
    have := pad_zeros (ds.drop (ds.length - 6)) (nz - (ds.length - 6)) (fun i c hi hc => by
      rw [List.getElem?_drop] at hc
      exact h0 _ c (by omega) hc)
    rw [List.length_drop] at this
    exact this
  rw [e1, e2]

theorem fText_length (d : Nat) (h : (Lib.decDigits d).length ≤ 20) : (fText d).length ≤ 30 := by
  unfold fText
  generalize Lib.decDigits d = ds at *
  split <;> simp <;> omega

/-- How many digits the code asks for, and the power of ten it scales by. -/
def nL (L : Nat) : Nat := if 6 ≤ L then 7 + (L - 5) * 78913 / 262144 else 7 - (6 - L) * 78913 / 262144
def pL (L : Nat) : Nat := if L ≤ 5 ∨ L = 9 ∨ L = 12 ∨ L = 15 then 7 else 6
def lL (L : Nat) : Nat := if pL L = 7 then 23 else 19
def hiL (L : Nat) : Nat := if pL L = 7 then 78125 * 2 ^ 47 else 15625 * 2 ^ 50
def sL (L : Nat) : Nat := if pL L = 7 then 43 - L else 47 - L
def uL (L k : Nat) : Nat := if pL L = 7 then k * 625000 else k * 62500
theorem pL_or (L : Nat) : pL L = 7 ∨ (pL L ≠ 7 ∧ pL L = 6) := by unfold pL; split <;> simp
theorem L_tab : ∀ L : Fin 16, ((nL L.val : Int) - 1 - ((L.val : Int) - 6) * 78913 / 262144 = (pL L.val : Int)) ∧ ((pL L.val : Int) * 108853 / 32768 = (lL L.val : Int)) ∧ (-((L.val : Int) - 69 + (lL L.val : Int) + 3) = (sL L.val : Int)) ∧ nL L.val ≤ 10 ∧ 6 ≤ nL L.val ∧ sL L.val ≤ 63 := by decide +kernel

theorem L_le : ∀ L : Fin 16, pL L.val ≠ 7 → 2 ^ (L.val + 1) * 62500 + 2 ≤ 4 * 10 ^ nL L.val := by decide +kernel
theorem scaled {k L : Nat} (hL : L ≤ 15) : k * 2 ^ (63 - L) * hiL L / 18446744073709551616 = uL L k * 2 ^ sL L ∧ k * 2 ^ (63 - L) * hiL L % 18446744073709551616 = 0 := by
  have h64 : 18446744073709551616 = 2 ^ 64 := by decide
  have key : k * 2 ^ (63 - L) * hiL L = uL L k * 2 ^ sL L * 18446744073709551616 := by
    rw [h64]
    unfold hiL uL sL
    split
    · have : 2 ^ (63 - L) * 2 ^ 47 = 2 ^ 3 * 2 ^ (43 - L) * 2 ^ 64 := by rw [← Nat.pow_add, ← Nat.pow_add, ← Nat.pow_add]; congr 1; omega
      calc k * 2 ^ (63 - L) * (78125 * 2 ^ 47) = k * 78125 * (2 ^ (63 - L) * 2 ^ 47) := by ac_rfl
        _ = k * (78125 * 2 ^ 3) * 2 ^ (43 - L) * 2 ^ 64 := by rw [this]; ac_rfl
        _ = _ := by rw [show 78125 * 2 ^ 3 = 625000 by decide]
    · have : 2 ^ (63 - L) * 2 ^ 50 = 2 ^ 2 * 2 ^ (47 - L) * 2 ^ 64 := by rw [← Nat.pow_add, ← Nat.pow_add, ← Nat.pow_add]; congr 1; omega
      calc k * 2 ^ (63 - L) * (15625 * 2 ^ 50) = k * 15625 * (2 ^ (63 - L) * 2 ^ 50) := by ac_rfl
        _ = k * (15625 * 2 ^ 2) * 2 ^ (47 - L) * 2 ^ 64 := by rw [this]; ac_rfl
        _ = _ := by rw [show 15625 * 2 ^ 2 = 62500 by decide]
  rw [key]
  exact ⟨Nat.mul_div_cancel _ (by decide), Nat.mul_mod_left _ _⟩
end Go.Proofs.YtbcnhcpgloncdaaGreatDoor
