/-
  A BOOST IS k / 64 WITH 1 <= k <= 64000: its bits.
-/
import Derived.Test.YtbcnhcpgloncdaaGreatDoorFit
namespace Go.Proofs.YtbcnhcpgloncdaaGreatDoor
open Go.RowKit
open Ieee (Datum)

theorem cut_even_pow (s : Bool) (m d : Nat) (hm : m ≠ 0) : Ieee.Toward.cut .even s (m * 2 ^ d) d = m := by
  unfold Ieee.Toward.cut
  have hd : min d ((m * 2 ^ d).log2 + 2) = d := by
    have : d ≤ (m * 2 ^ d).log2 := by
      rw [Nat.le_log2 (by exact Nat.mul_ne_zero hm (Nat.ne_of_gt (Nat.two_pow_pos _)))]
      exact Nat.le_mul_of_pos_left _ (Nat.pos_of_ne_zero hm)
    omega
  simp only [hd, Nat.shiftLeft_eq, Nat.one_mul]
  have h2 := Nat.two_pow_pos d
  rw [Nat.mul_mod_left, Nat.mul_div_cancel _ h2]
  have e1 : decide (2 ^ d < 2 * 0) = false := by simp
  have e2 : (2 ^ d == 2 * 0) = false := by simp
  rw [e1, e2]; simp
theorem log2_mul_pow (m d : Nat) (hm : m ≠ 0) : (m * 2 ^ d).log2 = m.log2 + d := by
  have h := Nat.two_pow_pos d
  have hne : m * 2 ^ d ≠ 0 := Nat.mul_ne_zero hm (Nat.ne_of_gt h)
  apply Nat.le_antisymm
  · have : (m * 2 ^ d).log2 < m.log2 + d + 1 := by
      rw [Nat.log2_lt hne, show m.log2 + d + 1 = (m.log2 + 1) + d by omega, Nat.pow_add]
      exact Nat.mul_lt_mul_of_pos_right Nat.lt_log2_self h
    omega
  · rw [Nat.le_log2 hne, Nat.pow_add]
    exact Nat.mul_le_mul_right _ (Nat.log2_self_le hm)

theorem word_read (s : Bool) (r : Nat) (h1 : 2 ^ 52 ≤ r) (h2 : r < 0x7ff0000000000000) : dbl.read (dbl.word s r) = .number s (2 ^ 52 + r % 2 ^ 52) (-1074 + (r / 2 ^ 52 - 1 : Nat)) := by
  unfold Ieee.Format.read
  have e1 : dbl.signWeight = 2 ^ 63 := rfl
  have e2 : dbl.binade = 2 ^ 52 := rfl
  have e3 : dbl.infRung = 0x7ff0000000000000 := rfl
  have e4 : dbl.leastPlace = -1074 := by decide
  have e5 : (dbl.word s r / 2 ^ 63 % 2 == 1) = s := by
    unfold Ieee.Format.word; rw [e1]
    cases s
    · have : r / 2 ^ 63 % 2 = 0 := by omega
      simp only [Bool.false_eq_true, if_false, this]; rfl
    · have : (2 ^ 63 + r) / 2 ^ 63 % 2 = 1 := by omega
      simp only [if_true, this]; rfl
  have e6 : dbl.word s r % 2 ^ 63 = r := by
    unfold Ieee.Format.word; rw [e1]
    cases s
    · simp only [Bool.false_eq_true, if_false]; omega
    · simp only [if_true]; omega
  rw [e1, e2, e3, e4, e6, e5]
  dsimp only
  rw [if_neg (by omega), if_pos (by omega)]
  
theorem sc_word (s : Bool) (r : Nat) (h1 : 2 ^ 52 ≤ r) (h2 : r < 0x7ff0000000000000) : sc (dbl.word s r) = Ieee.signed s (2 ^ 52 + r % 2 ^ 52) (r / 2 ^ 52 - 1) := by
  unfold sc
  rw [word_read s r h1 h2]
  simp only
  congr 1
  omega

theorem E0_split (a b : Nat) (h : a + b = 1074) : 2 ^ E0 = 2 ^ a * 2 ^ b := by
  have he : E0 = a + b := by rw [E0_is]; omega
  rw [← Nat.pow_add, he]
theorem U_split (a b : Nat) (h : a + b = 1074) : U = ((2 ^ a * 2 ^ b : Nat) : Int) := by
  unfold U; rw [E0_split a b h]
/-- A whole number's bits. -/
theorem ofInt_sc (k : Nat) (h1 : 1 ≤ k) (h2 : k ≤ 64000) : sc (floatOfInt .f64 (k : Int)) = (k : Int) * U := by
  have hlog : k.log2 ≤ 15 := by
    have : k.log2 < 16 := (Nat.log2_lt (by omega)).2 (by omega)
    omega
  have h3 := Nat.log2_self_le (n := k) (by omega)
  have h4 := Nat.lt_log2_self (n := k)
  have hmin : (k.log2 + 1022) * 2 ^ 52 + k * 2 ^ (52 - k.log2) ≤ 0x7ff0000000000000 := by
    have h5 : k * 2 ^ (52 - k.log2) < 2 ^ 53 := by
      calc k * 2 ^ (52 - k.log2) < 2 ^ (k.log2 + 1) * 2 ^ (52 - k.log2) := Nat.mul_lt_mul_of_pos_right h4 (Nat.two_pow_pos _)
        _ = 2 ^ 53 := by rw [← Nat.pow_add]; congr 1; omega
    clear h3 h4
    generalize k.log2 = l at *
    generalize k * 2 ^ (52 - l) = y at *
    omega
  have e : floatOfInt .f64 (k : Int) = dbl.word false ((k.log2 + 1022) * 2 ^ 52 + k * 2 ^ (52 - k.log2)) := by
    show dbl.nearest (decide ((k : Int) < 0)) (k : Int).natAbs 0 = _
    have hd : decide ((k : Int) < 0) = false := by simp
    rw [hd, Int.natAbs_natCast]
    unfold Ieee.Format.nearest
    rw [if_neg (by omega)]
    have e4 : dbl.leastPlace = -1074 := by decide
    have e5 : dbl.fractionBits = 52 := rfl
    have e2 : dbl.binade = 2 ^ 52 := rfl
    have e3 : dbl.infRung = 0x7ff0000000000000 := rfl
    rw [e4, e5, e2, e3]
    have hl : max (0 + (k.log2 : Int) - (52 : Nat)) (-1074) = (k.log2 : Int) - 52 := by omega
    rw [hl]
    dsimp only
    have a1 : ((0 : Int) - ((k.log2 : Int) - 52)).toNat = 52 - k.log2 := by omega
    have a2 : ((k.log2 : Int) - 52 - 0).toNat = 0 := by omega
    have a3 : ((k.log2 : Int) - 52 - (-1074)).toNat = k.log2 + 1022 := by omega
    rw [a1, a2, a3, Nat.shiftLeft_eq]
    have c := cut_even_pow false (k * 2 ^ (52 - k.log2)) 0 (Nat.mul_ne_zero (by omega) (Nat.ne_of_gt (Nat.two_pow_pos _)))
    rw [Nat.pow_zero, Nat.mul_one] at c
    rw [c]
    rw [Nat.min_eq_left hmin]
  have hlo : 2 ^ 52 ≤ k * 2 ^ (52 - k.log2) := by
    calc 2 ^ 52 = 2 ^ k.log2 * 2 ^ (52 - k.log2) := by rw [← Nat.pow_add]; congr 1; omega
      _ ≤ _ := Nat.mul_le_mul_right _ h3
  have hhi : k * 2 ^ (52 - k.log2) < 2 ^ 53 := by
    calc k * 2 ^ (52 - k.log2) < 2 ^ (k.log2 + 1) * 2 ^ (52 - k.log2) := Nat.mul_lt_mul_of_pos_right h4 (Nat.two_pow_pos _)
      _ = 2 ^ 53 := by rw [← Nat.pow_add]; congr 1; omega
  have hU : U = ((2 ^ (52 - k.log2) * 2 ^ (k.log2 + 1022) : Nat) : Int) := by
    exact U_split (52 - k.log2) (k.log2 + 1022) (by omega)
  rw [e, sc_word false _ (by omega) (by omega), hU]
  generalize 2 ^ (52 - k.log2) = P at *
  generalize hm : k * P = m at *
  have d1 : ((k.log2 + 1022) * 2 ^ 52 + m) / 2 ^ 52 - 1 = k.log2 + 1022 := by omega
  have d2 : 2 ^ 52 + ((k.log2 + 1022) * 2 ^ 52 + m) % 2 ^ 52 = m := by omega
  rw [d1, d2]
  simp only [Ieee.signed, Bool.false_eq_true, if_false, Nat.shiftLeft_eq]
  rw [← hm]
  push_cast
  rw [Int.mul_assoc]

theorem signed_small (s : Bool) (m j : Nat) (h1 : m < 2 ^ 53) (h2 : j ≤ 15) : Ieee.signed s m j < 2 ^ 68 := by
  have : m <<< j < 2 ^ 68 := by
    rw [Nat.shiftLeft_eq]
    calc m * 2 ^ j ≤ m * 2 ^ 15 := Nat.mul_le_mul_left _ (Nat.pow_le_pow_right (by decide) h2)
      _ < 2 ^ 53 * 2 ^ 15 := Nat.mul_lt_mul_of_pos_right h1 (by decide)
      _ = 2 ^ 68 := by decide
  cases s <;> simp only [Ieee.signed, Bool.false_eq_true, if_false, if_true] <;> generalize m <<< j = z at * <;> omega

theorem low_word (s : Bool) (R : Nat) (h : R < 2 ^ 52) : sc (dbl.word s R) = Ieee.signed s R 0 := by
  have e1 : dbl.signWeight = 2 ^ 63 := rfl
  have e2 : dbl.binade = 2 ^ 52 := rfl
  have e4 : dbl.leastPlace = -1074 := by decide
  unfold sc Ieee.Format.read
  rw [e1, e2, e4]
  have f6 : dbl.word s R % 2 ^ 63 = R := by
    unfold Ieee.Format.word; rw [e1]
    cases s
    · simp only [Bool.false_eq_true, if_false]; omega
    · simp only [if_true]; omega
  have f5 : (dbl.word s R / 2 ^ 63 % 2 == 1) = s := by
    unfold Ieee.Format.word; rw [e1]
    cases s
    · have : R / 2 ^ 63 % 2 = 0 := by omega
      simp only [Bool.false_eq_true, if_false, this]; rfl
    · have : (2 ^ 63 + R) / 2 ^ 63 % 2 = 1 := by omega
      simp only [if_true, this]; rfl
  rw [f6, f5]
  dsimp only
  rw [if_pos h]
  rfl

theorem sub_word (s : Bool) (r : Nat) (hlt : r < 2 ^ 52) : ∃ R, dbl.nearest s (r * 2 ^ 52) (-1074 + -46) = dbl.word s R ∧ R < 16 * 2 ^ 52 := by
  have e2 : dbl.binade = 2 ^ 52 := rfl
  have e3 : dbl.infRung = 0x7ff0000000000000 := rfl
  have e4 : dbl.leastPlace = -1074 := by decide
  have e5 : dbl.fractionBits = 52 := rfl
  unfold Ieee.Format.nearest
  split
  · exact ⟨0, rfl, by decide⟩
  · rename_i hm0
    have hm : r ≠ 0 := fun h => hm0 (by rw [h, Nat.zero_mul])
    clear hm0
    have hlr : r.log2 < 52 := (Nat.log2_lt hm).2 hlt
    have hls := Nat.lt_log2_self (n := r)
    rw [e4, e5, e2, e3, log2_mul_pow _ _ hm]
    refine ⟨_, rfl, Nat.lt_of_le_of_lt (Nat.min_le_left _ _) ?_⟩
    rcases Nat.lt_or_ge 46 r.log2 with hc | hc
    · have hl : max ((-1074 : Int) + -46 + ((r.log2 + 52 : Nat) : Int) - (52 : Nat)) (-1074) = (r.log2 : Int) - 1120 := by omega
      rw [hl]
      have a1 : ((-1074 : Int) + -46 - ((r.log2 : Int) - 1120)).toNat = 0 := by omega
      have a2 : ((r.log2 : Int) - 1120 - ((-1074 : Int) + -46)).toNat = r.log2 := by omega
      have a3 : ((r.log2 : Int) - 1120 - (-1074)).toNat = r.log2 - 46 := by omega
      rw [a1, a2, a3, Nat.shiftLeft_eq, Nat.pow_zero, Nat.mul_one]
      have e : r * 2 ^ 52 = (r * 2 ^ (52 - r.log2)) * 2 ^ r.log2 := by rw [Nat.mul_assoc, ← Nat.pow_add, show 52 - r.log2 + r.log2 = 52 by omega]
      rw [e, cut_even_pow s _ _ (Nat.mul_ne_zero hm (Nat.ne_of_gt (Nat.two_pow_pos _)))]
      have h1 : r * 2 ^ (52 - r.log2) < 2 ^ 53 := by
        calc r * 2 ^ (52 - r.log2) < 2 ^ (r.log2 + 1) * 2 ^ (52 - r.log2) := Nat.mul_lt_mul_of_pos_right hls (Nat.two_pow_pos _)
          _ = 2 ^ 53 := by rw [← Nat.pow_add, show r.log2 + 1 + (52 - r.log2) = 53 by omega]
      have h2 : (r.log2 - 46) * 2 ^ 52 ≤ 5 * 2 ^ 52 := Nat.mul_le_mul_right _ (by omega)
      omega
    · have hl : max ((-1074 : Int) + -46 + ((r.log2 + 52 : Nat) : Int) - (52 : Nat)) (-1074) = -1074 := by omega
      rw [hl]
      have a1 : ((-1074 : Int) + -46 - (-1074)).toNat = 0 := by omega
      have a2 : ((-1074 : Int) - ((-1074 : Int) + -46)).toNat = 46 := by omega
      have a3 : ((-1074 : Int) - (-1074)).toNat = 0 := by omega
      rw [a1, a2, a3, Nat.shiftLeft_eq, Nat.pow_zero, Nat.mul_one]
      have e : r * 2 ^ 52 = (r * 2 ^ 6) * 2 ^ 46 := by rw [Nat.mul_assoc, ← Nat.pow_add]
      rw [e, cut_even_pow s _ _ (Nat.mul_ne_zero hm (by decide))]
      have h4 : r < 2 ^ 47 := Nat.lt_of_lt_of_le hls (Nat.pow_le_pow_right (by decide) (by omega))
      omega

theorem norm_word (s : Bool) (m f : Nat) (h1 : 2 ^ 52 ≤ m) (h2 : m < 2 ^ 53) : dbl.nearest s (m * 2 ^ 52) (-1074 + (f : Int) + -46) = dbl.word s (min ((f + 6) * 2 ^ 52 + m) 0x7ff0000000000000) := by
  have e2 : dbl.binade = 2 ^ 52 := rfl
  have e3 : dbl.infRung = 0x7ff0000000000000 := rfl
  have e4 : dbl.leastPlace = -1074 := by decide
  have e5 : dbl.fractionBits = 52 := rfl
  have hm0 : m ≠ 0 := by omega
  have hml : m.log2 = 52 := by
    apply Nat.le_antisymm
    · have : m.log2 < 53 := (Nat.log2_lt hm0).2 h2
      omega
    · exact (Nat.le_log2 hm0).2 h1
  unfold Ieee.Format.nearest
  rw [if_neg (Nat.mul_ne_zero hm0 (by decide)), e4, e5, e2, e3, log2_mul_pow _ _ hm0, hml]
  have hl : max (-1074 + (f : Int) + -46 + ((52 + 52 : Nat) : Int) - (52 : Nat)) (-1074) = (f : Int) + 6 - 1074 := by omega
  rw [hl]
  dsimp only
  have a1 : (-1074 + (f : Int) + -46 - ((f : Int) + 6 - 1074)).toNat = 0 := by omega
  have a2 : ((f : Int) + 6 - 1074 - (-1074 + (f : Int) + -46)).toNat = 52 := by omega
  have a3 : ((f : Int) + 6 - 1074 - (-1074)).toNat = f + 6 := by omega
  rw [a1, a2, a3, Nat.shiftLeft_eq, Nat.pow_zero, Nat.mul_one, cut_even_pow s m 52 hm0]

theorem parts_of {k m f : Nat} (hk1 : 1 ≤ k) (hk2 : k ≤ 64000) (h1 : 2 ^ 52 ≤ m) (h2 : m < 2 ^ 53) (heq : k * 2 ^ E0 = m * 2 ^ (f + 6)) :
    ∃ L, L ≤ 15 ∧ 2 ^ L ≤ k ∧ k < 2 ^ (L + 1) ∧ m = k * 2 ^ (52 - L) ∧ f = L + 1016 := by
  have hf : f + 6 ≤ 1074 := by
    rcases Nat.lt_or_ge 1074 (f + 6) with hc | hc
    · exfalso
      have h3 : 2 ^ E0 * 2 ≤ 2 ^ (f + 6) := by rw [← Nat.pow_succ]; exact Nat.pow_le_pow_right (by decide) (by rw [E0_is]; omega)
      have h2 := Nat.mul_le_mul h1 h3
      rw [← heq] at h2
      have hz := Nat.two_pow_pos E0
      generalize 2 ^ E0 = P at *
      have : k * P ≤ 64000 * P := Nat.mul_le_mul_right _ hk2
      omega
    · exact hc
  have heq2 : m = k * 2 ^ (1074 - (f + 6)) := by
    rw [E0_split (1074 - (f + 6)) (f + 6) (by omega), ← Nat.mul_assoc] at heq
    exact (Nat.eq_of_mul_eq_mul_right (Nat.two_pow_pos _) heq).symm
  obtain ⟨j, hj⟩ : ∃ j, j = 1074 - (f + 6) := ⟨_, rfl⟩
  rw [← hj] at heq2
  have hj52 : j ≤ 52 := by
    rcases Nat.lt_or_ge 52 j with hc | hc
    · exfalso
      have : 2 ^ 53 ≤ 2 ^ j := Nat.pow_le_pow_right (by decide) hc
      have : 1 * 2 ^ j ≤ k * 2 ^ j := Nat.mul_le_mul_right _ hk1
      omega
    · exact hc
  have hj37 : 37 ≤ j := by
    rcases Nat.lt_or_ge j 37 with hc | hc
    · exfalso
      have : 2 ^ j ≤ 2 ^ 36 := Nat.pow_le_pow_right (by decide) (by omega)
      have : k * 2 ^ j ≤ 64000 * 2 ^ 36 := Nat.mul_le_mul hk2 this
      omega
    · exact hc
  refine ⟨52 - j, by omega, ?_, ?_, ?_, by omega⟩
  · have : 2 ^ (52 - j) * 2 ^ j ≤ k * 2 ^ j := by rw [← Nat.pow_add, show 52 - j + j = 52 by omega]; omega
    exact Nat.le_of_mul_le_mul_right this (Nat.two_pow_pos _)
  · have : k * 2 ^ j < 2 ^ (52 - j + 1) * 2 ^ j := by rw [← Nat.pow_add, show 52 - j + 1 + j = 53 by omega]; omega
    exact Nat.lt_of_mul_lt_mul_right this
  · rw [show 52 - (52 - j) = j by omega]; exact heq2

/-- What a number of the boost range is. -/
theorem whole_of_boost {p : Nat} (g1 : geB p f1 = true) (g2 : leB p f64k = true) (g3 : intEq p = true) : ∃ k : Nat, 1 ≤ k ∧ k ≤ 64000 ∧ isNum p = true ∧ sc p = (k : Int) * U := by
  have hnum : isNum p = true := num_between (by decide +kernel) (by decide +kernel) g1 g2
  have s1 := (geB_sc hnum (by decide +kernel)).1 g1
  have s2 := (leB_sc hnum (by decide +kernel)).1 g2
  rw [sc_1] at s1
  rw [sc_64k] at s2
  have hU := U_pos
  have h0 : 0 ≤ sc p := by omega
  obtain ⟨i1, i2, i3⟩ := int_small hnum h0 (by omega)
  have hq : ∃ k : Nat, (sc p / U) = (k : Int) ∧ 1 ≤ k ∧ k ≤ 64000 := by
    refine ⟨(sc p / U).toNat, by omega, ?_, ?_⟩
    · have : (1 : Int) ≤ sc p / U := (Int.le_ediv_iff_mul_le hU).2 (by omega)
      omega
    · have : sc p / U ≤ 64000 := Int.ediv_le_of_le_mul hU s2
      omega
  obtain ⟨k, hk, hk1, hk2⟩ := hq
  unfold intEq at g3
  rw [i1, hk] at g3
  simp only at g3
  have hof := ofInt_sc k hk1 hk2
  have hpos := Int.mul_pos (show (0 : Int) < k by omega) hU
  have hfi : isNum (floatOfInt .f64 (k : Int)) = true := by
    rw [← Bool.not_eq_false]
    intro hn
    unfold isNum at hn
    unfold sc at hof
    cases hz : dbl.read (floatOfInt .f64 (k : Int)) with
    | number s m i => rw [hz] at hn; cases hn
    | infinity _ => rw [hz] at hof; simp only at hof; omega
    | nan _ _ => rw [hz] at hof; simp only at hof; omega
  have hh : dbl.order (floatOfInt .f64 (k : Int)) p = some .eq := eq_of_beq g3
  rw [order_num hfi hnum] at hh
  have := Int.compare_eq_eq.1 (Option.some.inj hh)
  exact ⟨k, hk1, hk2, hnum, by rw [← this, hof]⟩

/-- A boost is k / 64: its bits. -/
theorem boost_bits {x : Nat} (h : boostB x = true) : ∃ k L : Nat, 1 ≤ k ∧ k ≤ 64000 ∧ L ≤ 15 ∧ 2 ^ L ≤ k ∧ k < 2 ^ (L + 1) ∧ x / 2 ^ 63 % 2 = 0 ∧ x % 2 ^ 63 = (L + 1016) * 2 ^ 52 + k * 2 ^ (52 - L) := by
  unfold boostB at h
  have e1 : dbl.signWeight = 2 ^ 63 := rfl
  have e2 : dbl.binade = 2 ^ 52 := rfl
  have e3 : dbl.infRung = 0x7ff0000000000000 := rfl
  have e4 : dbl.leastPlace = -1074 := by decide
  have e6 : dbl.read f64 = .number false (2 ^ 52) (-46) := by decide +kernel
  unfold Ieee.Format.mul at h
  rw [e6] at h
  cases hr : dbl.read x with
  | nan s f => rw [hr] at h; simp [Datum.product] at h
  | infinity s =>
    exfalso
    rw [hr] at h
    have : (Datum.product (.infinity s) (.number false (2 ^ 52) (-46))) = some (.infinity s) := by cases s <;> rfl
    rw [this] at h
    simp only [Option.map_some, Ieee.Format.write, Bool.and_eq_true] at h
    cases s
    · have : leB (dbl.word false dbl.infRung) f64k = false := by decide +kernel
      rw [this] at h; simp at h
    · have : geB (dbl.word true dbl.infRung) f1 = false := by decide +kernel
      rw [this] at h; simp at h
  | number s m i =>
    rw [hr] at h
    simp only [Datum.product, Bool.bne_false, Option.map_some, Ieee.Format.write, Bool.and_eq_true] at h
    obtain ⟨g1, g2, g3⟩ := h
    obtain ⟨k, hk1, hk2, hnum, hsp⟩ := whole_of_boost g1 g2 g3
    clear g1 g2 g3
    have hpos : U ≤ (k : Int) * U := by
      have := Int.mul_le_mul_of_nonneg_right (show (1 : Int) ≤ k by omega) (Int.le_of_lt U_pos)
      omega
    have hU := U_pos
    unfold Ieee.Format.read at hr
    rw [e1, e2, e3, e4] at hr
    dsimp only at hr
    have hrl : x % 2 ^ 63 < 2 ^ 63 := Nat.mod_lt _ (by decide)
    have hmz : x / 2 ^ 63 % 2 < 2 := Nat.mod_lt _ (by decide)
    generalize x % 2 ^ 63 = r at *
    generalize x / 2 ^ 63 % 2 = z at *
    split at hr
    · rename_i hlt
      exfalso
      injection hr with q1 q2 q3
      subst q2; subst q3
      obtain ⟨R, hR, hR2⟩ := sub_word s r hlt
      rw [hR] at hsp
      have hUb : (2 : Int) ^ 68 ≤ U := by
        rw [U_split 68 1006 rfl]
        have := Nat.two_pow_pos 1006
        generalize 2 ^ 1006 = P at *
        omega
      rcases Nat.lt_or_ge R (2 ^ 52) with hc | hc
      · rw [low_word s R hc] at hsp
        have := signed_small s R 0 (by omega) (by omega)
        omega
      · rw [sc_word s R hc (by omega)] at hsp
        have := signed_small s (2 ^ 52 + R % 2 ^ 52) (R / 2 ^ 52 - 1) (by omega) (by omega)
        omega
    · rename_i hge
      split at hr
      · rename_i hlt2
        injection hr with q1 q2 q3
        have hfd : r / 2 ^ 52 * 2 ^ 52 + r % 2 ^ 52 = r := by omega
        have hmd : r % 2 ^ 52 < 2 ^ 52 := Nat.mod_lt _ (by decide)
        generalize r / 2 ^ 52 = f at *
        generalize r % 2 ^ 52 = g at *
        subst q3
        rw [norm_word s m (f - 1) (by omega) (by omega)] at hsp hnum
        have hlt3 : (f - 1 + 6) * 2 ^ 52 + m < 0x7ff0000000000000 := by
          rcases Nat.lt_or_ge ((f - 1 + 6) * 2 ^ 52 + m) 0x7ff0000000000000 with h | h
          · exact h
          · rw [Nat.min_eq_right h] at hnum
            exfalso
            have w1 : isNum (dbl.word true 0x7ff0000000000000) = false := by decide +kernel
            have w2 : isNum (dbl.word false 0x7ff0000000000000) = false := by decide +kernel
            cases hs : s
            · rw [hs, w2] at hnum; cases hnum
            · rw [hs, w1] at hnum; cases hnum
        rw [Nat.min_eq_left (Nat.le_of_lt hlt3)] at hsp
        rw [sc_word s _ (by omega) hlt3] at hsp
        have d1 : ((f - 1 + 6) * 2 ^ 52 + m) / 2 ^ 52 - 1 = f - 1 + 6 := by omega
        have d2 : 2 ^ 52 + ((f - 1 + 6) * 2 ^ 52 + m) % 2 ^ 52 = m := by omega
        rw [d1, d2] at hsp
        have hs : s = false := by
          cases hs : s
          · rfl
          · exfalso
            rw [hs] at hsp
            simp only [Ieee.signed, if_true] at hsp
            generalize m <<< (f - 1 + 6) = y at hsp
            omega
        rw [hs] at hsp q1
        simp only [Ieee.signed, Bool.false_eq_true, if_false, Nat.shiftLeft_eq] at hsp
        unfold U at hsp
        obtain ⟨L, l1, l2, l3, l4, l5⟩ := parts_of (f := f - 1) (m := m) hk1 hk2 (by omega) (by omega) (by rw [← Int.natCast_mul] at hsp; exact (Int.natCast_inj.1 hsp).symm)
        refine ⟨k, L, hk1, hk2, l1, l2, l3, ?_, ?_⟩
        · have : ¬ z = 1 := fun hz => by rw [hz] at q1; cases q1
          omega
        · rw [← l4]
          omega
      · split at hr <;> cases hr
end Go.Proofs.YtbcnhcpgloncdaaGreatDoor
