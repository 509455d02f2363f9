/-
  A BOOST READ BACK: k * 15625 / 10^6 is the boost's very bits.
-/
import Derived.Test.YtbcnhcpgloncdaaGreatDoorB1
import Derived.Test.YtbcnhcpgloncdaaGreatDoorA1
import Derived.IntWalk
import Derived.WalkMore
namespace Go.Proofs.YtbcnhcpgloncdaaGreatDoor
open Go.RowKit
open Ieee (Datum)

theorem log2_range {n a : Nat} (h1 : 2 ^ a ≤ n) (h2 : n < 2 ^ (a + 1)) : n.log2 = a := by
  have hn : n ≠ 0 := by have := Nat.two_pow_pos a; omega
  apply Nat.le_antisymm
  · have : n.log2 < a + 1 := (Nat.log2_lt hn).2 h2
    omega
  · exact (Nat.le_log2 hn).2 h1

/-- A whole number below 2^53: what its bits read as. -/
theorem ofInt_read (N : Nat) (h1 : 1 ≤ N) (h2 : N < 2 ^ 53) : dbl.read (floatOfInt .f64 (N : Int)) = .number false (N * 2 ^ (52 - N.log2)) ((N.log2 : Int) - 52) := by
  have hl : N.log2 ≤ 52 := by
    have : N.log2 < 53 := (Nat.log2_lt (by omega)).2 h2
    omega
  have h3 := Nat.log2_self_le (n := N) (by omega)
  have h4 := Nat.lt_log2_self (n := N)
  have hlo : 2 ^ 52 ≤ N * 2 ^ (52 - N.log2) := by
    calc 2 ^ 52 = 2 ^ N.log2 * 2 ^ (52 - N.log2) := by rw [← Nat.pow_add]; congr 1; omega
      _ ≤ _ := Nat.mul_le_mul_right _ h3
  have hhi : N * 2 ^ (52 - N.log2) < 2 ^ 53 := by
    calc N * 2 ^ (52 - N.log2) < 2 ^ (N.log2 + 1) * 2 ^ (52 - N.log2) := Nat.mul_lt_mul_of_pos_right h4 (Nat.two_pow_pos _)
      _ = 2 ^ 53 := by rw [← Nat.pow_add]; congr 1; omega
  have e : floatOfInt .f64 (N : Int) = dbl.word false ((N.log2 + 1022) * 2 ^ 52 + N * 2 ^ (52 - N.log2)) := by
    show dbl.nearest (decide ((N : Int) < 0)) (N : Int).natAbs 0 = _
    have hd : decide ((N : Int) < 0) = false := by simp
    rw [hd, Int.natAbs_natCast]
    unfold Ieee.Format.nearest
    rw [if_neg (by omega)]
    have e4 : dbl.leastPlace = -1074 := by decide
    have e5 : dbl.fractionBits = 52 := rfl
    have e2 : dbl.binade = 2 ^ 52 := rfl
    have e3 : dbl.infRung = 0x7ff0000000000000 := rfl
    rw [e4, e5, e2, e3]
    have hl : max (0 + (N.log2 : Int) - (52 : Nat)) (-1074) = (N.log2 : Int) - 52 := by omega
    rw [hl]
    dsimp only
    have a1 : ((0 : Int) - ((N.log2 : Int) - 52)).toNat = 52 - N.log2 := by omega
    have a2 : ((N.log2 : Int) - 52 - 0).toNat = 0 := by omega
    have a3 : ((N.log2 : Int) - 52 - (-1074)).toNat = N.log2 + 1022 := by omega
    rw [a1, a2, a3, Nat.shiftLeft_eq]
    have c := cut_even_pow false (N * 2 ^ (52 - N.log2)) 0 (Nat.mul_ne_zero (by omega) (Nat.ne_of_gt (Nat.two_pow_pos _)))
    rw [Nat.pow_zero, Nat.mul_one] at c
    rw [c]
    rw [Nat.min_eq_left (by generalize N * 2 ^ (52 - N.log2) = y at *; omega)]
  rw [e, word_read false _ (by generalize N * 2 ^ (52 - N.log2) = y at *; omega) (by generalize N * 2 ^ (52 - N.log2) = y at *; omega)]
  generalize N * 2 ^ (52 - N.log2) = y at *
  congr 1 <;> omega

/-- What quotient makes of two full significands whose quotient is whole. -/
theorem quotient_whole {m n r : Nat} {i j : Int} (hm1 : 2 ^ 52 ≤ m) (hm2 : m < 2 ^ 53) (hn1 : 2 ^ 52 ≤ n) (hn2 : n < 2 ^ 53) (hr : m * 2 ^ 54 = n * r) :
    Datum.quotient 54 (.number false m i) (.number false n j) = some (.number false (2 * r) (i - j - 54 - 1)) := by
  have e1 : m.log2 = 52 := log2_range hm1 hm2
  have e2 : n.log2 = 52 := log2_range hn1 hn2
  have hn : n ≠ 0 := by omega
  have e3 : m <<< (54 + 52 - 52) = n * r := by rw [Nat.shiftLeft_eq]; exact hr
  show (if n = 0 then (if m = 0 then none else some (Datum.infinity (false ^^ false))) else some (Datum.number (false ^^ false) (2 * ((m <<< (54 + n.log2 - m.log2)) / n) + ((m <<< (54 + n.log2 - m.log2)) % n != 0).toNat) (i - j - ((54 + n.log2 - m.log2 : Nat) : Int) - 1))) = _
  rw [if_neg hn, e1, e2, e3, Nat.mul_div_cancel_left r (Nat.pos_of_ne_zero hn), Nat.mul_mod_right]
  rfl

theorem read_1e6 : dbl.read f1e6 = .number false (15625 * 2 ^ 39) (-33) := by decide +kernel

/-- Written back: k / 64. -/
theorem write_boost {k L l : Nat} (_hk1 : 1 ≤ k) (hL : L ≤ 15) (hlo : 2 ^ L ≤ k) (hhi : k < 2 ^ (L + 1)) (hl1 : L + 13 ≤ l) (hl2 : l ≤ L + 14) :
    dbl.nearest false (2 * (k * 2 ^ (67 - l))) ((l : Int) - 52 - (-33) - 54 - 1) = (L + 1016) * 2 ^ 52 + k * 2 ^ (52 - L) := by
  have hp : 2 * (k * 2 ^ (67 - l)) = k * 2 ^ (52 - L) * 2 ^ (L + 16 - l) := by
    rw [Nat.mul_assoc, ← Nat.pow_add, ← Nat.mul_assoc, Nat.mul_comm 2 k, Nat.mul_assoc, ← Nat.pow_succ', show (67 - l).succ = 52 - L + (L + 16 - l) by omega]
  have a1 : 2 ^ 52 ≤ k * 2 ^ (52 - L) := by
    calc 2 ^ 52 = 2 ^ L * 2 ^ (52 - L) := by rw [← Nat.pow_add, show L + (52 - L) = 52 by omega]
      _ ≤ _ := Nat.mul_le_mul_right _ hlo
  have a2 : k * 2 ^ (52 - L) < 2 ^ 53 := by
    calc k * 2 ^ (52 - L) < 2 ^ (L + 1) * 2 ^ (52 - L) := Nat.mul_lt_mul_of_pos_right hhi (Nat.two_pow_pos _)
      _ = 2 ^ 53 := by rw [← Nat.pow_add, show L + 1 + (52 - L) = 53 by omega]
  rw [hp]
  generalize k * 2 ^ (52 - L) = m at *
  have hm0 : m ≠ 0 := by omega
  have hml : m.log2 = 52 := log2_range a1 a2
  have e2 : dbl.binade = 2 ^ 52 := rfl
  have e3 : dbl.infRung = 0x7ff0000000000000 := rfl
  have e4 : dbl.leastPlace = -1074 := by decide
  have e5 : dbl.fractionBits = 52 := rfl
  unfold Ieee.Format.nearest
  rw [if_neg (Nat.mul_ne_zero hm0 (Nat.ne_of_gt (Nat.two_pow_pos _))), e4, e5, e2, e3, log2_mul_pow _ _ hm0, hml]
  have hlast : max ((l : Int) - 52 - (-33) - 54 - 1 + ((52 + (L + 16 - l) : Nat) : Int) - (52 : Nat)) (-1074) = (L : Int) - 58 := by omega
  rw [hlast]
  dsimp only
  have b1 : ((l : Int) - 52 - (-33) - 54 - 1 - ((L : Int) - 58)).toNat = 0 := by omega
  have b2 : ((L : Int) - 58 - ((l : Int) - 52 - (-33) - 54 - 1)).toNat = L + 16 - l := by omega
  have b3 : ((L : Int) - 58 - (-1074)).toNat = L + 1016 := by omega
  rw [b1, b2, b3, Nat.shiftLeft_eq, Nat.pow_zero, Nat.mul_one, cut_even_pow false m _ hm0, Nat.min_eq_left (by omega)]
  rfl

/-- The boost, read back. -/
theorem boost_div {x : Nat} (hb : boostB x = true) (hx : x < 18446744073709551616) : dbl.div (floatOfInt .f64 ((kOf x * 15625 : Nat) : Int)) f1e6 = some x := by
  obtain ⟨k, L, hk1, hk2, hL, hlo, hhi, hs, hxb⟩ := boost_bits hb
  rw [kOf_eq hL hlo hhi hxb]
  have hN1 : 1 ≤ k * 15625 := by omega
  have hN2 : k * 15625 < 2 ^ 53 := by omega
  obtain ⟨l, hl⟩ : ∃ l, l = (k * 15625).log2 := ⟨_, rfl⟩
  have hl1 : L + 13 ≤ l := by
    rw [hl, Nat.le_log2 (by omega), Nat.pow_add]
    exact Nat.mul_le_mul hlo (by decide)
  have hl2 : l ≤ L + 14 := by
    have : l < L + 1 + 14 := by
      rw [hl, Nat.log2_lt (by omega), Nat.pow_add]
      exact Nat.mul_lt_mul_of_lt_of_le hhi (by decide) (by decide)
    omega
  have hread := ofInt_read (k * 15625) hN1 hN2
  rw [← hl] at hread
  have h3 := Nat.log2_self_le (n := k * 15625) (by omega)
  have h4 := Nat.lt_log2_self (n := k * 15625)
  rw [← hl] at h3 h4
  have c1 : 2 ^ 52 ≤ k * 15625 * 2 ^ (52 - l) := by
    calc 2 ^ 52 = 2 ^ l * 2 ^ (52 - l) := by rw [← Nat.pow_add]; congr 1; omega
      _ ≤ _ := Nat.mul_le_mul_right _ h3
  have c2 : k * 15625 * 2 ^ (52 - l) < 2 ^ 53 := by
    calc k * 15625 * 2 ^ (52 - l) < 2 ^ (l + 1) * 2 ^ (52 - l) := Nat.mul_lt_mul_of_pos_right h4 (Nat.two_pow_pos _)
      _ = 2 ^ 53 := by rw [← Nat.pow_add]; congr 1; omega
  have c3 : k * 15625 * 2 ^ (52 - l) * 2 ^ 54 = 15625 * 2 ^ 39 * (k * 2 ^ (67 - l)) := by
    have : 2 ^ (52 - l) * 2 ^ 54 = 2 ^ 39 * 2 ^ (67 - l) := by rw [← Nat.pow_add, ← Nat.pow_add, show 52 - l + 54 = 39 + (67 - l) by omega]
    calc k * 15625 * 2 ^ (52 - l) * 2 ^ 54 = k * 15625 * (2 ^ (52 - l) * 2 ^ 54) := by ac_rfl
      _ = k * 15625 * (2 ^ 39 * 2 ^ (67 - l)) := by rw [this]
      _ = _ := by ac_rfl
  unfold Ieee.Format.div
  rw [hread, read_1e6, show dbl.fractionBits + 2 = 54 from rfl, quotient_whole c1 c2 (by decide) (by decide) c3]
  simp only [Option.map_some, Ieee.Format.write]
  rw [write_boost hk1 hL hlo hhi hl1 hl2, ← hxb]
  congr 1
  omega
end Go.Proofs.YtbcnhcpgloncdaaGreatDoor

/-
  A BOOST's TEXT: digits, a point, six digits; what they count.
-/
namespace Go.Proofs.YtbcnhcpgloncdaaGreatDoor
open Go.RowKit

def isDig (c : UInt8) : Prop := 48 ≤ c.toNat ∧ c.toNat ≤ 57
def digVal (l : List UInt8) : Nat := l.foldl (fun a c => a * 10 + (c.toNat - 48)) 0
theorem digVal_snoc (l : List UInt8) (c : UInt8) : digVal (l ++ [c]) = digVal l * 10 + (c.toNat - 48) := by simp [digVal, List.foldl_append]
theorem digVal_zero (l : List UInt8) : digVal (48 :: l) = digVal l := rfl
theorem digVal_zeros : ∀ (n : Nat) (l : List UInt8), digVal (List.replicate n 48 ++ l) = digVal l
  | 0, l => by simp
  | n + 1, l => by
    rw [List.replicate_succ, List.cons_append, digVal_zero, digVal_zeros n l]
theorem digVal_lt : ∀ (n : Nat) (l : List UInt8), l.length = n → (∀ c ∈ l, isDig c) → digVal l < 10 ^ n
  | 0, l, h, _ => by
    obtain rfl : l = [] := List.eq_nil_of_length_eq_zero h
    decide
  | n + 1, l, h, hd => by
    rcases List.eq_nil_or_concat l with rfl | ⟨l', c, rfl⟩
    · cases h
    · rw [List.concat_eq_append] at *
      have hl : l'.length = n := by simpa using h
      have h1 := digVal_lt n l' hl fun c hc => hd c (by simp [hc])
      have h2 := hd c (by simp)
      unfold isDig at h2
      rw [digVal_snoc, Nat.pow_succ]
      omega
theorem dig_digit {i : Nat} (h : i < 10) : (UInt8.ofNat (48 + i)).toNat = 48 + i := by
  rw [UInt8.toNat_ofNat']
  exact Nat.mod_eq_of_lt (by omega)
theorem decDigits_val (u : Nat) : digVal (Lib.decDigits u) = u ∧ ∀ c ∈ Lib.decDigits u, isDig c := by
  induction u using Nat.strongRecOn with
  | _ u ih =>
    by_cases h : u < 10
    · rw [Lib.decDigits, dif_pos h]
      have e := dig_digit h
      refine ⟨?_, fun c hc => ?_⟩
      · show 0 * 10 + ((UInt8.ofNat (48 + u)).toNat - 48) = u
        rw [e]; omega
      · obtain rfl : c = UInt8.ofNat (48 + u) := by simpa using hc
        unfold isDig
        rw [e]; omega
    · obtain ⟨i1, i2⟩ := ih (u / 10) (by omega)
      have e := dig_digit (i := u % 10) (by omega)
      rw [Lib.decDigits, dif_neg h, digVal_snoc, i1, e]
      refine ⟨by omega, fun c hc => ?_⟩
      rcases List.mem_append.1 hc with hc | hc
      · exact i2 c hc
      · obtain rfl : c = UInt8.ofNat (48 + u % 10) := by simpa using hc
        unfold isDig
        rw [e]; omega
theorem pow_nDigits (u : Nat) (h1 : 1 ≤ u) : 10 ^ (Lib.nDigits u - 1) ≤ u := by
  induction u using Nat.strongRecOn with
  | _ u ih =>
    by_cases h : u < 10
    · rw [Lib.nDigits_small h]; simpa using h1
    · have := ih (u / 10) (by omega) (by omega)
      have hp := Lib.nDigits_pos (u / 10)
      rw [Lib.nDigits_big h, show Lib.nDigits (u / 10) + 1 - 1 = Lib.nDigits (u / 10) - 1 + 1 by omega, Nat.pow_succ]
      omega

/-- A text of digits, a point, six digits. -/
structure Numeral (l A B : List UInt8) (d : Nat) : Prop where
  is : l = A ++ 46 :: B
  six : B.length = 6
  some : 1 ≤ A.length
  few : A.length ≤ 10
  digs : ∀ c ∈ A ++ B, isDig c
  val : digVal (A ++ B) = d

theorem fText_numeral {d : Nat} (h1 : 1 ≤ d) (h2 : d ≤ 1000000000) : ∃ A B, Numeral (fText d) A B d := by
  obtain ⟨hv, hd⟩ := decDigits_val d
  have hp := Lib.nDigits_pos d
  have hlen := Lib.decDigits_length d
  have hle : Lib.nDigits d ≤ 10 := by
    have := pow_nDigits d h1
    rcases Nat.lt_or_ge 10 (Lib.nDigits d) with h | h
    · have : 10 ^ 10 ≤ 10 ^ (Lib.nDigits d - 1) := Nat.pow_le_pow_right (by decide) (by omega)
      omega
    · exact h
  rw [← hlen] at hp hle
  unfold fText
  generalize Lib.decDigits d = ds at *
  by_cases h6 : 6 < ds.length
  · refine ⟨ds.take (ds.length - 6), ds.drop (ds.length - 6), ?_, by rw [List.length_drop]; omega, by rw [List.length_take]; omega, by rw [List.length_take]; omega, ?_, ?_⟩
    · rw [if_pos h6, show 6 - ds.length = 0 by omega]; rfl
    · rw [List.take_append_drop]; exact hd
    · rw [List.take_append_drop]; exact hv
  · refine ⟨[48], List.replicate (6 - ds.length) 48 ++ ds.drop (ds.length - 6), ?_, by rw [List.length_append, List.length_replicate, List.length_drop]; omega, by decide, by decide, ?_, ?_⟩
    · rw [if_neg h6]
    · rw [show ds.length - 6 = 0 by omega, List.drop_zero]
      intro c hc
      rcases List.mem_append.1 hc with hc | hc
      · obtain rfl : c = 48 := by simpa using hc
        exact ⟨by decide, by decide⟩
      · rcases List.mem_append.1 hc with hc | hc
        · obtain ⟨-, rfl⟩ := List.mem_replicate.1 hc
          exact ⟨by decide, by decide⟩
        · exact hd c hc
    · rw [show ds.length - 6 = 0 by omega, List.drop_zero]
      show digVal (48 :: (List.replicate (6 - ds.length) 48 ++ ds)) = d
      rw [digVal_zero, digVal_zeros, hv]

theorem bText_numeral {x : Nat} (hb : boostB x = true) : ∃ A B, Numeral (bText x) A B (kOf x * 15625) := by
  obtain ⟨k, L, hk1, hk2, hL, hlo, hhi, hs, hxb⟩ := boost_bits hb
  have e := kOf_eq hL hlo hhi hxb
  exact fText_numeral (by omega) (by omega)
end Go.Proofs.YtbcnhcpgloncdaaGreatDoor

/-
  strconv.ParseFloat AT A BOOST's TEXT: it gives the boost.
-/
namespace Go.Proofs.YtbcnhcpgloncdaaGreatDoor
open Go.RowKit Go.Sort

theorem int_ne {a b : Int} (h : a ≠ b) : (a == b) = false := by simpa using h
theorem int_ne' {a b : Int} (h : a ≠ b) : (a != b) = true := by simpa using h
theorem or32 : ∀ n : Fin 256, ((48 ≤ n.val ∧ n.val ≤ 57) ∨ n.val = 46) → bits .or .u8 (n.val : Int) 32 = (n.val : Int) := by decide +kernel
theorem lower_dig (c : UInt8) (h : isDig c ∨ c.toNat = 46) (w : World) : Calls Tryz.prog 227 #[.int .u8 (c.toNat : Int)] w fun e w' => e = .returned (.int .u8 (c.toNat : Int)) ∧ w' = w := by
  have hb := or32 ⟨c.toNat, c.toNat_lt⟩ h
  dsimp only at hb
  have HB := hide hb
  clear hb
  go_enter Tryz.func227, Tryz.ntmps227
  go_wp2
  go_ret
  exact ⟨ret_int HB.out, rfl⟩

theorem special_dig (s : ByteArray) (h0 : 0 < s.size) (h : isDig s[0]) (w : World) : Calls Tryz.prog 198 #[.string s] w fun e w' => e = .returned (.tuple #[.float .f64 0, .int .i64 0, .bool false]) ∧ w' = w := by
  unfold isDig at h
  obtain ⟨c, hc⟩ : ∃ c, c = s[0].toNat := ⟨_, rfl⟩
  rw [← hc] at h
  have t1 : ((c : Int) == 43) = false := by simp; omega
  have t2 : ((c : Int) == 45) = false := by simp; omega
  have t3 : ((c : Int) == 105) = false := by simp; omega
  have t4 : ((c : Int) == 73) = false := by simp; omega
  have t5 : ((c : Int) == 110) = false := by simp; omega
  have t6 : ((c : Int) == 78) = false := by simp; omega
  rw [hc] at t1 t2 t3 t4 t5 t6
  have t0 : ((s.size : Int) == 0) = false := int_ne (by omega)
  clear hc
  go_enter Tryz.func198, Tryz.ntmps198
  go_wp2
  go_returns
  exact ⟨rfl, rfl⟩

/-- The digits read when k bytes are read. -/
def readN (A B : List UInt8) (k : Nat) : List UInt8 := (A ++ B).take (if k ≤ A.length then k else k - 1)
theorem num_at {l A B : List UInt8} {d : Nat} (h : Numeral l A B d) {k : Nat} (hk : k < l.length) :
    (k = A.length → l[k].toNat = 46 ∧ readN A B (k + 1) = readN A B k) ∧ (k ≠ A.length → isDig l[k] ∧ readN A B (k + 1) = readN A B k ++ [l[k]]) := by
  obtain ⟨rfl, h6, h1, h10, hd, -⟩ := h
  rw [List.length_append, List.length_cons] at hk
  constructor
  · rintro rfl
    refine ⟨by simp, ?_⟩
    unfold readN
    rw [if_neg (by omega), if_pos (Nat.le_refl _)]
    rfl
  · intro hne
    rcases Nat.lt_or_ge k A.length with hlt | hge
    · have e : (A ++ 46 :: B)[k]'(by simp; omega) = (A ++ B)[k]'(by simp; omega) := by
        rw [List.getElem_append_left hlt, List.getElem_append_left hlt]
      rw [e]
      refine ⟨hd _ (List.getElem_mem _), ?_⟩
      unfold readN
      rw [if_pos (by omega), if_pos (by omega), List.take_succ_eq_append_getElem]
    · obtain ⟨j, rfl⟩ : ∃ j, k = A.length + 1 + j := ⟨k - A.length - 1, by omega⟩
      have e : (A ++ 46 :: B)[A.length + 1 + j]'(by simp; omega) = (A ++ B)[A.length + j]'(by simp; omega) := by
        rw [List.getElem_append_right (by omega), List.getElem_append_right (by omega), List.getElem_cons]
        rw [dif_neg (by omega)]
        congr 1
        omega
      rw [e]
      refine ⟨hd _ (List.getElem_mem _), ?_⟩
      unfold readN
      rw [if_neg (by omega), if_neg (by omega), show A.length + 1 + j + 1 - 1 = A.length + j + 1 by omega, show A.length + 1 + j - 1 = A.length + j by omega, List.take_succ_eq_append_getElem]
theorem read_small {l A B : List UInt8} {d : Nat} (h : Numeral l A B d) (k : Nat) : digVal (readN A B k) < 10000000000000000 := by
  have hl : (readN A B k).length ≤ 16 := by
    unfold readN
    rw [List.length_take, List.length_append]
    have := h.six; have := h.few
    omega
  have h1 := digVal_lt _ (readN A B k) rfl fun c hc => h.digs c (List.mem_of_mem_take hc)
  have h2 : 10 ^ (readN A B k).length ≤ 10 ^ 16 := Nat.pow_le_pow_right (by decide) hl
  omega
theorem num_len {l A B : List UInt8} {d : Nat} (h : Numeral l A B d) : l.length = A.length + 7 := by
  rw [h.is, List.length_append, List.length_cons, h.six]
theorem read_all {l A B : List UInt8} {d : Nat} (h : Numeral l A B d) : digVal (readN A B l.length) = d := by
  unfold readN
  rw [if_neg (by rw [num_len h]; omega), List.take_of_length_le (by rw [num_len h, List.length_append, h.six]; omega)]
  exact h.val

theorem bs_get {l : List UInt8} {k : Nat} (hk : k < (bs l).size) : (bs l)[k] = l[k]'(by rw [← bs_size]; exact hk) := rfl

end Go.Proofs.YtbcnhcpgloncdaaGreatDoor

/-
  readFloat AT A NUMERAL.
-/
namespace Go.Proofs.YtbcnhcpgloncdaaGreatDoor
open Go.RowKit Go.Sort
set_option maxHeartbeats 2000000 in
set_option maxRecDepth 100000 in
theorem readFloat_any {l A B : List UInt8} {d : Nat} (h : Numeral l A B d) (hd0 : 0 < d) (w : World) :
    Calls Tryz.prog 199 #[.string (bs l)] w fun e w' => e = .returned (.tuple #[.int .u64 d, .int .i64 (-6), .bool false, .bool false, .bool false, .int .i64 l.length, .bool true]) ∧ w' = w := by
  have hnl := num_len h
  have h1 := h.some
  have h10 := h.few
  obtain ⟨s, hs⟩ : ∃ s, s = bs l := ⟨_, rfl⟩
  have hsz : s.size = l.length := by rw [hs, bs_size]
  obtain ⟨na, hna⟩ : ∃ n, n = A.length := ⟨_, rfl⟩
  have HAT : Hid (∀ (k : Nat) (hk : k < s.size), (k = na → s[k].toNat = 46 ∧ readN A B (k + 1) = readN A B k) ∧ (k ≠ na → isDig s[k] ∧ readN A B (k + 1) = readN A B k ++ [s[k]])) := hide (by
    subst hs; subst hna
    intro k hk
    exact num_at h (by rw [← bs_size]; exact hk))
  have HSM := hide (read_small h)
  have HALL := hide (read_all h)
  have HLEN : Hid (l.length = s.size) := hide hsz.symm
  rw [← hs]
  rw [← hna] at hnl h1 h10
  have hs7 : s.size = na + 7 := by omega
  have h0s : 0 < s.size := by omega
  have h1s : 1 < s.size := by omega
  have hz0 : (0 : Int) < (s.size : Int) := by omega
  have hz2 : (2 : Int) < (s.size : Int) := by omega
  have HS7 := hide hs7
  have d0 : isDig s[0] := ((HAT.out 0 h0s).2 (by omega)).1
  have d1 : isDig s[1] ∨ s[1].toNat = 46 := by
    by_cases e : 1 = na
    · exact Or.inr ((HAT.out 1 h1s).1 e).1
    · exact Or.inl ((HAT.out 1 h1s).2 e).1
  have D1 := hide d1
  have x1 : ((s[1].toNat : Int) == 120) = false := int_ne (by unfold isDig at d1; omega)
  have t1 : ((s[0].toNat : Int) == 43) = false := int_ne (by unfold isDig at d0; omega)
  have t2 : ((s[0].toNat : Int) == 45) = false := int_ne (by unfold isDig at d0; omega)
  have hg : decide ((s.size : Int) ≤ 0) = false := decide_eq_false (by omega)
  have hne : (s = ByteArray.empty) = False := by simp; intro e; rw [e] at h0s; exact absurd h0s (by decide)
  clear d1 d0 hs hsz hna hnl h hs7
  cases z0 : ((s[0].toNat : Int) == 48)
  all_goals
    go_enter Tryz.func199, Tryz.ntmps199
    go_wp2
    go_step3
    go_wp2_with (go_at_call 227; refine (lower_dig _ D1.out _).mono ?_; rintro e w' ⟨rfl, rfl⟩)
    go_step3
    go_wp2
    go_loop [2, 5, 7, 9, 13, 14, 15, 16, 17] (fun vm vt vi vu vd vg vn vq vp => ∃ (k n : Nat) (dp : Int) (sd sg : Bool), k ≤ s.size ∧ vm = .int .u64 (digVal (readN A B k)) ∧ vt = .bool false ∧ vi = .int .i64 k ∧ vu = .bool false ∧ vd = .bool sd ∧ vg = .bool sg ∧ vn = .int .i64 n ∧ vq = .int .i64 n ∧ vp = .int .i64 dp ∧ (k ≤ na → sd = false) ∧ (na < k → sd = true) ∧ (0 < k → sg = true) ∧ (k ≤ na → n ≤ k) ∧ (na < k → n + 1 ≤ k) ∧ (n = 0 → digVal (readN A B k) = 0) ∧ (na < k → dp = (n : Int) - (k - na - 1 : Nat)) ∧ -(k : Int) ≤ dp ∧ dp ≤ 20) (fun _ _ vi _ _ _ _ _ _ => s.size - (intOf vi).toNat)
    case atStart => exact ⟨0, 0, 0, false, false, Nat.zero_le _, rfl, rfl, rfl, rfl, rfl, rfl, rfl, rfl, rfl, fun _ => rfl, fun h => absurd h (Nat.not_lt_zero _), fun h => absurd h (Nat.lt_irrefl _), fun _ => Nat.le_refl _, fun h => absurd h (Nat.not_lt_zero _), fun _ => rfl, fun h => absurd h (Nat.not_lt_zero _), by decide, by decide⟩
    case round =>
      obtain ⟨k, n, dp, sd, sg, hk, rfl, rfl, rfl, rfl, rfl, rfl, rfl, rfl, rfl, hsd, hsd', hsg, hnk1, hnk2, hn0, hdp, hp1, hp2⟩ := hrel
      have hs7 := HS7.out
      have hn16 : n ≤ 16 := by
        by_cases e : k ≤ na
        · have := hnk1 e; omega
        · have := hnk2 (by omega); omega
      have hk17 : (k : Int) ≤ 17 := by omega
      have HNK := hide (And.intro hnk1 hnk2)
      clear hs7 hnk1 hnk2
      have HSD := hide hsd
      have HSD' := hide hsd'
      have HSG := hide hsg
      have HN0 := hide hn0
      have HDP := hide hdp
      have hm := HSM.out k
      obtain ⟨m, hmm⟩ : ∃ m, m = digVal (readN A B k) := ⟨_, rfl⟩
      rw [← hmm] at hm
      have HMM := hide hmm
      rw [← hmm]
      clear hsd hsd' hsg hn0 hdp hmm
      by_cases hlt : k < s.size
      · obtain ⟨a1, a2⟩ := HAT.out k hlt
        by_cases he : k = na
        · obtain rfl : k = na := he
          obtain ⟨b1, b2⟩ := a1 rfl
          have e1 : ((s[k].toNat : Int) == 95) = false := int_ne (by omega)
          have e2 : ((s[k].toNat : Int) == 46) = true := by rw [b1]; rfl
          obtain rfl : sd = false := HSD.out (by omega)
          have B2 := hide b2
          clear a1 a2 b1 b2
          go_wp2
          go_round
          case rel => exact ⟨k + 1, n, n, true, sg, by omega, by rw [B2.out, HMM.out], rfl, by go_num, rfl, rfl, rfl, rfl, rfl, rfl, fun h => by omega, fun _ => rfl, fun _ => HSG.out (by omega), fun h => by omega, fun _ => by have := HNK.out.1 (Nat.le_refl _); omega, fun h => by rw [B2.out]; exact HN0.out h, fun _ => by omega, by omega, by omega⟩
          case measure => simp [intOf]; omega
        · obtain ⟨b1, b2⟩ := a2 he
          unfold isDig at b1
          have e1 : ((s[k].toNat : Int) == 95) = false := int_ne (by omega)
          have e2 : ((s[k].toNat : Int) == 46) = false := int_ne (by omega)
          have e3 : (48 : Int) ≤ (s[k].toNat : Int) := by omega
          have e4 : (s[k].toNat : Int) ≤ 57 := by omega
          have B2 := hide b2
          have HV : Hid (digVal (readN A B (k + 1)) = m * 10 + (s[k].toNat - 48)) := hide (by rw [B2.out, digVal_snoc, HMM.out])
          clear a1 a2 b1 b2
          by_cases h48 : s[k].toNat = 48
          · have e5 : ((s[k].toNat : Int) == 48) = true := by rw [h48]; rfl
            have H48 := hide h48
            clear h48
            by_cases hn : n = 0
            · subst hn
              go_wp2
              go_round
              case rel => exact ⟨k + 1, 0, dp - 1, sd, true, by omega, by rw [HV.out, H48.out, HMM.out, HN0.out rfl], rfl, by go_num, rfl, rfl, rfl, rfl, rfl, rfl, fun h => HSD.out (by omega), fun h => HSD'.out (by omega), fun _ => rfl, fun _ => Nat.zero_le _, fun _ => by omega, fun _ => by rw [HV.out, H48.out, HMM.out, HN0.out rfl], fun h => by have := HDP.out (by omega); omega, by omega, by omega⟩
              case measure => simp [intOf]; omega
            · have e6 : ((n : Int) == 0) = false := int_ne (by omega)
              go_wp2
              go_round
              case rel => exact ⟨k + 1, n + 1, dp, sd, true, by omega, by rw [HV.out]; go_num, rfl, by go_num, rfl, rfl, rfl, by go_num, by go_num, rfl, fun h => HSD.out (by omega), fun h => HSD'.out (by omega), fun _ => rfl, fun h => by have := HNK.out.1 (by omega); omega, fun h => by have := HNK.out.2 (by omega); omega, fun h => by omega, fun h => by have := HDP.out (by omega); omega, by omega, by omega⟩
              case measure => simp [intOf]; omega
          · have e5 : ((s[k].toNat : Int) == 48) = false := int_ne (by omega)
            go_wp2
            go_round
            case rel => exact ⟨k + 1, n + 1, dp, sd, true, by omega, by rw [HV.out]; go_num, rfl, by go_num, rfl, rfl, rfl, by go_num, by go_num, rfl, fun h => HSD.out (by omega), fun h => HSD'.out (by omega), fun _ => rfl, fun h => by have := HNK.out.1 (by omega); omega, fun h => by have := HNK.out.2 (by omega); omega, fun h => by omega, fun h => by have := HDP.out (by omega); omega, by omega, by omega⟩
            case measure => simp [intOf]; omega
      · have hd : decide (k < s.size) = false := by simpa using hlt
        obtain rfl : k = s.size := by omega
        have hs7 := HS7.out
        obtain rfl : sd = true := HSD'.out (by omega)
        obtain rfl : sg = true := HSG.out (by omega)
        have hpd : dp - (n : Int) = -6 := by have := HDP.out (by omega); omega
        have hmd : m = d := by rw [HMM.out, ← HLEN.out]; exact HALL.out
        obtain rfl : m = d := hmd
        have hm0 : ((m : Int) != 0) = true := int_ne' (by omega)
        have HPD := hide hpd
        clear hs7 hpd
        go_wp2
        go_returns
        exact ⟨by rw [HPD.out, HLEN.out], rfl⟩
end Go.Proofs.YtbcnhcpgloncdaaGreatDoor

/-
  strconv.ParseFloat AT A BOOST's TEXT.
-/
namespace Go.Proofs.YtbcnhcpgloncdaaGreatDoor
open Go.RowKit Go.Sort

/-- What ParseFloat reads of the library's tables. -/
structure GlobP (w : World) : Prop where
  opt : w.cell? ⟨3, 0, none⟩ = some (.bool true)
  info : w.cell? ⟨5, 0, none⟩ = some (.int .u64 52)
  ten : ∃ R o cap, w.cell? ⟨12, 0, none⟩ = some (.slice (some ⟨R, o, none⟩) 23 cap) ∧ w.cell? ⟨R, o + 6, none⟩ = some (.float .f64 f1e6)
theorem GlobP.below {w w' : World} (h : GlobP w) (hb : Below w.heap.size w w') : GlobP w' := by
  have hc : ∀ b o v, w.cell? ⟨b, o, none⟩ = some v → w'.cell? ⟨b, o, none⟩ = some v := fun b o v hv => (hb.cell (World.block_lt_of_cell? w _ hv)).trans hv
  obtain ⟨h1, h2, R, o, cap, h3, h4⟩ := h
  exact ⟨hc _ _ _ h1, hc _ _ _ h2, R, o, cap, hc _ _ _ h3, hc _ _ _ h4⟩

theorem run_div {a b q : Nat} (h : dbl.div a b = some q) (w : World) : (binOp .quo 22 (.float .f64 a) (.float .f64 b)).run Tryz.prog w = .ok (.float .f64 q) w := run_float_arith (P := Tryz.prog) w .quo 22 .f64 a b q h

set_option maxHeartbeats 1000000 in
theorem exact_any {m x : Nat} (hm : m < 4503599627370496) (hd : dbl.div (floatOfInt .f64 (m : Int)) f1e6 = some x) (w : World) (hG : GlobP w) :
    Calls Tryz.prog 209 #[.int .u64 m, .int .i64 (-6), .bool false] w fun e w' => e = .returned (.tuple #[.float .f64 x, .bool true]) ∧ w' = w := by
  obtain ⟨g1, g2, R, o, cap, g3, g4⟩ := hG
  have hsh : (m : Int) / 4503599627370496 = 0 := by omega
  have hr := run_div hd
  clear hd
  go_enter Tryz.func209, Tryz.ntmps209
  go_wp2
  go_returns
  exact ⟨rfl, rfl⟩
theorem bool2_no (w : World) : Calls Tryz.prog 207 #[.bool false] w fun e w' => e = .returned (.int .u64 0) ∧ w' = w := by
  go_enter Tryz.func207, Tryz.ntmps207
  go_wp2
  go_returns
  exact ⟨rfl, rfl⟩

set_option maxHeartbeats 1000000 in
set_option maxRecDepth 100000 in
theorem atof64_any {l A B : List UInt8} {d x : Nat} (h : Numeral l A B d) (hd0 : 0 < d) (hd1 : d < 4503599627370496) (hd : dbl.div (floatOfInt .f64 (d : Int)) f1e6 = some x) (w : World) (hG : GlobP w) :
    Calls Tryz.prog 172 #[.string (bs l)] w fun e w' => e = .returned (.tuple #[.float .f64 x, .int .i64 l.length, .nilIface]) ∧ w' = w := by
  have HN := hide h
  have HX := hide (exact_any hd1 hd w hG)
  have h0 : 0 < (bs l).size := by rw [bs_size, num_len h]; omega
  have h1 : isDig (bs l)[0] := by
    have := (num_at h (k := 0) (by rw [num_len h]; omega)).2 (by have := h.some; omega)
    exact this.1
  have HS := hide (special_dig (bs l) h0 h1 w)
  have g1 := hG.opt
  have t0 : ((d : Int) == 0) = false := int_ne (by omega)
  clear hd hG h h0 h1
  go_enter Tryz.func172, Tryz.ntmps172
  go_wp2_with fail
  refine HS.out.mono ?_
  rintro e w1 ⟨rfl, rfl⟩
  go_wp2_with fail
  refine (readFloat_any HN.out hd0 _).mono ?_
  rintro e w2 ⟨rfl, rfl⟩
  go_wp2_with fail
  refine (bool2_no _).mono ?_
  rintro e w3 ⟨rfl, rfl⟩
  go_wp2_with fail
  refine HX.out.mono ?_
  rintro e w4 ⟨rfl, rfl⟩
  go_wp2_with fail
  go_returns
  exact ⟨rfl, rfl⟩

set_option maxHeartbeats 1000000 in
set_option maxRecDepth 100000 in
theorem parseFloat_any {l A B : List UInt8} {d x : Nat} (h : Numeral l A B d) (hd0 : 0 < d) (hd1 : d < 4503599627370496) (hd : dbl.div (floatOfInt .f64 (d : Int)) f1e6 = some x) (w : World) (hG : GlobP w) :
    Calls Tryz.prog 66 #[.string (bs l), .int .i64 64] w fun e w' => e = .returned (.tuple #[.float .f64 x, .nilIface]) ∧ w' = w := by
  have HA := hide (atof64_any h hd0 hd1 hd w hG)
  have hsz : ((bs l).size : Int) = (l.length : Int) := by rw [bs_size]
  have hne : ((l.length : Int) != ((bs l).size : Int)) = false := by rw [hsz]; simp
  have HSZ := hide hsz
  clear h hd hG hsz
  go_enter Tryz.func66, Tryz.ntmps66
  go_wp2_with (first | (go_at_call 172; refine HA.out.mono ?_; rintro e w1 ⟨rfl, rfl⟩) | go_in)
  go_returns
  exact ⟨rfl, rfl⟩

/-- ParseFloat gives a boost's text back. -/
theorem parse_boost {x : Nat} (h : boostB x = true ∧ x < 18446744073709551616) (w : World) (hG : GlobP w) :
    Calls Tryz.prog 66 #[.string (bs (bText x)), .int .i64 64] w fun e w' => e = .returned (.tuple #[.float .f64 x, .nilIface]) ∧ w' = w := by
  obtain ⟨A, B, hn⟩ := bText_numeral h.1
  obtain ⟨k, L, hk1, hk2, hL, hlo, hhi, hs, hxb⟩ := boost_bits h.1
  have e := kOf_eq hL hlo hhi hxb
  exact parseFloat_any hn (by omega) (by omega) (boost_div h.1 h.2) w hG
end Go.Proofs.YtbcnhcpgloncdaaGreatDoor
