/-
  TO LOWER-CASE TWICE IS TO LOWER-CASE ONCE.
-/
import Derived.Test.YtbcnhcpgloncdaaGreatDoorA3
import Derived.Lib.MapLaws
namespace Go.Proofs.YtbcnhcpgloncdaaGreatDoor
open Go.Lib

theorem byte_nat {k : Nat} (h : k < 256) : (k.toUInt8).toNat = k := by
  rw [show k.toUInt8 = UInt8.ofNat k from rfl, UInt8.toNat_ofNat']
  omega
theorem enc_one {n : Nat} (h : n ≤ 127) : encodeRune (n : Int) = [n.toUInt8] := by
  unfold encodeRune
  rw [encodeRuneZ_one (by omega) (by omega)]
  rfl
theorem enc_two {n : Nat} (h0 : 128 ≤ n) (h1 : n ≤ 2047) : encodeRune (n : Int) = [(192 + n / 64).toUInt8, (128 + n % 64).toUInt8] := by
  unfold encodeRune
  rw [encodeRuneZ_two (by omega) (by omega)]
  show [((192 + (n : Int) / 64).toNat).toUInt8, ((128 + (n : Int) % 64).toNat).toUInt8] = _
  rw [show (192 + (n : Int) / 64).toNat = 192 + n / 64 by omega, show (128 + (n : Int) % 64).toNat = 128 + n % 64 by omega]
theorem enc_three {n : Nat} (h : (2048 ≤ n ∧ n < 55296) ∨ (57343 < n ∧ n ≤ 65535)) : encodeRune (n : Int) = [(224 + n / 4096).toUInt8, (128 + n / 64 % 64).toUInt8, (128 + n % 64).toUInt8] := by
  unfold encodeRune
  rw [encodeRuneZ_three (by omega)]
  show [((224 + (n : Int) / 4096).toNat).toUInt8, ((128 + (n : Int) / 64 % 64).toNat).toUInt8, ((128 + (n : Int) % 64).toNat).toUInt8] = _
  rw [show (224 + (n : Int) / 4096).toNat = 224 + n / 4096 by omega, show (128 + (n : Int) / 64 % 64).toNat = 128 + n / 64 % 64 by omega, show (128 + (n : Int) % 64).toNat = 128 + n % 64 by omega]
theorem enc_four {n : Nat} (h0 : 65536 ≤ n) (h1 : n ≤ 1114111) : encodeRune (n : Int) = [(240 + n / 262144).toUInt8, (128 + n / 4096 % 64).toUInt8, (128 + n / 64 % 64).toUInt8, (128 + n % 64).toUInt8] := by
  unfold encodeRune
  rw [encodeRuneZ_four (by omega) (by omega)]
  show [((240 + (n : Int) / 262144).toNat).toUInt8, ((128 + (n : Int) / 4096 % 64).toNat).toUInt8, ((128 + (n : Int) / 64 % 64).toNat).toUInt8, ((128 + (n : Int) % 64).toNat).toUInt8] = _
  rw [show (240 + (n : Int) / 262144).toNat = 240 + n / 262144 by omega, show (128 + (n : Int) / 4096 % 64).toNat = 128 + n / 4096 % 64 by omega, show (128 + (n : Int) / 64 % 64).toNat = 128 + n / 64 % 64 by omega, show (128 + (n : Int) % 64).toNat = 128 + n % 64 by omega]
theorem enc_bad {z : Int} (h : z < 0 ∨ (55296 ≤ z ∧ z ≤ 57343) ∨ 1114111 < z) : encodeRune z = encodeRune ((65533 : Nat) : Int) := by
  rw [enc_three (by omega)]
  unfold encodeRune
  rw [encodeRuneZ_bad h]
  rfl

/-- What a valid rune's bytes are decoded to. -/
theorem decode_encode {n : Nat} (t : List UInt8) (hv : n < 55296 ∨ (57344 ≤ n ∧ n ≤ 1114111)) : decodeL (encodeRune (n : Int) ++ t) = (n, (encodeRune (n : Int)).length) := by
  rcases Nat.lt_or_ge n 128 with h1 | h1
  · rw [enc_one (by omega), decodeL_N]
    simp only [List.singleton_append, List.getD_cons_zero, List.length_cons, byte_nat (show n < 256 by omega)]
    unfold decodeN
    rw [if_pos h1]
    rfl
  · rcases Nat.lt_or_ge n 2048 with h2 | h2
    · rw [enc_two h1 (by omega), decodeL_N]
      simp only [List.cons_append, List.nil_append, List.getD_cons_zero, List.getD_cons_succ, List.length_cons, byte_nat (show 192 + n / 64 < 256 by omega), byte_nat (show 128 + n % 64 < 256 by omega)]
      unfold decodeN
      rw [if_neg (by omega), if_pos ⟨by omega, by omega, by omega⟩, if_pos (by omega)]
      exact Prod.ext (show (192 + n / 64) % 32 * 64 + (128 + n % 64) % 64 = n by omega) rfl
    · rcases Nat.lt_or_ge n 65536 with h3 | h3
      · rw [enc_three (by omega), decodeL_N]
        simp only [List.cons_append, List.nil_append, List.getD_cons_zero, List.getD_cons_succ, List.length_cons, byte_nat (show 224 + n / 4096 < 256 by omega), byte_nat (show 128 + n / 64 % 64 < 256 by omega), byte_nat (show 128 + n % 64 < 256 by omega)]
        have e : (224 + n / 4096) % 16 * 4096 + (128 + n / 64 % 64) % 64 * 64 + (128 + n % 64) % 64 = n := by omega
        unfold decodeN
        rw [if_neg (by omega), if_neg (by omega), if_pos ⟨by omega, ⟨by omega, by omega⟩, by omega, by omega⟩, e, if_pos (by omega)]
        rfl
      · rw [enc_four h3 (by omega), decodeL_N]
        simp only [List.cons_append, List.nil_append, List.getD_cons_zero, List.getD_cons_succ, List.length_cons, byte_nat (show 240 + n / 262144 < 256 by omega), byte_nat (show 128 + n / 4096 % 64 < 256 by omega), byte_nat (show 128 + n / 64 % 64 < 256 by omega), byte_nat (show 128 + n % 64 < 256 by omega)]
        have e : (240 + n / 262144) % 8 * 262144 + (128 + n / 4096 % 64) % 64 * 4096 + (128 + n / 64 % 64) % 64 * 64 + (128 + n % 64) % 64 = n := by omega
        unfold decodeN
        rw [if_neg (by omega), if_neg (by omega), if_neg (by omega), if_pos ⟨by omega, ⟨by omega, by omega⟩, ⟨by omega, by omega⟩, by omega, by omega⟩, e, if_pos (by omega)]
        rfl

/-! ### the table -/
def okR (r : Nat) : Bool := decide (0 ≤ toLowerU r) && decide (toLowerU (toLowerU r) = toLowerU r)
theorem rows_ok : caseT.all (fun x => x.2.2.2.1 == 0 || (List.range (x.2.1 - x.1 + 1)).all fun k => okR (x.1 + k)) = true := by decide +kernel

theorem lookup_in (r : Int) : ∀ (f lo hi i : Nat), lookupIdx caseA r f lo hi = some i → i < hi ∧ ((caseA.getD i (0, 0, 0, 0, 0)).1 : Int) ≤ r ∧ r ≤ ((caseA.getD i (0, 0, 0, 0, 0)).2.1 : Int)
  | 0, _, _, _, h => by simp [lookupIdx] at h
  | f + 1, lo, hi, i, h => by
    unfold lookupIdx at h
    split at h
    · rename_i hlt
      split at h
      · rename_i hin
        cases h
        exact ⟨by omega, hin.1, hin.2⟩
      · split at h
        · have := lookup_in r f _ _ i h
          exact ⟨by omega, this.2⟩
        · exact lookup_in r f _ _ i h
    · cases h

theorem lower_ok (r : Nat) : 0 ≤ toLowerU (r : Int) ∧ toLowerU (toLowerU (r : Int)) = toLowerU (r : Int) := by
  by_cases h1 : (r : Int) ≤ 127
  · by_cases h2 : 65 ≤ (r : Int) ∧ (r : Int) ≤ 90
    · have e : toLowerU (r : Int) = (r : Int) + 32 := by unfold toLowerU; rw [if_pos h1, if_pos h2]
      rw [e]
      refine ⟨by omega, ?_⟩
      unfold toLowerU
      rw [if_pos (by omega), if_neg (by omega)]
    · have e : toLowerU (r : Int) = (r : Int) := by unfold toLowerU; rw [if_pos h1, if_neg h2]
      rw [e]
      exact ⟨by omega, e⟩
  · have e0 : toLowerU (r : Int) = toR caseA 1 (r : Int) := by unfold toLowerU; rw [if_neg h1]
    have triv : toLowerU (r : Int) = (r : Int) → 0 ≤ toLowerU (r : Int) ∧ toLowerU (toLowerU (r : Int)) = toLowerU (r : Int) := fun e => by
      rw [e]; exact ⟨by omega, e⟩
    cases hl : lookupIdx caseA (r : Int) (caseA.size + 1) 0 caseA.size with
    | none =>
      refine triv ?_
      rw [e0]
      unfold toR lookupGo
      rw [hl]
      rfl
    | some i =>
      obtain ⟨hi, ha, hb⟩ := lookup_in _ _ _ _ _ hl
      have hm : caseA.getD i (0, 0, 0, 0, 0) ∈ caseT := by
        have : caseA.getD i (0, 0, 0, 0, 0) = caseA[i] := by simp [Array.getD, hi]
        rw [this]
        exact List.mem_toArray.1 (Array.getElem_mem hi)
      have hrow := List.all_eq_true.1 rows_ok _ hm
      have e1 : toR caseA 1 (r : Int) = convertR 1 (r : Int) (caseA.getD i (0, 0, 0, 0, 0)) := by
        unfold toR lookupGo
        rw [hl]
        rfl
      generalize caseA.getD i (0, 0, 0, 0, 0) = x at *
      rw [Bool.or_eq_true] at hrow
      rcases hrow with h | h
      · refine triv ?_
        have hd : x.2.2.2.1 = 0 := by simpa using h
        rw [e0, e1]
        show (if x.2.2.2.1 > 1114111 then _ else (r : Int) + x.2.2.2.1) = _
        rw [hd, if_neg (by omega)]
        omega
      · have hk := List.all_eq_true.1 h (r - x.1) (List.mem_range.2 (by omega))
        rw [show x.1 + (r - x.1) = r by omega] at hk
        unfold okR at hk
        simp only [Bool.and_eq_true, decide_eq_true_eq] at hk
        exact hk

/-- A rune's bytes are those of a valid rune that ToLower leaves as it is. -/
theorem lower_rune (r : Nat) : ∃ n : Nat, (n < 55296 ∨ (57344 ≤ n ∧ n ≤ 1114111)) ∧ toLowerU (n : Int) = (n : Int) ∧ encodeRune (toLowerU (r : Int)) = encodeRune (n : Int) := by
  obtain ⟨h0, h1⟩ := lower_ok r
  obtain ⟨m, hm⟩ := Int.eq_ofNat_of_zero_le h0
  rw [hm] at h1 ⊢
  by_cases hv : m < 55296 ∨ (57344 ≤ m ∧ m ≤ 1114111)
  · exact ⟨m, hv, h1, rfl⟩
  · exact ⟨65533, by omega, by decide +kernel, enc_bad (by omega)⟩

theorem lowerD_idem : ∀ (n : Nat) (l : List UInt8), l.length ≤ n → toLowerD (toLowerD l) = toLowerD l
  | 0, l, h => by
    obtain rfl := List.eq_nil_of_length_eq_zero (Nat.le_zero.1 h)
    rfl
  | n + 1, l, h => by
    by_cases hne : l = []
    · subst hne; rfl
    · have hw := decodeL_width l
      have hl : 0 < l.length := List.length_pos_iff.2 hne
      obtain ⟨m, hv, hlm, he⟩ := lower_rune (decodeL l).1
      have h1 : toLowerD l = encodeRune (m : Int) ++ toLowerD (l.drop (decodeL l).2) := by
        show mapD toLowerU l = _
        rw [mapD_step _ _ hne, if_pos (lower_ok _).1, he]
        rfl
      have hne2 : encodeRune (m : Int) ++ toLowerD (l.drop (decodeL l).2) ≠ [] := by
        intro h9
        have := congrArg List.length h9
        rw [List.length_append, List.length_nil] at this
        have h8 := (runeCells_le (m : Int)).1
        rw [runeCells_length] at h8
        omega
      have ih := lowerD_idem n (l.drop (decodeL l).2) (by rw [List.length_drop]; omega)
      rw [h1]
      show mapD toLowerU (encodeRune (m : Int) ++ toLowerD (l.drop (decodeL l).2)) = _
      rw [mapD_step _ _ hne2, decode_encode _ hv, hlm, if_pos (by omega), List.drop_left]
      show encodeRune (m : Int) ++ toLowerD (toLowerD (l.drop (decodeL l).2)) = _
      rw [ih]
theorem lower_idem (s : ByteArray) : lowerB (lowerB s) = lowerB s := by
  unfold lowerB
  show (⟨(toLowerD (toLowerD s.data.toList)).toArray⟩ : ByteArray) = _
  rw [lowerD_idem _ _ (Nat.le_refl _)]
end Go.Proofs.YtbcnhcpgloncdaaGreatDoor
