/-
  fixedWidthFloat OF A BOOST.
-/
import Derived.Test.YtbcnhcpgloncdaaGreatDoorFa
import Derived.Test.YtbcnhcpgloncdaaGreatDoorFf
namespace Go.Proofs.YtbcnhcpgloncdaaGreatDoor
open Go.RowKit
theorem k_four (k : Nat) : k * 62500 = 4 * (k * 15625) := by rw [Nat.mul_left_comm]
theorem k_ten (k : Nat) : k * 625000 = k * 62500 * 10 := by rw [Nat.mul_assoc]
theorem k_even (k : Nat) : (k * 62500) % 2 = 0 := by omega
theorem k_le (k : Nat) (h : k ≤ 64000) : k * 62500 ≤ 10000000000 ∧ k * 15625 ≤ 10000000000 := by omega
theorem lt_unmin (v tn : Nat) (a : Int) (h1 : 1 ≤ tn) (h : v < 4 * tn - 2) (ha : a = (tn : Int) * 4 - 2) : (v : Int) < a := by omega

set_option maxHeartbeats 1000000 in
/-- fixedWidthFloat of k / 64. -/
theorem fixed_any {k L : Nat} (_hk1 : 1 ≤ k) (hk2 : k ≤ 64000) (hL : L ≤ 15) (_hlo : 2 ^ L ≤ k) (hhi : k < 2 ^ (L + 1)) (w : World)
    (c1 : w.cell? ⟨13, 708, none⟩ = some (.int .u64 17592186044416000000)) (c2 : w.cell? ⟨13, 709, none⟩ = some (.int .u64 0))
    (c3 : w.cell? ⟨13, 710, none⟩ = some (.int .u64 10995116277760000000)) (c4 : w.cell? ⟨13, 711, none⟩ = some (.int .u64 0))
    (cP : ∀ i : Nat, i < 20 → w.cell? ⟨9, i, none⟩ = some (.int .u64 ((10 ^ i : Nat) : Int)))
    (M : ∀ y z w, y < 18446744073709551616 → z < 18446744073709551616 → Calls Tryz.prog 262 #[.int .u64 (y : Nat), .int .u64 (z : Nat)] w fun e w' => e = .returned (.tuple #[.int .u64 ((y * z / 18446744073709551616 : Nat) : Int), .int .u64 ((y * z % 18446744073709551616 : Nat) : Int)]) ∧ w' = w) :
    Calls Tryz.prog 193 #[.int .u64 ((k * 2 ^ (63 - L) : Nat) : Int), .int .i64 ((L : Int) - 69), .int .i64 (nL L), .int .i64 6, .int .u8 102] w fun r w' => r = .returned (.tuple #[.int .u64 ((k * 15625 : Nat) : Int), .int .i64 (-6)]) ∧ Below w.heap.size w w' := by
  have hev := k_even k
  have hd4 := k_four k
  obtain ⟨hkk, hkq⟩ := k_le k hk2
  obtain ⟨t1, t2, t3, t4, t5, t6⟩ := L_tab ⟨L, by omega⟩
  simp only at t1 t2 t3 t4 t5 t6
  have t7 := L_le ⟨L, by omega⟩
  simp only at t7
  have hsc := scaled (k := k) hL
  have hx : k * 2 ^ (63 - L) < 18446744073709551616 := by
    calc k * 2 ^ (63 - L) < 2 ^ (L + 1) * 2 ^ (63 - L) := Nat.mul_lt_mul_of_pos_right hhi (Nat.two_pow_pos _)
      _ = 18446744073709551616 := by rw [← Nat.pow_add, show L + 1 + (63 - L) = 64 by omega]
  have hp : ((pL L : Int) = 6 ∧ (hiL L : Int) = 17592186044416000000) ∨ ((pL L : Int) = 7 ∧ (hiL L : Int) = 10995116277760000000) := by
    unfold hiL
    rcases pL_or L with h | ⟨h, h6⟩
    · right; rw [if_pos h, h]; exact ⟨rfl, by decide⟩
    · left; rw [if_neg h, h6]; exact ⟨rfl, by decide⟩
  have hu : (pL L = 7 ∧ uL L k = k * 62500 * 10) ∨ (pL L ≠ 7 ∧ pL L = 6 ∧ uL L k = k * 62500) := by
    unfold uL
    rcases pL_or L with h | ⟨h, h6⟩
    · left; rw [if_pos h]; exact ⟨h, k_ten k⟩
    · right; rw [if_neg h]; exact ⟨h, h6, rfl⟩
  have hh : hiL L < 18446744073709551616 := by rcases hp with ⟨-, h⟩ | ⟨-, h⟩ <;> omega
  have cN := cP (nL L) (by omega)
  generalize hX : k * 2 ^ (63 - L) = X at *
  generalize nL L = n at *
  generalize pL L = p at *
  generalize hiL L = hi at *
  generalize sL L = s at *
  generalize uL L k = u at *
  generalize lL L = lp at *
  have t1' : (n : Int) - 1 - ((L : Int) - 69 + 63) * 78913 / 262144 = (p : Int) := by rw [show (L : Int) - 69 + 63 = L - 6 by omega]; exact t1
  clear t1
  have hl7 : p ≠ 7 → k * 62500 < 4 * 10 ^ n - 2 := fun h => by have := t7 h; have := Nat.mul_le_mul_right 62500 hhi; omega
  clear t7
  obtain ⟨v, hv⟩ : ∃ v, v = k * 62500 := ⟨_, rfl⟩
  obtain ⟨q, hq⟩ : ∃ q, q = k * 15625 := ⟨_, rfl⟩
  rw [← hv] at hev hd4 hkk hl7 hu
  rw [← hq] at hd4 hkq
  rw [← hq]
  clear hv hq
  have hM := hide M
  have HP := hide cP
  obtain ⟨sc1, sc2⟩ := hsc
  have SC1 := hide sc1
  have SC2 := hide sc2
  have T3 := hide t3
  have HPP := hide hp
  have HU := hide hu
  have hpl : 6 ≤ p ∧ p ≤ 7 := by rcases hp with ⟨h, -⟩ | ⟨h, -⟩ <;> omega
  have hlp : lp ≤ 30 := by omega
  clear M cP sc1 sc2 hX t3 hp hu _hlo hhi
  go_enter Tryz.func193, Tryz.ntmps193
  go_wp2_with fail
  refine (log10_any _ (by omega) (by omega) _).mono ?_
  rintro e w1 ⟨rfl, rfl⟩
  go_wp2_with fail
  refine (log2_any _ (by omega) (by omega) _).mono ?_
  rintro e w2 ⟨rfl, rfl⟩
  go_wp2_with fail
  have hlt : 13 < w1.heap.size := World.block_lt_of_cell? w1 _ c1
  have al : ∀ (b o : Nat) v (x : Obj), w1.cell? ⟨b, o, none⟩ = some v → (w1.alloc x).cell? ⟨b, o, none⟩ = some v := fun b o v x h => (World.cell?_alloc_lt _ _ _ (World.block_lt_of_cell? _ _ h)).trans h
  refine (prescale_any p (L - 69) lp s hi HPP.out (by omega) (by omega) (by omega) (by omega) T3.out _ _ (al _ _ _ _ c1) (al _ _ _ _ c2) (al _ _ _ _ c3) (al _ _ _ _ c4) (heap_alloc_new _ _)).mono ?_
  rintro e w2 ⟨rfl, hpre, hb2⟩
  have hb2' : Below w1.heap.size w1 w2 := ((Below.refl _ _).alloc (Nat.le_refl _) _).trans hb2
  have cN2 : w2.cell? ⟨9, n, none⟩ = some (.int .u64 ((10 ^ n : Nat) : Int)) := (hb2'.cell (World.block_lt_of_cell? _ _ cN)).trans cN
  clear al c1 c2 c3 c4 cN HP
  have hU1 : u ≤ 1000000000000000000 := by rcases HU.out with ⟨-, h⟩ | ⟨-, -, h⟩ <;> omega
  have HB2 := hide hb2'
  clear hb2 hb2'
  go_wp2_with fail
  refine (uscale_any X hi s u hx hh t6 hU1 SC1.out SC2.out _ _ hpre hM.out).mono ?_
  rintro e w3 ⟨rfl, hb3⟩
  have cN3 : w3.cell? ⟨9, n, none⟩ = some (.int .u64 ((10 ^ n : Nat) : Int)) := (hb3.cell (World.block_lt_of_cell? _ _ cN2)).trans cN2
  have HB3 := hide (HB2.out.trans (hb3.mono HB2.out.size))
  have h10 : 10 ^ n ≤ 1000000000000000000 := Nat.le_trans (Nat.pow_le_pow_right (by decide) t4) (by decide)
  have h11 : 1 ≤ 10 ^ n := Nat.pow_pos (by decide)
  clear hb3 cN2 HB2 hpre
  obtain ⟨tn, htn⟩ : ∃ tn, tn = 10 ^ n := ⟨_, rfl⟩
  have HTN := hide htn
  rw [← htn] at cN3 h10 h11 hl7
  clear htn
  go_wp2_with fail
  refine (unmin_any tn h10 h11 _).mono ?_
  rintro e w4 ⟨rfl, rfl⟩
  have hU := HU.out
  clear HTN _hk1 hk2 HU
  obtain ⟨a, ha⟩ : ∃ a : Int, a = (tn : Int) * 4 - 2 := ⟨_, rfl⟩
  have hu7 : p ≠ 7 → (v : Int) < a := fun h => lt_unmin v tn a h11 (hl7 h) ha
  rw [← ha]
  clear ha hl7 T3 HPP t2 t1' SC1 SC2 hM cN3 hh hx t6
  have HD4 := hide hd4
  clear hd4
  have hvv : v ≤ 1000000000000000000 := by omega
  rcases hU with ⟨rfl, rfl⟩ | ⟨hne, rfl, rfl⟩
  case' inl =>
    by_cases hc : a ≤ (v : Int) * 10
    case' pos =>
      go_wp2_with fail
      refine (div_any v hvv hev _).mono ?_
      rintro e w5 ⟨rfl, hb5⟩
      have HB5 := hide (HB3.out.trans (hb5.mono HB3.out.size))
      clear hb5
      go_wp2_with fail
    case' neg =>
      have HB5 := hide HB3.out
      go_wp2_with fail
  case' inr =>
    have hlt7 := hu7 hne
    have hn : ¬ a ≤ (u : Int) := by omega
    have HB5 := hide HB3.out
    clear hu7
    go_wp2_with fail
    obtain ⟨v, hv⟩ : ∃ v, v = u := ⟨_, rfl⟩
    subst hv
  all_goals
    go_loopw [13, 11] (fun u p wr => Below w1.heap.size w1 wr ∧ ((u = .int .u64 ((v : Int) * 10) ∧ p = .int .i64 7) ∨ (u = .int .u64 v ∧ p = .int .i64 6))) (fun _ p _ => (intOf p).toNat)
    case atStart => exact ⟨HB5.out, by first | exact Or.inl ⟨rfl, rfl⟩ | exact Or.inr ⟨rfl, rfl⟩⟩
    case round =>
      obtain ⟨hbr, ⟨rfl, rfl⟩ | ⟨rfl, rfl⟩⟩ := hrel
      · go_wp2_with fail
        refine (div_any v hvv hev _).mono ?_
        rintro e w6 ⟨rfl, hb6⟩
        have HB6 := hide (hbr.trans (hb6.mono hbr.size))
        clear hb6
        go_wp2_with fail
        go_roundw
        case rel => exact ⟨HB6.out, Or.inr ⟨rfl, rfl⟩⟩
        case measure => simp [intOf]
      · have HBR := hide hbr
        clear hbr
        go_wp2_with fail
        have hv4 : (v : Int) = 4 * (q : Int) := by have := HD4.out; omega
        rw [hv4]
        refine (round_any q (by omega) _).mono ?_
        rintro e w6 ⟨rfl, rfl⟩
        go_wp2_with fail
        go_returns
        exact ⟨rfl, HBR.out⟩
end Go.Proofs.YtbcnhcpgloncdaaGreatDoor
