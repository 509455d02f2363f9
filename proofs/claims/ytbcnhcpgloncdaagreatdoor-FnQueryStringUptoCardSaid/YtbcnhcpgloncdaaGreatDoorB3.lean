/-
  setDigits.
-/
import Derived.Test.YtbcnhcpgloncdaaGreatDoorB2
import Derived.Test.YtbcnhcpgloncdaaGreatDoorA3
import Derived.Test.YtbcnhcpgloncdaaGreatDoorB1
import Derived.Lib.ItoaMem
namespace Go.Proofs.YtbcnhcpgloncdaaGreatDoor
open Go.RowKit Go.Sort

theorem below_putRow {α : Type} [Inhabited α] (enc : α → Value) (w : World) (blk off : Nat) (d : Array α) : Below blk w (putRow enc w blk off d) := by
  refine ⟨rfl, rfl, rfl, by simp, fun k hk => ?_⟩
  unfold putRow mapBlock
  simp only
  rw [Array.getElem?_modify]
  rw [if_neg (by omega)]

/-- What setDigits leaves. -/
def DigAt (w w' : World) (bs : Nat) (ds : List UInt8) (nz : Nat) : Prop :=
  nz ≤ ds.length ∧ (∀ (i : Nat) c, ds[i]? = some c → w'.cell? ⟨bs, i, none⟩ = some (bv c)) ∧ (∀ (i : Nat) c, nz ≤ i → ds[i]? = some c → c = 48) ∧ Below bs w w' ∧ w'.heap.size = w.heap.size

set_option maxHeartbeats 1000000 in
theorem setDigits_any (w : World) (bs : Nat) (u : Nat) (_h1 : 1 ≤ u) (hu : u < 18446744073709551616) (hz : w.heap[bs]? = some (.cells Lib.zeros24 204 (0, 0))) (hn : (Lib.decDigits u).length ≤ 20) :
    Calls Tryz.prog 190 #[.slice (some ⟨bs, 0, none⟩) 24 24, .int .u64 u, .int .i64 (-6), .int .i64 (Lib.nDigits u)] w fun e w' => ∃ nz : Nat, e = .returned (.tuple #[.int .i64 (((Lib.decDigits u).length : Int) + -6), .int .i64 nz]) ∧ DigAt w w' bs (Lib.decDigits u) nz := by
  have hlen : Lib.nDigits u = (Lib.decDigits u).length := (Lib.decDigits_length u).symm
  rw [hlen]
  have hsz : (Array.replicate (Lib.decDigits u).length (0 : UInt8)).size = (Lib.decDigits u).length := by simp
  have hH : Hid (Holds (fun (b : UInt8) => Value.int .u8 (b.toNat : Int)) w bs 0 (Array.replicate (Lib.decDigits u).length (0 : UInt8))) := hide (fun j hj => by
    have hj' : j < (Lib.decDigits u).length := by simpa using hj
    refine ⟨?_, frozen_of_row w _ _ _ _ hz⟩
    rw [cell_of_row w _ _ _ _ _ hz, Nat.zero_add, Lib.zeros24_at _ (by omega), getElem!_pos _ j hj]
    simp)
  have hlt : bs < w.heap.size := lt_of_block hz
  have HL := hide hlen
  clear hz hlen
  have h10 : Hid (u < 10 ^ (Array.replicate (Lib.decDigits u).length (0 : UInt8)).size) := hide (by
    rw [hsz, ← HL.out]; exact Lib.lt_pow_nDigits u)
  obtain ⟨n, hnn⟩ : ∃ n, n = (Lib.decDigits u).length := ⟨_, rfl⟩
  have HN := hide hnn
  rw [← hnn] at hn hsz
  clear hnn
  rw [← HN.out]
  go_enter Tryz.func190, Tryz.ntmps190
  go_wp2_with fail
  have HF := Tryz.internal_strconv_formatBase10 bs 0 24 u _ w hH.out h10.out hu (by rw [Array.size_replicate, ← HN.out]; omega)
  rw [Array.size_replicate, ← HN.out] at HF
  refine HF.mono ?_
  rintro e w1 ⟨rfl, m, v', dk, rfl, hfm⟩
  have hdk : dk.size = n := hfm.size
  have HR : Hid (∀ (j : Nat) (hj : j < (Lib.decDigits u).length), (Lib.decDigits u)[j] = dk[j]!) := hide (Lib.row_is_numeral (v' := v') (by rw [HL.out, ← HN.out]; exact hfm))
  have hC : Hid (∀ (i : Nat) c, (Lib.decDigits u)[i]? = some c → ((putRow (fun (b : UInt8) => Value.int .u8 (b.toNat : Int)) w bs 0 dk).drewN m).cell? ⟨bs, i, none⟩ = some (bv c)) := hide (by
    intro i c hc
    obtain ⟨hi, hcc⟩ := List.getElem?_eq_some_iff.1 hc
    have := cell?_putRow (fun (b : UInt8) => Value.int .u8 (b.toNat : Int)) w bs 0 _ dk hH.out (by rw [hdk, Array.size_replicate, ← HN.out]) i (by rw [hdk, HN.out]; exact hi)
    rw [Nat.zero_add] at this
    rw [World.cell?_drewN, this, ← HR.out i hi, hcc])
  have HB : Hid (Below bs w ((putRow (fun (b : UInt8) => Value.int .u8 (b.toNat : Int)) w bs 0 dk).drewN m)) := hide ((below_putRow _ w bs 0 dk).trans ((below_drewN _ _).mono (by simp; omega)))
  have HSZ : Hid (((putRow (fun (b : UInt8) => Value.int .u8 (b.toNat : Int)) w bs 0 dk).drewN m).heap.size = w.heap.size) := hide (by simp)
  generalize (putRow (fun (b : UInt8) => Value.int .u8 (b.toNat : Int)) w bs 0 dk).drewN m = w1 at *
  clear hfm HR HF hdk h10 hH hsz
  go_wp2_with fail
  go_loopw [3] (fun i wr => wr = w1 ∧ ∃ k : Nat, k ≤ n ∧ i = .int .i64 k ∧ (∀ (i : Nat) c, k ≤ i → (Lib.decDigits u)[i]? = some c → c = 48)) (fun i _ => (intOf i).toNat)
  case atStart => exact ⟨rfl, n, Nat.le_refl _, rfl, fun i c hi hc => by have := (List.getElem?_eq_some_iff.1 hc).1; have := HN.out; omega⟩
  case round =>
    obtain ⟨rfl, k, hk, rfl, h48⟩ := hrel
    have H48 := hide h48
    clear h48
    rcases Nat.eq_zero_or_pos k with rfl | hkp
    · go_wp2_with fail
      go_returns
      exact ⟨0, rfl, Nat.zero_le _, hC.out, H48.out, HB.out, HSZ.out⟩
    · have hkl : k - 1 < (Lib.decDigits u).length := by have := HN.out; omega
      have c0 := hC.out (k - 1) _ (List.getElem?_eq_getElem hkl)
      have hki : (0 : Int) < (k : Int) := by omega
      have hkd : decide ((0 : Int) < (k : Int)) = true := decide_eq_true hki
      have hk1 : (k : Int) - 1 = ((k - 1 : Nat) : Int) := by omega
      have hkl' : ((k - 1 : Nat) : Int) < 24 := by omega
      cases hc48 : (((Lib.decDigits u)[k - 1]'hkl).toNat : Int) == 48
      · go_wp2_with fail
        go_returns
        exact ⟨k, rfl, by have := HN.out; omega, hC.out, H48.out, HB.out, HSZ.out⟩
      · have HC48 := hide hc48
        go_wp2_with fail
        go_roundw
        case rel =>
          refine ⟨by trivial, k - 1, by omega, by go_num, fun i c hi hc => ?_⟩
          rcases Nat.lt_or_ge i k with h | h
          · obtain rfl : i = k - 1 := by omega
            rw [List.getElem?_eq_getElem hkl] at hc
            have h1 := eq_of_beq HC48.out
            have h2 : ((Lib.decDigits u)[k - 1]'hkl) = c := Option.some.inj hc
            rw [h2] at h1
            exact UInt8.toNat_inj.1 (by have h3 : (48 : UInt8).toNat = 48 := rfl; rw [h3]; omega)
          · exact H48.out i c h hc
        case measure => simp [intOf]; omega
end Go.Proofs.YtbcnhcpgloncdaaGreatDoor

/-
  fixedWidthFloat OF A BOOST.
-/
namespace Go.Proofs.YtbcnhcpgloncdaaGreatDoor
open Go.RowKit
theorem k_four (k : Nat) : k * 62500 = 4 * (k * 15625) := by rw [Nat.mul_left_comm]
theorem k_ten (k : Nat) : k * 625000 = k * 62500 * 10 := by rw [Nat.mul_assoc]
theorem k_even (k : Nat) : (k * 62500) % 2 = 0 := by omega
theorem k_le (k : Nat) (h : k ≤ 64000) : k * 62500 ≤ 10000000000 ∧ k * 15625 ≤ 10000000000 := by omega
theorem lt_unmin (v tn : Nat) (a : Int) (h1 : 1 ≤ tn) (h : v < 4 * tn - 2) (ha : a = (tn : Int) * 4 - 2) : (v : Int) < a := by omega

set_option maxHeartbeats 1000000 in
/-- fixedWidthFloat of k / 64. -/
theorem fixed_any {k L : Nat} (_hk1 : 1 ≤ k) (hk2 : k ≤ 64000) (hL : L ≤ 15) (_hlo : 2 ^ L ≤ k) (hhi : k < 2 ^ (L + 1)) (w : World)
    (c1 : w.cell? ⟨13, 708, none⟩ = some (.int .u64 17592186044416000000)) (c2 : w.cell? ⟨13, 709, none⟩ = some (.int .u64 0))
    (c3 : w.cell? ⟨13, 710, none⟩ = some (.int .u64 10995116277760000000)) (c4 : w.cell? ⟨13, 711, none⟩ = some (.int .u64 0))
    (cP : ∀ i : Nat, i < 20 → w.cell? ⟨9, i, none⟩ = some (.int .u64 ((10 ^ i : Nat) : Int)))
    (M : ∀ y z w, y < 18446744073709551616 → z < 18446744073709551616 → Calls Tryz.prog 262 #[.int .u64 (y : Nat), .int .u64 (z : Nat)] w fun e w' => e = .returned (.tuple #[.int .u64 ((y * z / 18446744073709551616 : Nat) : Int), .int .u64 ((y * z % 18446744073709551616 : Nat) : Int)]) ∧ w' = w) :
    Calls Tryz.prog 193 #[.int .u64 ((k * 2 ^ (63 - L) : Nat) : Int), .int .i64 ((L : Int) - 69), .int .i64 (nL L), .int .i64 6, .int .u8 102] w fun r w' => r = .returned (.tuple #[.int .u64 ((k * 15625 : Nat) : Int), .int .i64 (-6)]) ∧ Below w.heap.size w w' := by
  have hev := k_even k
  have hd4 := k_four k
  obtain ⟨hkk, hkq⟩ := k_le k hk2
  obtain ⟨t1, t2, t3, t4, t5, t6⟩ := L_tab ⟨L, by omega⟩
  simp only at t1 t2 t3 t4 t5 t6
  have t7 := L_le ⟨L, by omega⟩
  simp only at t7
  have hsc := scaled (k := k) hL
  have hx : k * 2 ^ (63 - L) < 18446744073709551616 := by
    calc k * 2 ^ (63 - L) < 2 ^ (L + 1) * 2 ^ (63 - L) := Nat.mul_lt_mul_of_pos_right hhi (Nat.two_pow_pos _)
      _ = 18446744073709551616 := by rw [← Nat.pow_add, show L + 1 + (63 - L) = 64 by omega]
  have hp : ((pL L : Int) = 6 ∧ (hiL L : Int) = 17592186044416000000) ∨ ((pL L : Int) = 7 ∧ (hiL L : Int) = 10995116277760000000) := by
    unfold hiL
    rcases pL_or L with h | ⟨h, h6⟩
    · right; rw [if_pos h, h]; exact ⟨rfl, by decide⟩
    · left; rw [if_neg h, h6]; exact ⟨rfl, by decide⟩
  have hu : (pL L = 7 ∧ uL L k = k * 62500 * 10) ∨ (pL L ≠ 7 ∧ pL L = 6 ∧ uL L k = k * 62500) := by
    unfold uL
    rcases pL_or L with h | ⟨h, h6⟩
    · left; rw [if_pos h]; exact ⟨h, k_ten k⟩
    · right; rw [if_neg h]; exact ⟨h, h6, rfl⟩
  have hh : hiL L < 18446744073709551616 := by rcases hp with ⟨-, h⟩ | ⟨-, h⟩ <;> omega
  have cN := cP (nL L) (by omega)
  generalize hX : k * 2 ^ (63 - L) = X at *
  generalize nL L = n at *
  generalize pL L = p at *
  generalize hiL L = hi at *
  generalize sL L = s at *
  generalize uL L k = u at *
  generalize lL L = lp at *
  have t1' : (n : Int) - 1 - ((L : Int) - 69 + 63) * 78913 / 262144 = (p : Int) := by rw [show (L : Int) - 69 + 63 = L - 6 by omega]; exact t1
  clear t1
  have hl7 : p ≠ 7 → k * 62500 < 4 * 10 ^ n - 2 := fun h => by have := t7 h; have := Nat.mul_le_mul_right 62500 hhi; omega
  clear t7
  obtain ⟨v, hv⟩ : ∃ v, v = k * 62500 := ⟨_, rfl⟩
  obtain ⟨q, hq⟩ : ∃ q, q = k * 15625 := ⟨_, rfl⟩
  rw [← hv] at hev hd4 hkk hl7 hu
  rw [← hq] at hd4 hkq
  rw [← hq]
  clear hv hq
  have hM := hide M
  have HP := hide cP
  obtain ⟨sc1, sc2⟩ := hsc
  have SC1 := hide sc1
  have SC2 := hide sc2
  have T3 := hide t3
  have HPP := hide hp
  have HU := hide hu
  have hpl : 6 ≤ p ∧ p ≤ 7 := by rcases hp with ⟨h, -⟩ | ⟨h, -⟩ <;> omega
  have hlp : lp ≤ 30 := by omega
  clear M cP sc1 sc2 hX t3 hp hu _hlo hhi
  go_enter Tryz.func193, Tryz.ntmps193
  go_wp2_with fail
  refine (log10_any _ (by omega) (by omega) _).mono ?_
  rintro e w1 ⟨rfl, rfl⟩
  go_wp2_with fail
  refine (log2_any _ (by omega) (by omega) _).mono ?_
  rintro e w2 ⟨rfl, rfl⟩
  go_wp2_with fail
  have hlt : 13 < w1.heap.size := World.block_lt_of_cell? w1 _ c1
  have al : ∀ (b o : Nat) v (x : Obj), w1.cell? ⟨b, o, none⟩ = some v → (w1.alloc x).cell? ⟨b, o, none⟩ = some v := fun b o v x h => (World.cell?_alloc_lt _ _ _ (World.block_lt_of_cell? _ _ h)).trans h
  refine (prescale_any p (L - 69) lp s hi HPP.out (by omega) (by omega) (by omega) (by omega) T3.out _ _ (al _ _ _ _ c1) (al _ _ _ _ c2) (al _ _ _ _ c3) (al _ _ _ _ c4) (heap_alloc_new _ _)).mono ?_
  rintro e w2 ⟨rfl, hpre, hb2⟩
  have hb2' : Below w1.heap.size w1 w2 := ((Below.refl _ _).alloc (Nat.le_refl _) _).trans hb2
  have cN2 : w2.cell? ⟨9, n, none⟩ = some (.int .u64 ((10 ^ n : Nat) : Int)) := (hb2'.cell (World.block_lt_of_cell? _ _ cN)).trans cN
  clear al c1 c2 c3 c4 cN HP
  have hU1 : u ≤ 1000000000000000000 := by rcases HU.out with ⟨-, h⟩ | ⟨-, -, h⟩ <;> omega
  have HB2 := hide hb2'
  clear hb2 hb2'
  go_wp2_with fail
  refine (uscale_any X hi s u hx hh t6 hU1 SC1.out SC2.out _ _ hpre hM.out).mono ?_
  rintro e w3 ⟨rfl, hb3⟩
  have cN3 : w3.cell? ⟨9, n, none⟩ = some (.int .u64 ((10 ^ n : Nat) : Int)) := (hb3.cell (World.block_lt_of_cell? _ _ cN2)).trans cN2
  have HB3 := hide (HB2.out.trans (hb3.mono HB2.out.size))
  have h10 : 10 ^ n ≤ 1000000000000000000 := Nat.le_trans (Nat.pow_le_pow_right (by decide) t4) (by decide)
  have h11 : 1 ≤ 10 ^ n := Nat.pow_pos (by decide)
  clear hb3 cN2 HB2 hpre
  obtain ⟨tn, htn⟩ : ∃ tn, tn = 10 ^ n := ⟨_, rfl⟩
  have HTN := hide htn
  rw [← htn] at cN3 h10 h11 hl7
  clear htn
  go_wp2_with fail
  refine (unmin_any tn h10 h11 _).mono ?_
  rintro e w4 ⟨rfl, rfl⟩
  have hU := HU.out
  clear HTN _hk1 hk2 HU
  obtain ⟨a, ha⟩ : ∃ a : Int, a = (tn : Int) * 4 - 2 := ⟨_, rfl⟩
  have hu7 : p ≠ 7 → (v : Int) < a := fun h => lt_unmin v tn a h11 (hl7 h) ha
  rw [← ha]
  clear ha hl7 T3 HPP t2 t1' SC1 SC2 hM cN3 hh hx t6
  have HD4 := hide hd4
  clear hd4
  have hvv : v ≤ 1000000000000000000 := by omega
  rcases hU with ⟨rfl, rfl⟩ | ⟨hne, rfl, rfl⟩
  case' inl =>
    by_cases hc : a ≤ (v : Int) * 10
    case' pos =>
      go_wp2_with fail
      refine (div_any v hvv hev _).mono ?_
      rintro e w5 ⟨rfl, hb5⟩
      have HB5 := hide (HB3.out.trans (hb5.mono HB3.out.size))
      clear hb5
      go_wp2_with fail
    case' neg =>
      have HB5 := hide HB3.out
      go_wp2_with fail
  case' inr =>
    have hlt7 := hu7 hne
    have hn : ¬ a ≤ (u : Int) := by omega
    have HB5 := hide HB3.out
    clear hu7
    go_wp2_with fail
    obtain ⟨v, hv⟩ : ∃ v, v = u := ⟨_, rfl⟩
    subst hv
  all_goals
    go_loopw [13, 11] (fun u p wr => Below w1.heap.size w1 wr ∧ ((u = .int .u64 ((v : Int) * 10) ∧ p = .int .i64 7) ∨ (u = .int .u64 v ∧ p = .int .i64 6))) (fun _ p _ => (intOf p).toNat)
    case atStart => exact ⟨HB5.out, by first | exact Or.inl ⟨rfl, rfl⟩ | exact Or.inr ⟨rfl, rfl⟩⟩
    case round =>
      obtain ⟨hbr, ⟨rfl, rfl⟩ | ⟨rfl, rfl⟩⟩ := hrel
      · go_wp2_with fail
        refine (div_any v hvv hev _).mono ?_
        rintro e w6 ⟨rfl, hb6⟩
        have HB6 := hide (hbr.trans (hb6.mono hbr.size))
        clear hb6
        go_wp2_with fail
        go_roundw
        case rel => exact ⟨HB6.out, Or.inr ⟨rfl, rfl⟩⟩
        case measure => simp [intOf]
      · have HBR := hide hbr
        clear hbr
        go_wp2_with fail
        have hv4 : (v : Int) = 4 * (q : Int) := by have := HD4.out; omega
        rw [hv4]
        refine (round_any q (by omega) _).mono ?_
        rintro e w6 ⟨rfl, rfl⟩
        go_wp2_with fail
        go_returns
        exact ⟨rfl, HBR.out⟩
end Go.Proofs.YtbcnhcpgloncdaaGreatDoor
