/-
  setDigits.
-/
import Derived.Test.YtbcnhcpgloncdaaGreatDoorFm
import Derived.Test.YtbcnhcpgloncdaaGreatDoorShelf
import Derived.Lib.ItoaMem
namespace Go.Proofs.YtbcnhcpgloncdaaGreatDoor
open Go.RowKit Go.Sort

theorem below_putRow {α : Type} [Inhabited α] (enc : α → Value) (w : World) (blk off : Nat) (d : Array α) : Below blk w (putRow enc w blk off d) := by
  refine ⟨rfl, rfl, rfl, by simp, fun k hk => ?_⟩
  unfold putRow mapBlock
  simp only
  rw [Array.getElem?_modify]
  rw [if_neg (by omega)]

/-- What setDigits leaves. -/
def DigAt (w w' : World) (bs : Nat) (ds : List UInt8) (nz : Nat) : Prop :=
  nz ≤ ds.length ∧ (∀ (i : Nat) c, ds[i]? = some c → w'.cell? ⟨bs, i, none⟩ = some (bv c)) ∧ (∀ (i : Nat) c, nz ≤ i → ds[i]? = some c → c = 48) ∧ Below bs w w' ∧ w'.heap.size = w.heap.size

set_option maxHeartbeats 1000000 in
theorem setDigits_any (w : World) (bs : Nat) (u : Nat) (_h1 : 1 ≤ u) (hu : u < 18446744073709551616) (hz : w.heap[bs]? = some (.cells Lib.zeros24 204 (0, 0))) (hn : (Lib.decDigits u).length ≤ 20) :
    Calls Tryz.prog 190 #[.slice (some ⟨bs, 0, none⟩) 24 24, .int .u64 u, .int .i64 (-6), .int .i64 (Lib.nDigits u)] w fun e w' => ∃ nz : Nat, e = .returned (.tuple #[.int .i64 (((Lib.decDigits u).length : Int) + -6), .int .i64 nz]) ∧ DigAt w w' bs (Lib.decDigits u) nz := by
  have hlen : Lib.nDigits u = (Lib.decDigits u).length := (Lib.decDigits_length u).symm
  rw [hlen]
  have hsz : (Array.replicate (Lib.decDigits u).length (0 : UInt8)).size = (Lib.decDigits u).length := by simp
  have hH : Hid (Holds (fun (b : UInt8) => Value.int .u8 (b.toNat : Int)) w bs 0 (Array.replicate (Lib.decDigits u).length (0 : UInt8))) := hide (fun j hj => by
    have hj' : j < (Lib.decDigits u).length := by simpa using hj
    refine ⟨?_, frozen_of_row w _ _ _ _ hz⟩
    rw [cell_of_row w _ _ _ _ _ hz, Nat.zero_add, Lib.zeros24_at _ (by omega), getElem!_pos _ j hj]
    simp)
  have hlt : bs < w.heap.size := lt_of_block hz
  have HL := hide hlen
  clear hz hlen
  have h10 : Hid (u < 10 ^ (Array.replicate (Lib.decDigits u).length (0 : UInt8)).size) := hide (by
    rw [hsz, ← HL.out]; exact Lib.lt_pow_nDigits u)
  obtain ⟨n, hnn⟩ : ∃ n, n = (Lib.decDigits u).length := ⟨_, rfl⟩
  have HN := hide hnn
  rw [← hnn] at hn hsz
  clear hnn
  rw [← HN.out]
  go_enter Tryz.func190, Tryz.ntmps190
  go_wp2_with fail
  have HF := Tryz.internal_strconv_formatBase10 bs 0 24 u _ w hH.out h10.out hu (by rw [Array.size_replicate, ← HN.out]; omega)
  rw [Array.size_replicate, ← HN.out] at HF
  refine HF.mono ?_
  rintro e w1 ⟨rfl, m, v', dk, rfl, hfm⟩
  have hdk : dk.size = n := hfm.size
  have HR : Hid (∀ (j : Nat) (hj : j < (Lib.decDigits u).length), (Lib.decDigits u)[j] = dk[j]!) := hide (Lib.row_is_numeral (v' := v') (by rw [HL.out, ← HN.out]; exact hfm))
  have hC : Hid (∀ (i : Nat) c, (Lib.decDigits u)[i]? = some c → ((putRow (fun (b : UInt8) => Value.int .u8 (b.toNat : Int)) w bs 0 dk).drewN m).cell? ⟨bs, i, none⟩ = some (bv c)) := hide (by
    intro i c hc
    obtain ⟨hi, hcc⟩ := List.getElem?_eq_some_iff.1 hc
    have := cell?_putRow (fun (b : UInt8) => Value.int .u8 (b.toNat : Int)) w bs 0 _ dk hH.out (by rw [hdk, Array.size_replicate, ← HN.out]) i (by rw [hdk, HN.out]; exact hi)
    rw [Nat.zero_add] at this
    rw [World.cell?_drewN, this, ← HR.out i hi, hcc])
  have HB : Hid (Below bs w ((putRow (fun (b : UInt8) => Value.int .u8 (b.toNat : Int)) w bs 0 dk).drewN m)) := hide ((below_putRow _ w bs 0 dk).trans ((below_drewN _ _).mono (by simp; omega)))
  have HSZ : Hid (((putRow (fun (b : UInt8) => Value.int .u8 (b.toNat : Int)) w bs 0 dk).drewN m).heap.size = w.heap.size) := hide (by simp)
  generalize (putRow (fun (b : UInt8) => Value.int .u8 (b.toNat : Int)) w bs 0 dk).drewN m = w1 at *
  clear hfm HR HF hdk h10 hH hsz
  go_wp2_with fail
  go_loopw [3] (fun i wr => wr = w1 ∧ ∃ k : Nat, k ≤ n ∧ i = .int .i64 k ∧ (∀ (i : Nat) c, k ≤ i → (Lib.decDigits u)[i]? = some c → c = 48)) (fun i _ => (intOf i).toNat)
  case atStart => exact ⟨rfl, n, Nat.le_refl _, rfl, fun i c hi hc => by have := (List.getElem?_eq_some_iff.1 hc).1; have := HN.out; omega⟩
  case round =>
    obtain ⟨rfl, k, hk, rfl, h48⟩ := hrel
    have H48 := hide h48
    clear h48
    rcases Nat.eq_zero_or_pos k with rfl | hkp
    · go_wp2_with fail
      go_returns
      exact ⟨0, rfl, Nat.zero_le _, hC.out, H48.out, HB.out, HSZ.out⟩
    · have hkl : k - 1 < (Lib.decDigits u).length := by have := HN.out; omega
      have c0 := hC.out (k - 1) _ (List.getElem?_eq_getElem hkl)
      have hki : (0 : Int) < (k : Int) := by omega
      have hkd : decide ((0 : Int) < (k : Int)) = true := decide_eq_true hki
      have hk1 : (k : Int) - 1 = ((k - 1 : Nat) : Int) := by omega
      have hkl' : ((k - 1 : Nat) : Int) < 24 := by omega
      cases hc48 : (((Lib.decDigits u)[k - 1]'hkl).toNat : Int) == 48
      · go_wp2_with fail
        go_returns
        exact ⟨k, rfl, by have := HN.out; omega, hC.out, H48.out, HB.out, HSZ.out⟩
      · have HC48 := hide hc48
        go_wp2_with fail
        go_roundw
        case rel =>
          refine ⟨by trivial, k - 1, by omega, by go_num, fun i c hi hc => ?_⟩
          rcases Nat.lt_or_ge i k with h | h
          · obtain rfl : i = k - 1 := by omega
            rw [List.getElem?_eq_getElem hkl] at hc
            have h1 := eq_of_beq HC48.out
            have h2 : ((Lib.decDigits u)[k - 1]'hkl) = c := Option.some.inj hc
            rw [h2] at h1
            exact UInt8.toNat_inj.1 (by have h3 : (48 : UInt8).toNat = 48 := rfl; rw [h3]; omega)
          · exact H48.out i c h hc
        case measure => simp [intOf]; omega
end Go.Proofs.YtbcnhcpgloncdaaGreatDoor
