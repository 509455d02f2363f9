/-
  FormatFloat AT A BOOST.
-/
import Derived.Test.YtbcnhcpgloncdaaGreatDoorB3
import Derived.Test.YtbcnhcpgloncdaaGreatDoorA4
import Derived.Laws.Externs
import Derived.Deep.RegionLaw
namespace Go.Proofs.YtbcnhcpgloncdaaGreatDoor
open Go.RowKit Go.Sort

theorem gPow : Tryz.prog.globalNamed "internal/strconv.uint64pow10" = some 9 := by kernel_rfl
theorem Glob.ten {w : World} (h : Glob w) (i : Nat) (hi : i < 20) : w.cell? ⟨9, i, none⟩ = some (.int .u64 ((10 ^ i : Nat) : Int)) := by
  have := h.pow.cell gPow i (by rw [Lib.pow10Tab_length]; exact hi)
  rw [Lib.pow10Tab_at i hi] at this
  exact this
theorem float_bits (x : Nat) (w : World) : (callFunc 184 #[.float .f64 x]).run Tryz.prog w = .ok (.value (.int .u64 x)) w := by
  rw [run_callFunc_extern (e := Extern.MathFloatBits.float64bits) Tryz.func184 (by kernel_rfl) (by kernel_rfl) (by kernel_rfl) (by kernel_rfl)]
  rfl

theorem dec_len (u : Nat) (h1 : 15625 ≤ u) (h2 : u ≤ 10000000000) : 5 ≤ (Lib.decDigits u).length ∧ (Lib.decDigits u).length ≤ 20 := by
  rw [Lib.decDigits_length]
  have := Lib.lt_pow_nDigits u
  constructor
  · rcases Nat.lt_or_ge (Lib.nDigits u) 5 with h | h
    · have : 10 ^ Lib.nDigits u ≤ 10 ^ 4 := Nat.pow_le_pow_right (by decide) (by omega)
      omega
    · exact h
  · obtain ⟨e1, e2⟩ := Lib.numDigits_eq u (by omega) (by omega)
    rw [← e1]
    split <;> omega

/-- The bits' parts, as the code takes them. -/
theorem ftoa_facts {x k L : Nat} (_hk1 : 1 ≤ k) (hL : L ≤ 15) (hlo : 2 ^ L ≤ k) (hhi : k < 2 ^ (L + 1)) (hs : x / 2 ^ 63 % 2 = 0) (hx : x < 18446744073709551616) (hb : x % 2 ^ 63 = (L + 1016) * 2 ^ 52 + k * 2 ^ (52 - L)) :
    ∃ M : Nat, 4503599627370496 ≤ M ∧ M < 9007199254740992 ∧ (x : Int) / 9223372036854775808 = 0 ∧ (x : Int) / 4503599627370496 = (L : Int) + 1017 ∧ bits .and .i64 ((L : Int) + 1017) 2047 = (L : Int) + 1017 ∧
      bits .and .u64 (x : Int) 4503599627370495 = (M : Int) - 4503599627370496 ∧ bits .or .u64 ((M : Int) - 4503599627370496) 4503599627370496 = (M : Int) ∧ M * 2048 = k * 2 ^ (63 - L) ∧ Lib.bitLen M = 53 := by
  have a1 : 2 ^ 52 ≤ k * 2 ^ (52 - L) := by
    calc 2 ^ 52 = 2 ^ L * 2 ^ (52 - L) := by rw [← Nat.pow_add, show L + (52 - L) = 52 by omega]
      _ ≤ _ := Nat.mul_le_mul_right _ hlo
  have a2 : k * 2 ^ (52 - L) < 2 ^ 53 := by
    calc k * 2 ^ (52 - L) < 2 ^ (L + 1) * 2 ^ (52 - L) := Nat.mul_lt_mul_of_pos_right hhi (Nat.two_pow_pos _)
      _ = 2 ^ 53 := by rw [← Nat.pow_add, show L + 1 + (52 - L) = 53 by omega]
  have a3 : k * 2 ^ (52 - L) * 2048 = k * 2 ^ (63 - L) := by
    rw [Nat.mul_assoc, show 2048 = 2 ^ 11 by decide, ← Nat.pow_add, show 52 - L + 11 = 63 - L by omega]
  refine ⟨k * 2 ^ (52 - L), by omega, by omega, ?_, ?_, ?_, ?_, ?_, a3, ?_⟩
  all_goals generalize k * 2 ^ (52 - L) = M at *
  · omega
  · omega
  · have := bits_mask .i64 63 (by decide) (fun n h0 h1 => by rw [IntKind.wrap_i64]; omega) 11 (by decide) ((L : Int) + 1017) (by omega) (by omega)
    rw [show (2047 : Int) = 2 ^ 11 - 1 by decide, this]
    omega
  · have := bits_mask .u64 64 (by decide) (fun n h0 h1 => by simp [IntKind.wrap, IntKind.bits, IntKind.signed]; omega) 52 (by decide) (x : Int) (by omega) (by omega)
    rw [show (4503599627370495 : Int) = 2 ^ 52 - 1 by decide, this]
    omega
  · obtain ⟨m, hm⟩ : ∃ m, M = 4503599627370496 + m := ⟨M - 4503599627370496, by omega⟩
    subst hm
    have e1 : ((4503599627370496 + m : Nat) : Int) - 4503599627370496 = (m : Int) := by omega
    rw [e1, show (4503599627370496 : Int) = ((4503599627370496 : Nat) : Int) by rfl, bits_or_u64_nat m _ (by omega) (by decide), Nat.or_comm]
    have := Nat.two_pow_add_eq_or_of_lt (i := 52) (b := m) (by omega) 1
    rw [Nat.mul_one] at this
    rw [show 4503599627370496 = 2 ^ 52 by decide, ← this]
  · rw [Lib.bitLen_shift 52 M (by omega) (by omega), show M / 2 ^ 52 = 1 by omega]
    decide

set_option maxHeartbeats 4000000 in
set_option maxRecDepth 100000 in
theorem ftoa64_any {x : Nat} (hb : boostB x = true) (hx : x < 18446744073709551616) (w0 : World) (hG : Glob w0) (base : Nat) (v : Value) (hv : w0.ownsRow base 5 1 v 0 []) (hbase : base ≤ w0.heap.size) :
    Calls Tryz.prog 170 #[v, .float .f64 x, .int .u8 102, .int .i64 6] w0 fun e w' => ∃ v', e = .returned v' ∧ w'.ownsRow base 5 1 v' (bText x).length ((bText x).map bv) ∧ Below base w0 w' := by
  obtain ⟨k, L, hk1, hk2, hL, hlo, hhi, hs, hxb⟩ := boost_bits hb
  have hko := kOf_eq hL hlo hhi hxb
  obtain ⟨M, m1, m2, f1, f2, f3, f4, f5, f6, f7⟩ := ftoa_facts hk1 hL hlo hhi hs hx hxb
  have HT : Hid (bText x = fText (k * 15625)) := hide (by unfold bText; rw [hko])
  have HFX := hide (fun (w : World) (c1 : _) (c2 : _) (c3 : _) (c4 : _) (cP : _) => fixed_any hk1 hk2 hL hlo hhi w c1 c2 c3 c4 cP (fun y z w hy hz => Tryz.bits_Mul64 y z hy hz w))
  have HG := hide hG
  have HV := hide hv
  obtain ⟨E, hE⟩ : ∃ E : Int, E = (L : Int) - 6 := ⟨_, rfl⟩
  have g1 : (L : Int) + 1017 + -1023 = E := by omega
  have g2 : E - 11 - 52 = (L : Int) - 69 := by omega
  have co := hG.opt
  have hfb := float_bits x
  have HE := hide hE
  have HF6 := hide f6
  have hM2 : (M : Int) * 2048 = ((k * 2 ^ (63 - L) : Nat) : Int) := by rw [← f6]; push_cast; rfl
  clear hko hs hxb hb hlo hhi hG hv hE f6
  obtain ⟨X, hX⟩ : ∃ X : Nat, X = k * 2 ^ (63 - L) := ⟨_, rfl⟩
  have HX := hide hX
  rw [← hX] at hM2
  clear hX
  obtain ⟨u, hu⟩ : ∃ u : Nat, u = k * 15625 := ⟨_, rfl⟩
  have hub : 15625 ≤ u ∧ u ≤ 10000000000 := by rw [hu]; omega
  have HU := hide hu
  clear hu
  obtain ⟨n, hn⟩ : ∃ n : Nat, n = nL L := ⟨_, rfl⟩
  have hn10 : 6 ≤ n ∧ n ≤ 10 := by
    obtain ⟨-, -, -, t4, t5, -⟩ := L_tab ⟨L, by omega⟩
    rw [hn]; exact ⟨t5, t4⟩
  have HN := hide hn
  clear hn
  have hEb : -6 ≤ E ∧ E ≤ 9 := by have := HE.out; omega
  have HFX2 : Hid (∀ w : World, Glob w → Calls Tryz.prog 193 #[.int .u64 (X : Int), .int .i64 ((L : Int) - 69), .int .i64 n, .int .i64 6, .int .u8 102] w fun r w' => r = .returned (.tuple #[.int .u64 (u : Int), .int .i64 (-6)]) ∧ Below w.heap.size w w') := hide (fun w hg => by
    have := HFX.out w hg.hi6 hg.lo6 hg.hi7 hg.lo7 hg.ten
    rw [← HX.out, ← HN.out, ← HU.out] at this
    exact this)
  clear HFX
  by_cases hE0 : (0 : Int) ≤ E
  case' pos =>
    have hlog : (1 : Int) + (1 + E) * 78913 / 262144 + 6 = (n : Int) := by
      have h1 := HN.out; have h2 := HE.out
      unfold nL at h1
      rw [if_pos (by omega)] at h1
      omega
  case' neg =>
    have hlog : (7 : Int) - -E * 78913 / 262144 = (n : Int) := by
      have h1 := HN.out; have h2 := HE.out
      unfold nL at h1
      rw [if_neg (by omega)] at h1
      omega
  all_goals
    go_enter Tryz.func170, Tryz.ntmps170
    go_upto_region 14 with fail
    go_quiet (fail)
    have HBq := hide (below_drewN w0 nq)
    have hsq : (w0.drewN nq).heap.size = w0.heap.size := rfl
    have HVQ : Hid ((w0.drewN nq).ownsRow base 5 1 v 0 []) := hide HV.out
    have co' : (w0.drewN nq).cell? ⟨3, 0, none⟩ = some (.bool true) := co
    generalize w0.drewN nq = wq at *
    go_wp2_with fail
    refine (log10_any _ (by omega) (by omega) _).mono ?_
    rintro e w1 ⟨rfl, rfl⟩
    go_wp2_with fail
    generalize hwb : World.alloc w1 _ = wb
    have hbf : wb.heap[w1.heap.size]? = some (.cells Lib.zeros24 204 (0, 0)) := by rw [← hwb]; exact heap_alloc_new _ _
    have hB1 : Below w0.heap.size w0 wb := by rw [← hwb]; exact HBq.out.alloc HBq.out.size _
    have hown : wb.ownsRow base 5 1 v 0 [] := by rw [← hwb]; exact HVQ.out.alloc _
    rw [hsq] at hbf
    have HBF := hide hbf
    have HB1 := hide hB1
    have HOWN := hide hown
    clear hwb hbf hB1 hown co'
    refine (Tryz.bits_Len64 (M : Int) _ (by omega) (by omega)).mono ?_
    rintro e w2 ⟨rfl, rfl⟩
    rw [Int.toNat_natCast, f7]
    go_wp2_with fail
    refine (HFX2.out _ (HG.out.below HB1.out)).mono ?_
    rintro e w3 ⟨rfl, hb3⟩
    have HB3 := hide (HB1.out.trans (hb3.mono HB1.out.size))
    have hlt2 : w0.heap.size < w2.heap.size := lt_of_block HBF.out
    have HBF3 := hide ((hb3.block _ hlt2).trans HBF.out)
    have hown3 := (own_kept' HOWN.out (fun g hg => hb3.block g (own_lt HOWN.out hg).2))
    have HOWN3 := hide hown3
    clear hb3 hown3 HOWN HBF HB1
    go_wp2_with fail
    go_region_law (first | (go_simp; go_at_call 191; refine Calls.mono (Tryz.internal_strconv_numDigits u (by omega) (by omega) _ (TabIs_below (HG.out.below HB3.out).pow (by first | exact Below.refl _ _ | exact below_drewN _ _ | exact (Below.refl _ _).drew))) ?_; rintro e w4 ⟨rfl, rfl⟩) | (go_simp; go_at_call 190; refine Calls.mono (setDigits_any _ w0.heap.size u (by omega) (by omega) (by exact HBF3.out) (dec_len u hub.1 hub.2).2) ?_; rintro e w5 ⟨nz, rfl, hdig⟩; have HDIG := hide hdig; clear hdig))
    have hdd := HDIG.out.2.2.2.1
    have hss := HDIG.out.2.2.2.2
    have hlt3 : w0.heap.size < w3.heap.size := lt_of_block HBF3.out
    have hss3 : w3.drew.heap.size = w3.heap.size := rfl
    have hgo : ∀ g, v.ownBlock = some g → g < w0.heap.size := fun g hg => (own_lt HV.out hg).2
    have HDD := hide hdd
    have hB5 : Below base w0 w5 := ((HB3.out.mono hbase).trans ((Below.refl _ _).drew)).trans (hdd.mono (by omega))
    have HDST : Hid (Dst w5 w5 base w0.heap.size v []) := hide ⟨own_kept' HOWN3.out (fun g hg => hdd.block g (hgo g hg)), fun e => by have := hgo _ e; omega, Below.refl _ _, by rw [hss, hss3]; omega, by rw [hss, hss3]; omega, rfl⟩
    have HB5 := hide hB5
    clear hdd hss hss3 hgo hB5
    go_wp2_with fail
    refine (fmtEFG_any w5 base w0.heap.size v HDST.out (Lib.decDigits u) (dec_len u hub.1 hub.2).2 (dec_len u hub.1 hub.2).1 HDIG.out.2.1 nz HDIG.out.1 _ (by omega)).mono ?_
    rintro e w6 ⟨v', rfl, hd6⟩
    have HD6 := hide hd6
    clear hd6
    go_wp2_with fail
    go_returns
    have h6 := HD6.out
    have hpt := fText_parts u nz HDIG.out.1 HDIG.out.2.2.1
    refine ⟨_, rfl, ?_, HB5.out.trans h6.2.2.1⟩
    rw [HT.out, ← HU.out, hpt]
    exact h6.1
end Go.Proofs.YtbcnhcpgloncdaaGreatDoor
