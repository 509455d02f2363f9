/-
  THE LOOP OF impl.QueryString: WHAT EACH SETTING DOES. (Printed by gen/loops.py.)
-/
import Derived.Test.YtbcnhcpgloncdaaGreatDoorA3
namespace Go.Proofs.YtbcnhcpgloncdaaGreatDoor
open Go.RowKit Go.Sort Go.ChangeMaps Go.MapKept Go.Lib

set_option maxHeartbeats 8000000 in
set_option maxRecDepth 100000 in
theorem impl_25 {W : World} {ok : Nat → Prop} {vS : Value} {text : ByteArray} {ss : List S} (hS : SetsAt W ok vS ss)
    (hfit : ∀ s ∈ ss, fitsAt QS s = true) (hsz : ∀ s ∈ ss, s.value.text.size < 35184372088832) (hln : ss.length ≤ 4194304) (hG : Glob W)
    (R : Q → T → Prop) (HSRC : ∀ (w : World) (lo bq : Nat), Below W.heap.size W w → lo ≤ w.heap.size → QAt w lo bq gQS (runQ qtQS (initQ (cQS (.string text)) []) ss) → Calls Tryz.prog 120 #[.pointer (some ⟨bq, 0, none⟩)] w (RetSrc w (R (runQ qtQS (initQ (cQS (.string text)) []) ss)))) :
    Calls Tryz.prog 25 #[.string text, vS] W (RetTold W (R (runQ qtQS (initQ (cQS (.string text)) []) ss))) := by
  have HSRC' := hide HSRC
  clear HSRC
  have HSS := hide hS
  obtain ⟨aS, capS, cS, rfl, hcapS, hcS, htS⟩ := hS
  have HFIT := hide hfit
  have HSZ := hide hsz
  have HG := hide hG
  clear hfit hsz hG
  have HCS := hide hcS
  have HTS := hide htS
  clear hcS htS
  obtain ⟨W1, hW1⟩ : ∃ x, x = (W.alloc (.cells #[.int .i64 0, .string ⟨#[]⟩, .float .f64 0, .bool false, .slice none 0 0, .slice none 0 0] 26 (0, 0))) := ⟨_, rfl⟩
  have B01 : Hid (Below W.heap.size W W1) := hide (by rw [hW1]; go_grown)
  have S1 : W1.heap.size = W.heap.size + 1 := by rw [hW1]; simp
  have HS1 := hide S1
  have hS1 : W.heap.size + 1 ≤ W1.heap.size := by omega
  have hblk1 : Hid (W1.heap[W.heap.size]? = some (.cells #[.int .i64 0, .string ⟨#[]⟩, .float .f64 0, .bool false, .slice none 0 0, .slice none 0 0] 26 (0, 0))) := hide (by rw [hW1]; exact heap_alloc_new _ _)
  have HW1 := hide hW1
  clear hW1 S1
  go_enter Tryz.func25, Tryz.ntmps25
  go_wp2_with fail
  rw [← HW1.out]
  refine (new_94 (Nat.le_refl W1.heap.size) text).mono ?_
  rintro e w2 ⟨bq, rfl, hq, hb2⟩
  have HB2 := hide hb2
  have HQ0 := hide hq
  clear hq hb2
  go_wp2_with fail
  have HQ0' : Hid (QAt w2 W1.heap.size bq gQS (runQ qtQS (initQ (cQS (.string text)) []) (ss.take 0))) := hide HQ0.out
  clear HQ0
  obtain ⟨q0, hq0⟩ : ∃ x, x = initQ (cQS (.string text)) [] := ⟨_, rfl⟩
  rw [← hq0] at HQ0' HSRC' ⊢
  have HLF : Hid (q0.fields.length + ss.length ≤ 4194304) := hide (by rw [hq0]; simpa [initQ] using hln)
  have HLB : Hid (q0.boosts.length + ss.length ≤ 4194304) := hide (by rw [hq0]; simp [initQ]; omega)
  have HQQ := hide hq0
  clear hq0
  go_loopw [13] (fun i wr => ∃ k : Nat, k ≤ ss.length ∧ i = .int .i64 k ∧ QAt wr W1.heap.size bq gQS (runQ qtQS q0 (ss.take k)) ∧ Below W1.heap.size W1 wr) (fun i _ => ss.length - (intOf i).toNat)
  case atStart => exact ⟨0, Nat.zero_le _, rfl, HQ0'.out, HB2.out⟩
  case round =>
    obtain ⟨k, hk, rfl, hq, hbw⟩ := hrel
    have HQ := hide hq
    have HBW := hide hbw
    have HBT := hide (B01.out.trans (hbw.mono B01.out.size))
    have hlo1 : W1.heap.size ≤ wr.heap.size := hbw.size
    have hlq := hq.lt
    clear hq hbw
    by_cases hlt : k < ss.length
    · obtain ⟨hfl, hbl, hnext⟩ := round_start (tab := qtQS) hlt HLF.out HLB.out
      obtain ⟨b0, o0, rfl, hok0, hcell⟩ := HCS.out k hlt
      obtain ⟨h0, htr⟩ := HTS.out k ss[k] (by simp)
      have HMEM := hide (List.getElem_mem hlt)
      have HNX := hide hnext
      have htx' : ss[k].value.text.size < 35184372088832 := HSZ.out _ HMEM.out
      have htx : ss[k].value.text.size ≤ maxLen := by unfold maxLen; omega
      obtain ⟨r, hr, hn, hfit⟩ := fits_kind (HFIT.out _ HMEM.out)
      obtain ⟨ka', kc', ta', tc', cc', hv6, -⟩ := htr.open
      simp only [Value.agg.injEq, Array.mk.injEq, List.cons.injEq, and_true] at hv6
      obtain ⟨v1, v2, v3, v4, v5, v6⟩ := hv6
      have e0 := hcell 0 (by omega)
      have e1 := hcell 1 (by omega)
      have e2 := hcell 2 (by omega)
      have e3 := hcell 3 (by omega)
      have e4 := hcell 4 (by omega)
      have e5 := hcell 5 (by omega)
      have e6 := hcell 6 (by omega)
      rw [h0] at e0
      rw [v1] at e1; rw [v2] at e2; rw [v3] at e3; rw [v4] at e4; rw [v5] at e5; rw [v6] at e6
      simp only [Nat.add_zero] at e0
      have hbl0 : b0 < W.heap.size := World.block_lt_of_cell? W _ e0
      have k0 := (HBT.out.cell hbl0).trans e0
      have k1 := (HBT.out.cell hbl0).trans e1
      have k2 := (HBT.out.cell hbl0).trans e2
      have k3 := (HBT.out.cell hbl0).trans e3
      have k4 := (HBT.out.cell hbl0).trans e4
      have k5 := (HBT.out.cell hbl0).trans e5
      have k6 := (HBT.out.cell hbl0).trans e6
      have hst : Hid (stepQ qtQS (runQ qtQS q0 (ss.take k)) ss[k] = runQ qtQS q0 (ss.take (k + 1))) := hide hnext.symm
      have i1 : (0 : Int) ≤ (k : Int) := by omega
      have i3 : (k : Int) < (ss.length : Int) := by omega
      obtain ⟨nm, hnm⟩ : ∃ x, x = ss[k].name := ⟨_, rfl⟩
      obtain ⟨val, hval⟩ : ∃ x, x = ss[k].value := ⟨_, rfl⟩
      have hst2 : Hid (stepQ qtQS (runQ qtQS q0 (ss.take k)) ⟨nm, val⟩ = runQ qtQS q0 (ss.take (k + 1))) := hide (by rw [← hst.out, hnm, hval])
      rw [← hnm] at hn k0
      rw [← hval] at hfit htx htx' k1 k2 k3 k4 k5 k6
      clear e0 e1 e2 e3 e4 e5 e6 v1 v2 v3 v4 v5 v6 h0 htr hcell hnext hst hnm hval
      obtain ⟨ks2, ts2, kk2, hkl, htl⟩ : ∃ (a b : Nat) (c : Int), a = val.keys.length ∧ b = val.kids.length := ⟨_, _, 0, rfl, rfl⟩
      rw [← hkl] at k5
      rw [← htl] at k6
      clear hkl htl kk2
      generalize runQ qtQS q0 (ss.take k) = qk at *
      rw [rowsQS_is] at hr
      have hbx : Below wr.heap.size wr (wr.alloc (.cells #[.string nm, .int .i64 val.kind, .string val.text, .float .f64 val.num, .bool val.yes, .slice ka' ks2 kc', .slice ta' ts2 tc'] 45 (0, 0))) := by go_grown
      have HBX := hide hbx
      have HQB := hide (HQ.out.kept hbx)
      have hlo2 : W1.heap.size ≤ (wr.alloc (.cells #[.string nm, .int .i64 val.kind, .string val.text, .float .f64 val.num, .bool val.yes, .slice ka' ks2 kc', .slice ta' ts2 tc'] 45 (0, 0))).heap.size := Nat.le_trans hlo1 hbx.size
      have HGB := hide ((HG.out.below HBT.out).below hbx)
      clear hbx
      simp only [List.mem_cons, List.not_mem_nil, or_false] at hr
      rcases hr with rfl | rfl | rfl | rfl | rfl | rfl | hr
      · as_aux_lemma =>
          have HN := hide hn
          clear hn
          clear hfit
          have t0 : (nm.toList == [102, 105, 101, 108, 100]) = true := by rw [HN.out, bs_toList]; decide
          go_wp2_with fail
          refine (set_95 HQB.out hlo2 hfl _).mono ?_
          rintro e w3 ⟨rfl, hq2, hb3⟩
          have HQ2 := hide hq2
          have HB3 := hide hb3
          clear hq2 hb3
          go_wp2
          go_round
          case rel =>
            have hq3 := HQ2.out
            refine ⟨k + 1, by omega, by go_num, ?_, HBW.out.trans ((HBX.out.mono hlo1).trans HB3.out)⟩
            rw [← hst2.out, HN.out]
            exact hq3
          case measure => simp [intOf]; omega
      · as_aux_lemma =>
          have HN := hide hn
          clear hn
          clear hfit
          have t0 : (nm.toList == [102, 105, 101, 108, 100]) = false := by rw [HN.out, bs_toList]; decide
          have t1 : (nm.toList == [102, 105, 101, 108, 100, 95, 119, 105, 116, 104, 95, 98, 111, 111, 115, 116]) = true := by rw [HN.out, bs_toList]; decide
          go_wp2_with fail
          refine (set_96 HQB.out hlo2 hfl hbl _ htx _).mono ?_
          rintro e w3 ⟨rfl, hq2, hb3⟩
          have HQ2 := hide hq2
          have HB3 := hide hb3
          clear hq2 hb3
          go_wp2
          go_round
          case rel =>
            have hq3 := HQ2.out
            refine ⟨k + 1, by omega, by go_num, ?_, HBW.out.trans ((HBX.out.mono hlo1).trans HB3.out)⟩
            rw [← hst2.out, HN.out]
            exact hq3
          case measure => simp [intOf]; omega
      · as_aux_lemma =>
          have HN := hide hn
          clear hn
          clear hfit
          have t0 : (nm.toList == [102, 105, 101, 108, 100]) = false := by rw [HN.out, bs_toList]; decide
          have t1 : (nm.toList == [102, 105, 101, 108, 100, 95, 119, 105, 116, 104, 95, 98, 111, 111, 115, 116]) = false := by rw [HN.out, bs_toList]; decide
          have t2 : (nm.toList == [97, 108, 108, 111, 119, 95, 108, 101, 97, 100, 105, 110, 103, 95, 119, 105, 108, 100, 99, 97, 114, 100]) = true := by rw [HN.out, bs_toList]; decide
          go_wp2_with fail
          refine (set_97 HQB.out hlo2 _).mono ?_
          rintro e w3 ⟨rfl, hq2, hb3⟩
          have HQ2 := hide hq2
          have HB3 := hide hb3
          clear hq2 hb3
          go_wp2
          go_round
          case rel =>
            have hq3 := HQ2.out
            refine ⟨k + 1, by omega, by go_num, ?_, HBW.out.trans ((HBX.out.mono hlo1).trans HB3.out)⟩
            rw [← hst2.out, HN.out]
            exact hq3
          case measure => simp [intOf]; omega
      · as_aux_lemma =>
          have HN := hide hn
          clear hn
          clear hfit
          have t0 : (nm.toList == [102, 105, 101, 108, 100]) = false := by rw [HN.out, bs_toList]; decide
          have t1 : (nm.toList == [102, 105, 101, 108, 100, 95, 119, 105, 116, 104, 95, 98, 111, 111, 115, 116]) = false := by rw [HN.out, bs_toList]; decide
          have t2 : (nm.toList == [97, 108, 108, 111, 119, 95, 108, 101, 97, 100, 105, 110, 103, 95, 119, 105, 108, 100, 99, 97, 114, 100]) = false := by rw [HN.out, bs_toList]; decide
          have t3 : (nm.toList == [97, 110, 97, 108, 121, 122, 101, 95, 119, 105, 108, 100, 99, 97, 114, 100]) = true := by rw [HN.out, bs_toList]; decide
          go_wp2_with fail
          refine (set_98 HQB.out hlo2 _).mono ?_
          rintro e w3 ⟨rfl, hq2, hb3⟩
          have HQ2 := hide hq2
          have HB3 := hide hb3
          clear hq2 hb3
          go_wp2
          go_round
          case rel =>
            have hq3 := HQ2.out
            refine ⟨k + 1, by omega, by go_num, ?_, HBW.out.trans ((HBX.out.mono hlo1).trans HB3.out)⟩
            rw [← hst2.out, HN.out]
            exact hq3
          case measure => simp [intOf]; omega
      · as_aux_lemma =>
          have HN := hide hn
          clear hn
          clear hfit
          have t0 : (nm.toList == [102, 105, 101, 108, 100]) = false := by rw [HN.out, bs_toList]; decide
          have t1 : (nm.toList == [102, 105, 101, 108, 100, 95, 119, 105, 116, 104, 95, 98, 111, 111, 115, 116]) = false := by rw [HN.out, bs_toList]; decide
          have t2 : (nm.toList == [97, 108, 108, 111, 119, 95, 108, 101, 97, 100, 105, 110, 103, 95, 119, 105, 108, 100, 99, 97, 114, 100]) = false := by rw [HN.out, bs_toList]; decide
          have t3 : (nm.toList == [97, 110, 97, 108, 121, 122, 101, 95, 119, 105, 108, 100, 99, 97, 114, 100]) = false := by rw [HN.out, bs_toList]; decide
          have t4 : (nm.toList == [97, 110, 97, 108, 121, 122, 101, 114]) = true := by rw [HN.out, bs_toList]; decide
          go_wp2_with fail
          refine (set_99 HQB.out hlo2 _).mono ?_
          rintro e w3 ⟨rfl, hq2, hb3⟩
          have HQ2 := hide hq2
          have HB3 := hide hb3
          clear hq2 hb3
          go_wp2
          go_round
          case rel =>
            have hq3 := HQ2.out
            refine ⟨k + 1, by omega, by go_num, ?_, HBW.out.trans ((HBX.out.mono hlo1).trans HB3.out)⟩
            rw [← hst2.out, HN.out]
            exact hq3
          case measure => simp [intOf]; omega
      · as_aux_lemma =>
          have HN := hide hn
          clear hn
          clear hfit
          have t0 : (nm.toList == [102, 105, 101, 108, 100]) = false := by rw [HN.out, bs_toList]; decide
          have t1 : (nm.toList == [102, 105, 101, 108, 100, 95, 119, 105, 116, 104, 95, 98, 111, 111, 115, 116]) = false := by rw [HN.out, bs_toList]; decide
          have t2 : (nm.toList == [97, 108, 108, 111, 119, 95, 108, 101, 97, 100, 105, 110, 103, 95, 119, 105, 108, 100, 99, 97, 114, 100]) = false := by rw [HN.out, bs_toList]; decide
          have t3 : (nm.toList == [97, 110, 97, 108, 121, 122, 101, 95, 119, 105, 108, 100, 99, 97, 114, 100]) = false := by rw [HN.out, bs_toList]; decide
          have t4 : (nm.toList == [97, 110, 97, 108, 121, 122, 101, 114]) = false := by rw [HN.out, bs_toList]; decide
          have t5 : (nm.toList == [98, 111, 111, 115, 116]) = true := by rw [HN.out, bs_toList]; decide
          go_wp2_with fail
          refine (set_100 HQB.out hlo2 _).mono ?_
          rintro e w3 ⟨rfl, hq2, hb3⟩
          have HQ2 := hide hq2
          have HB3 := hide hb3
          clear hq2 hb3
          go_wp2
          go_round
          case rel =>
            have hq3 := HQ2.out
            refine ⟨k + 1, by omega, by go_num, ?_, HBW.out.trans ((HBX.out.mono hlo1).trans HB3.out)⟩
            rw [← hst2.out, HN.out]
            exact hq3
          case measure => simp [intOf]; omega
      · have hno : (nm.toList == [102, 105, 101, 108, 100]) = false ∧ (nm.toList == [102, 105, 101, 108, 100, 95, 119, 105, 116, 104, 95, 98, 111, 111, 115, 116]) = false ∧ (nm.toList == [97, 108, 108, 111, 119, 95, 108, 101, 97, 100, 105, 110, 103, 95, 119, 105, 108, 100, 99, 97, 114, 100]) = false ∧ (nm.toList == [97, 110, 97, 108, 121, 122, 101, 95, 119, 105, 108, 100, 99, 97, 114, 100]) = false ∧ (nm.toList == [97, 110, 97, 108, 121, 122, 101, 114]) = false ∧ (nm.toList == [98, 111, 111, 115, 116]) = false := by
          rcases hr with rfl | rfl | rfl | rfl | rfl | rfl | rfl | rfl | rfl | rfl | rfl | rfl | rfl | rfl | rfl | rfl | rfl | rfl | rfl <;> (rw [hn, bs_toList]; decide)
        obtain ⟨t0, t1, t2, t3, t4, t5⟩ := hno
        have HN0 := hide hn
        have HF0 := hide hfit
        have HR0 := hide hr
        clear hn hfit hr
        go_upto_region 18 with fail
        have hn := HN0.out
        have hfit := HF0.out
        have hr := HR0.out
        clear HN0 HF0 HR0 t0 t1 t2 t3 t4 t5
        rcases hr with rfl | rfl | rfl | rfl | rfl | rfl | hr
        · as_aux_lemma =>
            have HN := hide hn
            clear hn
            clear hfit
            have t6 : (nm.toList == [100, 101, 102, 97, 117, 108, 116, 95, 102, 105, 101, 108, 100]) = true := by rw [HN.out, bs_toList]; decide
            go_wp2_with fail
            refine (set_101 HQB.out hlo2 _).mono ?_
            rintro e w3 ⟨rfl, hq2, hb3⟩
            have HQ2 := hide hq2
            have HB3 := hide hb3
            clear hq2 hb3
            go_wp2
            go_round
            case rel =>
              have hq3 := HQ2.out
              refine ⟨k + 1, by omega, by go_num, ?_, HBW.out.trans ((HBX.out.mono hlo1).trans HB3.out)⟩
              rw [← hst2.out, HN.out]
              exact hq3
            case measure => simp [intOf]; omega
        · as_aux_lemma =>
            have HN := hide hn
            clear hn
            clear hfit
            have t6 : (nm.toList == [100, 101, 102, 97, 117, 108, 116, 95, 102, 105, 101, 108, 100]) = false := by rw [HN.out, bs_toList]; decide
            have t7 : (nm.toList == [100, 101, 102, 97, 117, 108, 116, 95, 111, 112, 101, 114, 97, 116, 111, 114]) = true := by rw [HN.out, bs_toList]; decide
            go_wp2_with fail
            refine (set_102 HQB.out hlo2 _).mono ?_
            rintro e w3 ⟨rfl, hq2, hb3⟩
            have HQ2 := hide hq2
            have HB3 := hide hb3
            clear hq2 hb3
            go_wp2
            go_round
            case rel =>
              have hq3 := HQ2.out
              refine ⟨k + 1, by omega, by go_num, ?_, HBW.out.trans ((HBX.out.mono hlo1).trans HB3.out)⟩
              rw [← hst2.out, HN.out]
              exact hq3
            case measure => simp [intOf]; omega
        · as_aux_lemma =>
            have HN := hide hn
            clear hn
            clear hfit
            have t6 : (nm.toList == [100, 101, 102, 97, 117, 108, 116, 95, 102, 105, 101, 108, 100]) = false := by rw [HN.out, bs_toList]; decide
            have t7 : (nm.toList == [100, 101, 102, 97, 117, 108, 116, 95, 111, 112, 101, 114, 97, 116, 111, 114]) = false := by rw [HN.out, bs_toList]; decide
            have t8 : (nm.toList == [101, 110, 97, 98, 108, 101, 95, 112, 111, 115, 105, 116, 105, 111, 110, 95, 105, 110, 99, 114, 101, 109, 101, 110, 116, 115]) = true := by rw [HN.out, bs_toList]; decide
            go_wp2_with fail
            refine (set_103 HQB.out hlo2 _).mono ?_
            rintro e w3 ⟨rfl, hq2, hb3⟩
            have HQ2 := hide hq2
            have HB3 := hide hb3
            clear hq2 hb3
            go_wp2
            go_round
            case rel =>
              have hq3 := HQ2.out
              refine ⟨k + 1, by omega, by go_num, ?_, HBW.out.trans ((HBX.out.mono hlo1).trans HB3.out)⟩
              rw [← hst2.out, HN.out]
              exact hq3
            case measure => simp [intOf]; omega
        · as_aux_lemma =>
            have HN := hide hn
            clear hn
            clear hfit
            have t6 : (nm.toList == [100, 101, 102, 97, 117, 108, 116, 95, 102, 105, 101, 108, 100]) = false := by rw [HN.out, bs_toList]; decide
            have t7 : (nm.toList == [100, 101, 102, 97, 117, 108, 116, 95, 111, 112, 101, 114, 97, 116, 111, 114]) = false := by rw [HN.out, bs_toList]; decide
            have t8 : (nm.toList == [101, 110, 97, 98, 108, 101, 95, 112, 111, 115, 105, 116, 105, 111, 110, 95, 105, 110, 99, 114, 101, 109, 101, 110, 116, 115]) = false := by rw [HN.out, bs_toList]; decide
            have t9 : (nm.toList == [101, 115, 99, 97, 112, 101]) = true := by rw [HN.out, bs_toList]; decide
            go_wp2_with fail
            refine (set_104 HQB.out hlo2 _).mono ?_
            rintro e w3 ⟨rfl, hq2, hb3⟩
            have HQ2 := hide hq2
            have HB3 := hide hb3
            clear hq2 hb3
            go_wp2
            go_round
            case rel =>
              have hq3 := HQ2.out
              refine ⟨k + 1, by omega, by go_num, ?_, HBW.out.trans ((HBX.out.mono hlo1).trans HB3.out)⟩
              rw [← hst2.out, HN.out]
              exact hq3
            case measure => simp [intOf]; omega
        · as_aux_lemma =>
            have HN := hide hn
            clear hn
            clear hfit
            have t6 : (nm.toList == [100, 101, 102, 97, 117, 108, 116, 95, 102, 105, 101, 108, 100]) = false := by rw [HN.out, bs_toList]; decide
            have t7 : (nm.toList == [100, 101, 102, 97, 117, 108, 116, 95, 111, 112, 101, 114, 97, 116, 111, 114]) = false := by rw [HN.out, bs_toList]; decide
            have t8 : (nm.toList == [101, 110, 97, 98, 108, 101, 95, 112, 111, 115, 105, 116, 105, 111, 110, 95, 105, 110, 99, 114, 101, 109, 101, 110, 116, 115]) = false := by rw [HN.out, bs_toList]; decide
            have t9 : (nm.toList == [101, 115, 99, 97, 112, 101]) = false := by rw [HN.out, bs_toList]; decide
            have t10 : (nm.toList == [102, 117, 122, 122, 105, 110, 101, 115, 115]) = true := by rw [HN.out, bs_toList]; decide
            go_wp2_with fail
            refine (set_105 HQB.out hlo2 _).mono ?_
            rintro e w3 ⟨rfl, hq2, hb3⟩
            have HQ2 := hide hq2
            have HB3 := hide hb3
            clear hq2 hb3
            go_wp2
            go_round
            case rel =>
              have hq3 := HQ2.out
              refine ⟨k + 1, by omega, by go_num, ?_, HBW.out.trans ((HBX.out.mono hlo1).trans HB3.out)⟩
              rw [← hst2.out, HN.out]
              exact hq3
            case measure => simp [intOf]; omega
        · as_aux_lemma =>
            have HN := hide hn
            clear hn
            obtain ⟨m, hm, hw0, -⟩ := whole_of hfit
            have hcv : ∀ w1 : World, (convert 22 3 (.float .f64 val.num)).run Tryz.prog w1 = .ok (.int .i64 m) w1 := fun w1 => run_convert_float_int (P := Tryz.prog) w1 22 3 .f64 .i64 val.num m (by kernel_rfl) Tryz.underlying3 hm
            have HW := hide hw0
            clear hm hw0
            clear hfit
            have t6 : (nm.toList == [100, 101, 102, 97, 117, 108, 116, 95, 102, 105, 101, 108, 100]) = false := by rw [HN.out, bs_toList]; decide
            have t7 : (nm.toList == [100, 101, 102, 97, 117, 108, 116, 95, 111, 112, 101, 114, 97, 116, 111, 114]) = false := by rw [HN.out, bs_toList]; decide
            have t8 : (nm.toList == [101, 110, 97, 98, 108, 101, 95, 112, 111, 115, 105, 116, 105, 111, 110, 95, 105, 110, 99, 114, 101, 109, 101, 110, 116, 115]) = false := by rw [HN.out, bs_toList]; decide
            have t9 : (nm.toList == [101, 115, 99, 97, 112, 101]) = false := by rw [HN.out, bs_toList]; decide
            have t10 : (nm.toList == [102, 117, 122, 122, 105, 110, 101, 115, 115]) = false := by rw [HN.out, bs_toList]; decide
            have t11 : (nm.toList == [102, 117, 122, 122, 121, 95, 109, 97, 120, 95, 101, 120, 112, 97, 110, 115, 105, 111, 110, 115]) = true := by rw [HN.out, bs_toList]; decide
            go_wp2_with fail
            refine (set_106 HQB.out hlo2 _).mono ?_
            rintro e w3 ⟨rfl, hq2, hb3⟩
            have HQ2 := hide hq2
            have HB3 := hide hb3
            clear hq2 hb3
            go_wp2
            go_round
            case rel =>
              have hq3 := HQ2.out
              rw [← HW.out] at hq3
              refine ⟨k + 1, by omega, by go_num, ?_, HBW.out.trans ((HBX.out.mono hlo1).trans HB3.out)⟩
              rw [← hst2.out, HN.out]
              exact hq3
            case measure => simp [intOf]; omega
        · have hno : (nm.toList == [100, 101, 102, 97, 117, 108, 116, 95, 102, 105, 101, 108, 100]) = false ∧ (nm.toList == [100, 101, 102, 97, 117, 108, 116, 95, 111, 112, 101, 114, 97, 116, 111, 114]) = false ∧ (nm.toList == [101, 110, 97, 98, 108, 101, 95, 112, 111, 115, 105, 116, 105, 111, 110, 95, 105, 110, 99, 114, 101, 109, 101, 110, 116, 115]) = false ∧ (nm.toList == [101, 115, 99, 97, 112, 101]) = false ∧ (nm.toList == [102, 117, 122, 122, 105, 110, 101, 115, 115]) = false ∧ (nm.toList == [102, 117, 122, 122, 121, 95, 109, 97, 120, 95, 101, 120, 112, 97, 110, 115, 105, 111, 110, 115]) = false := by
            rcases hr with rfl | rfl | rfl | rfl | rfl | rfl | rfl | rfl | rfl | rfl | rfl | rfl | rfl <;> (rw [hn, bs_toList]; decide)
          obtain ⟨t6, t7, t8, t9, t10, t11⟩ := hno
          have HN0 := hide hn
          have HF0 := hide hfit
          have HR0 := hide hr
          clear hn hfit hr
          go_upto_region 30 with fail
          have hn := HN0.out
          have hfit := HF0.out
          have hr := HR0.out
          clear HN0 HF0 HR0 t6 t7 t8 t9 t10 t11
          rcases hr with rfl | rfl | rfl | rfl | rfl | rfl | hr
          · as_aux_lemma =>
              have HN := hide hn
              clear hn
              obtain ⟨m, hm, hw0, -⟩ := whole_of hfit
              have hcv : ∀ w1 : World, (convert 22 3 (.float .f64 val.num)).run Tryz.prog w1 = .ok (.int .i64 m) w1 := fun w1 => run_convert_float_int (P := Tryz.prog) w1 22 3 .f64 .i64 val.num m (by kernel_rfl) Tryz.underlying3 hm
              have HW := hide hw0
              clear hm hw0
              clear hfit
              have t12 : (nm.toList == [102, 117, 122, 122, 121, 95, 112, 114, 101, 102, 105, 120, 95, 108, 101, 110, 103, 116, 104]) = true := by rw [HN.out, bs_toList]; decide
              go_wp2_with fail
              refine (set_107 HQB.out hlo2 _).mono ?_
              rintro e w3 ⟨rfl, hq2, hb3⟩
              have HQ2 := hide hq2
              have HB3 := hide hb3
              clear hq2 hb3
              go_wp2
              go_round
              case rel =>
                have hq3 := HQ2.out
                rw [← HW.out] at hq3
                refine ⟨k + 1, by omega, by go_num, ?_, HBW.out.trans ((HBX.out.mono hlo1).trans HB3.out)⟩
                rw [← hst2.out, HN.out]
                exact hq3
              case measure => simp [intOf]; omega
          · as_aux_lemma =>
              have HN := hide hn
              clear hn
              clear hfit
              have t12 : (nm.toList == [102, 117, 122, 122, 121, 95, 112, 114, 101, 102, 105, 120, 95, 108, 101, 110, 103, 116, 104]) = false := by rw [HN.out, bs_toList]; decide
              have t13 : (nm.toList == [102, 117, 122, 122, 121, 95, 114, 101, 119, 114, 105, 116, 101]) = true := by rw [HN.out, bs_toList]; decide
              go_wp2_with fail
              refine (set_108 HQB.out hlo2 _).mono ?_
              rintro e w3 ⟨rfl, hq2, hb3⟩
              have HQ2 := hide hq2
              have HB3 := hide hb3
              clear hq2 hb3
              go_wp2
              go_round
              case rel =>
                have hq3 := HQ2.out
                refine ⟨k + 1, by omega, by go_num, ?_, HBW.out.trans ((HBX.out.mono hlo1).trans HB3.out)⟩
                rw [← hst2.out, HN.out]
                exact hq3
              case measure => simp [intOf]; omega
          · as_aux_lemma =>
              have HN := hide hn
              clear hn
              clear hfit
              have t12 : (nm.toList == [102, 117, 122, 122, 121, 95, 112, 114, 101, 102, 105, 120, 95, 108, 101, 110, 103, 116, 104]) = false := by rw [HN.out, bs_toList]; decide
              have t13 : (nm.toList == [102, 117, 122, 122, 121, 95, 114, 101, 119, 114, 105, 116, 101]) = false := by rw [HN.out, bs_toList]; decide
              have t14 : (nm.toList == [108, 101, 110, 105, 101, 110, 116]) = true := by rw [HN.out, bs_toList]; decide
              go_wp2_with fail
              refine (set_109 HQB.out hlo2 _).mono ?_
              rintro e w3 ⟨rfl, hq2, hb3⟩
              have HQ2 := hide hq2
              have HB3 := hide hb3
              clear hq2 hb3
              go_wp2
              go_round
              case rel =>
                have hq3 := HQ2.out
                refine ⟨k + 1, by omega, by go_num, ?_, HBW.out.trans ((HBX.out.mono hlo1).trans HB3.out)⟩
                rw [← hst2.out, HN.out]
                exact hq3
              case measure => simp [intOf]; omega
          · as_aux_lemma =>
              have HN := hide hn
              clear hn
              obtain ⟨m, hm, hw0, -⟩ := whole_of hfit
              have hcv : ∀ w1 : World, (convert 22 3 (.float .f64 val.num)).run Tryz.prog w1 = .ok (.int .i64 m) w1 := fun w1 => run_convert_float_int (P := Tryz.prog) w1 22 3 .f64 .i64 val.num m (by kernel_rfl) Tryz.underlying3 hm
              have HW := hide hw0
              clear hm hw0
              clear hfit
              have t12 : (nm.toList == [102, 117, 122, 122, 121, 95, 112, 114, 101, 102, 105, 120, 95, 108, 101, 110, 103, 116, 104]) = false := by rw [HN.out, bs_toList]; decide
              have t13 : (nm.toList == [102, 117, 122, 122, 121, 95, 114, 101, 119, 114, 105, 116, 101]) = false := by rw [HN.out, bs_toList]; decide
              have t14 : (nm.toList == [108, 101, 110, 105, 101, 110, 116]) = false := by rw [HN.out, bs_toList]; decide
              have t15 : (nm.toList == [109, 97, 120, 95, 100, 101, 116, 101, 114, 109, 105, 110, 105, 122, 101, 100, 95, 115, 116, 97, 116, 101, 115]) = true := by rw [HN.out, bs_toList]; decide
              go_wp2_with fail
              refine (set_110 HQB.out hlo2 _).mono ?_
              rintro e w3 ⟨rfl, hq2, hb3⟩
              have HQ2 := hide hq2
              have HB3 := hide hb3
              clear hq2 hb3
              go_wp2
              go_round
              case rel =>
                have hq3 := HQ2.out
                rw [← HW.out] at hq3
                refine ⟨k + 1, by omega, by go_num, ?_, HBW.out.trans ((HBX.out.mono hlo1).trans HB3.out)⟩
                rw [← hst2.out, HN.out]
                exact hq3
              case measure => simp [intOf]; omega
          · as_aux_lemma =>
              have HN := hide hn
              clear hn
              clear hfit
              have t12 : (nm.toList == [102, 117, 122, 122, 121, 95, 112, 114, 101, 102, 105, 120, 95, 108, 101, 110, 103, 116, 104]) = false := by rw [HN.out, bs_toList]; decide
              have t13 : (nm.toList == [102, 117, 122, 122, 121, 95, 114, 101, 119, 114, 105, 116, 101]) = false := by rw [HN.out, bs_toList]; decide
              have t14 : (nm.toList == [108, 101, 110, 105, 101, 110, 116]) = false := by rw [HN.out, bs_toList]; decide
              have t15 : (nm.toList == [109, 97, 120, 95, 100, 101, 116, 101, 114, 109, 105, 110, 105, 122, 101, 100, 95, 115, 116, 97, 116, 101, 115]) = false := by rw [HN.out, bs_toList]; decide
              have t16 : (nm.toList == [109, 105, 110, 105, 109, 117, 109, 95, 115, 104, 111, 117, 108, 100, 95, 109, 97, 116, 99, 104]) = true := by rw [HN.out, bs_toList]; decide
              go_wp2_with fail
              refine (set_111 HQB.out hlo2 _).mono ?_
              rintro e w3 ⟨rfl, hq2, hb3⟩
              have HQ2 := hide hq2
              have HB3 := hide hb3
              clear hq2 hb3
              go_wp2
              go_round
              case rel =>
                have hq3 := HQ2.out
                refine ⟨k + 1, by omega, by go_num, ?_, HBW.out.trans ((HBX.out.mono hlo1).trans HB3.out)⟩
                rw [← hst2.out, HN.out]
                exact hq3
              case measure => simp [intOf]; omega
          · as_aux_lemma =>
              have HN := hide hn
              clear hn
              obtain ⟨m, hm, hw0, -⟩ := whole_of hfit
              have hcv : ∀ w1 : World, (convert 22 3 (.float .f64 val.num)).run Tryz.prog w1 = .ok (.int .i64 m) w1 := fun w1 => run_convert_float_int (P := Tryz.prog) w1 22 3 .f64 .i64 val.num m (by kernel_rfl) Tryz.underlying3 hm
              have HW := hide hw0
              clear hm hw0
              clear hfit
              have t12 : (nm.toList == [102, 117, 122, 122, 121, 95, 112, 114, 101, 102, 105, 120, 95, 108, 101, 110, 103, 116, 104]) = false := by rw [HN.out, bs_toList]; decide
              have t13 : (nm.toList == [102, 117, 122, 122, 121, 95, 114, 101, 119, 114, 105, 116, 101]) = false := by rw [HN.out, bs_toList]; decide
              have t14 : (nm.toList == [108, 101, 110, 105, 101, 110, 116]) = false := by rw [HN.out, bs_toList]; decide
              have t15 : (nm.toList == [109, 97, 120, 95, 100, 101, 116, 101, 114, 109, 105, 110, 105, 122, 101, 100, 95, 115, 116, 97, 116, 101, 115]) = false := by rw [HN.out, bs_toList]; decide
              have t16 : (nm.toList == [109, 105, 110, 105, 109, 117, 109, 95, 115, 104, 111, 117, 108, 100, 95, 109, 97, 116, 99, 104]) = false := by rw [HN.out, bs_toList]; decide
              have t17 : (nm.toList == [112, 104, 114, 97, 115, 101, 95, 115, 108, 111, 112]) = true := by rw [HN.out, bs_toList]; decide
              go_wp2_with fail
              refine (set_112 HQB.out hlo2 _).mono ?_
              rintro e w3 ⟨rfl, hq2, hb3⟩
              have HQ2 := hide hq2
              have HB3 := hide hb3
              clear hq2 hb3
              go_wp2
              go_round
              case rel =>
                have hq3 := HQ2.out
                rw [← HW.out] at hq3
                refine ⟨k + 1, by omega, by go_num, ?_, HBW.out.trans ((HBX.out.mono hlo1).trans HB3.out)⟩
                rw [← hst2.out, HN.out]
                exact hq3
              case measure => simp [intOf]; omega
          · have hno : (nm.toList == [102, 117, 122, 122, 121, 95, 112, 114, 101, 102, 105, 120, 95, 108, 101, 110, 103, 116, 104]) = false ∧ (nm.toList == [102, 117, 122, 122, 121, 95, 114, 101, 119, 114, 105, 116, 101]) = false ∧ (nm.toList == [108, 101, 110, 105, 101, 110, 116]) = false ∧ (nm.toList == [109, 97, 120, 95, 100, 101, 116, 101, 114, 109, 105, 110, 105, 122, 101, 100, 95, 115, 116, 97, 116, 101, 115]) = false ∧ (nm.toList == [109, 105, 110, 105, 109, 117, 109, 95, 115, 104, 111, 117, 108, 100, 95, 109, 97, 116, 99, 104]) = false ∧ (nm.toList == [112, 104, 114, 97, 115, 101, 95, 115, 108, 111, 112]) = false := by
              rcases hr with rfl | rfl | rfl | rfl | rfl | rfl | rfl <;> (rw [hn, bs_toList]; decide)
            obtain ⟨t12, t13, t14, t15, t16, t17⟩ := hno
            have HN0 := hide hn
            have HF0 := hide hfit
            have HR0 := hide hr
            clear hn hfit hr
            go_upto_region 42 with fail
            have hn := HN0.out
            have hfit := HF0.out
            have hr := HR0.out
            clear HN0 HF0 HR0 t12 t13 t14 t15 t16 t17
            rcases hr with rfl | rfl | rfl | rfl | rfl | rfl | hr
            · as_aux_lemma =>
                have HN := hide hn
                clear hn
                clear hfit
                have t18 : (nm.toList == [113, 117, 111, 116, 101, 95, 97, 110, 97, 108, 121, 122, 101, 114]) = true := by rw [HN.out, bs_toList]; decide
                go_wp2_with fail
                refine (set_113 HQB.out hlo2 _).mono ?_
                rintro e w3 ⟨rfl, hq2, hb3⟩
                have HQ2 := hide hq2
                have HB3 := hide hb3
                clear hq2 hb3
                go_wp2
                go_round
                case rel =>
                  have hq3 := HQ2.out
                  refine ⟨k + 1, by omega, by go_num, ?_, HBW.out.trans ((HBX.out.mono hlo1).trans HB3.out)⟩
                  rw [← hst2.out, HN.out]
                  exact hq3
                case measure => simp [intOf]; omega
            · as_aux_lemma =>
                have HN := hide hn
                clear hn
                clear hfit
                have t18 : (nm.toList == [113, 117, 111, 116, 101, 95, 97, 110, 97, 108, 121, 122, 101, 114]) = false := by rw [HN.out, bs_toList]; decide
                have t19 : (nm.toList == [113, 117, 111, 116, 101, 95, 102, 105, 101, 108, 100, 95, 115, 117, 102, 102, 105, 120]) = true := by rw [HN.out, bs_toList]; decide
                go_wp2_with fail
                refine (set_114 HQB.out hlo2 _).mono ?_
                rintro e w3 ⟨rfl, hq2, hb3⟩
                have HQ2 := hide hq2
                have HB3 := hide hb3
                clear hq2 hb3
                go_wp2
                go_round
                case rel =>
                  have hq3 := HQ2.out
                  refine ⟨k + 1, by omega, by go_num, ?_, HBW.out.trans ((HBX.out.mono hlo1).trans HB3.out)⟩
                  rw [← hst2.out, HN.out]
                  exact hq3
                case measure => simp [intOf]; omega
            · as_aux_lemma =>
                have HN := hide hn
                clear hn
                clear hfit
                have t18 : (nm.toList == [113, 117, 111, 116, 101, 95, 97, 110, 97, 108, 121, 122, 101, 114]) = false := by rw [HN.out, bs_toList]; decide
                have t19 : (nm.toList == [113, 117, 111, 116, 101, 95, 102, 105, 101, 108, 100, 95, 115, 117, 102, 102, 105, 120]) = false := by rw [HN.out, bs_toList]; decide
                have t20 : (nm.toList == [114, 101, 119, 114, 105, 116, 101]) = true := by rw [HN.out, bs_toList]; decide
                go_wp2_with fail
                refine (set_115 HQB.out hlo2 _).mono ?_
                rintro e w3 ⟨rfl, hq2, hb3⟩
                have HQ2 := hide hq2
                have HB3 := hide hb3
                clear hq2 hb3
                go_wp2
                go_round
                case rel =>
                  have hq3 := HQ2.out
                  refine ⟨k + 1, by omega, by go_num, ?_, HBW.out.trans ((HBX.out.mono hlo1).trans HB3.out)⟩
                  rw [← hst2.out, HN.out]
                  exact hq3
                case measure => simp [intOf]; omega
            · as_aux_lemma =>
                have HN := hide hn
                clear hn
                clear hfit
                have t18 : (nm.toList == [113, 117, 111, 116, 101, 95, 97, 110, 97, 108, 121, 122, 101, 114]) = false := by rw [HN.out, bs_toList]; decide
                have t19 : (nm.toList == [113, 117, 111, 116, 101, 95, 102, 105, 101, 108, 100, 95, 115, 117, 102, 102, 105, 120]) = false := by rw [HN.out, bs_toList]; decide
                have t20 : (nm.toList == [114, 101, 119, 114, 105, 116, 101]) = false := by rw [HN.out, bs_toList]; decide
                have t21 : (nm.toList == [116, 105, 101, 95, 98, 114, 101, 97, 107, 101, 114]) = true := by rw [HN.out, bs_toList]; decide
                go_wp2_with fail
                refine (set_116 HQB.out hlo2 _).mono ?_
                rintro e w3 ⟨rfl, hq2, hb3⟩
                have HQ2 := hide hq2
                have HB3 := hide hb3
                clear hq2 hb3
                go_wp2
                go_round
                case rel =>
                  have hq3 := HQ2.out
                  refine ⟨k + 1, by omega, by go_num, ?_, HBW.out.trans ((HBX.out.mono hlo1).trans HB3.out)⟩
                  rw [← hst2.out, HN.out]
                  exact hq3
                case measure => simp [intOf]; omega
            · as_aux_lemma =>
                have HN := hide hn
                clear hn
                clear hfit
                have t18 : (nm.toList == [113, 117, 111, 116, 101, 95, 97, 110, 97, 108, 121, 122, 101, 114]) = false := by rw [HN.out, bs_toList]; decide
                have t19 : (nm.toList == [113, 117, 111, 116, 101, 95, 102, 105, 101, 108, 100, 95, 115, 117, 102, 102, 105, 120]) = false := by rw [HN.out, bs_toList]; decide
                have t20 : (nm.toList == [114, 101, 119, 114, 105, 116, 101]) = false := by rw [HN.out, bs_toList]; decide
                have t21 : (nm.toList == [116, 105, 101, 95, 98, 114, 101, 97, 107, 101, 114]) = false := by rw [HN.out, bs_toList]; decide
                have t22 : (nm.toList == [116, 105, 109, 101, 95, 122, 111, 110, 101]) = true := by rw [HN.out, bs_toList]; decide
                go_wp2_with fail
                refine (set_117 HQB.out hlo2 _).mono ?_
                rintro e w3 ⟨rfl, hq2, hb3⟩
                have HQ2 := hide hq2
                have HB3 := hide hb3
                clear hq2 hb3
                go_wp2
                go_round
                case rel =>
                  have hq3 := HQ2.out
                  refine ⟨k + 1, by omega, by go_num, ?_, HBW.out.trans ((HBX.out.mono hlo1).trans HB3.out)⟩
                  rw [← hst2.out, HN.out]
                  exact hq3
                case measure => simp [intOf]; omega
            · as_aux_lemma =>
                have HN := hide hn
                clear hn
                clear hfit
                have t18 : (nm.toList == [113, 117, 111, 116, 101, 95, 97, 110, 97, 108, 121, 122, 101, 114]) = false := by rw [HN.out, bs_toList]; decide
                have t19 : (nm.toList == [113, 117, 111, 116, 101, 95, 102, 105, 101, 108, 100, 95, 115, 117, 102, 102, 105, 120]) = false := by rw [HN.out, bs_toList]; decide
                have t20 : (nm.toList == [114, 101, 119, 114, 105, 116, 101]) = false := by rw [HN.out, bs_toList]; decide
                have t21 : (nm.toList == [116, 105, 101, 95, 98, 114, 101, 97, 107, 101, 114]) = false := by rw [HN.out, bs_toList]; decide
                have t22 : (nm.toList == [116, 105, 109, 101, 95, 122, 111, 110, 101]) = false := by rw [HN.out, bs_toList]; decide
                have t23 : (nm.toList == [116, 121, 112, 101]) = true := by rw [HN.out, bs_toList]; decide
                go_wp2_with fail
                refine (set_118 HQB.out hlo2 _).mono ?_
                rintro e w3 ⟨rfl, hq2, hb3⟩
                have HQ2 := hide hq2
                have HB3 := hide hb3
                clear hq2 hb3
                go_wp2
                go_round
                case rel =>
                  have hq3 := HQ2.out
                  refine ⟨k + 1, by omega, by go_num, ?_, HBW.out.trans ((HBX.out.mono hlo1).trans HB3.out)⟩
                  rw [← hst2.out, HN.out]
                  exact hq3
                case measure => simp [intOf]; omega
            · have hno : (nm.toList == [113, 117, 111, 116, 101, 95, 97, 110, 97, 108, 121, 122, 101, 114]) = false ∧ (nm.toList == [113, 117, 111, 116, 101, 95, 102, 105, 101, 108, 100, 95, 115, 117, 102, 102, 105, 120]) = false ∧ (nm.toList == [114, 101, 119, 114, 105, 116, 101]) = false ∧ (nm.toList == [116, 105, 101, 95, 98, 114, 101, 97, 107, 101, 114]) = false ∧ (nm.toList == [116, 105, 109, 101, 95, 122, 111, 110, 101]) = false ∧ (nm.toList == [116, 121, 112, 101]) = false := by
                rcases hr with rfl <;> (rw [hn, bs_toList]; decide)
              obtain ⟨t18, t19, t20, t21, t22, t23⟩ := hno
              have HN0 := hide hn
              have HF0 := hide hfit
              have HR0 := hide hr
              clear hn hfit hr
              go_upto_region 54 with fail
              have hn := HN0.out
              have hfit := HF0.out
              have hr := HR0.out
              clear HN0 HF0 HR0 t18 t19 t20 t21 t22 t23
              rcases hr with rfl
              · as_aux_lemma =>
                  have HN := hide hn
                  clear hn
                  clear hfit
                  have t24 : (nm.toList == [95, 110, 97, 109, 101]) = true := by rw [HN.out, bs_toList]; decide
                  go_wp2_with fail
                  refine (set_119 HQB.out hlo2 _).mono ?_
                  rintro e w3 ⟨rfl, hq2, hb3⟩
                  have HQ2 := hide hq2
                  have HB3 := hide hb3
                  clear hq2 hb3
                  go_wp2
                  go_round
                  case rel =>
                    have hq3 := HQ2.out
                    refine ⟨k + 1, by omega, by go_num, ?_, HBW.out.trans ((HBX.out.mono hlo1).trans HB3.out)⟩
                    rw [← hst2.out, HN.out]
                    exact hq3
                  case measure => simp [intOf]; omega
    · have hke : ss.take k = ss := List.take_of_length_le (by omega)
      have HQE : Hid (QAt wr W1.heap.size bq gQS (runQ qtQS q0 ss)) := hide (by have := HQ.out; rw [hke] at this; exact this)
      clear hke
      go_wp2_with fail
      refine (HSRC'.out wr W1.heap.size bq HBT.out hlo1 HQE.out).mono ?_
      rintro e w4 ⟨u, rfl, hu, hb4⟩
      have HU := hide hu
      have HB4 := hide (HBW.out.trans (hb4.mono hlo1))
      clear hu hb4
      go_wp2_with fail
      refine (told_any HU.out).mono ?_
      rintro e w5 ⟨v, t, rfl, ht, hr, hb5⟩
      obtain ⟨a, cap, a', cap', c, rfl, -⟩ := ht.open
      have HT := hide ht
      have HRT := hide hr
      have hsz4 : W1.heap.size ≤ w4.heap.size := HB4.out.size
      have HB5 := hide (HB4.out.trans (hb5.mono hsz4))
      have hblk : w5.heap[W.heap.size]? = some (.cells #[.int .i64 0, .string ⟨#[]⟩, .float .f64 0, .bool false, .slice none 0 0, .slice none 0 0] 26 (0, 0)) := (HB5.out.block _ (by omega)).trans hblk1.out
      have c0 : w5.cell? ⟨W.heap.size, 0, none⟩ = some (.int .i64 0) := by rw [cell_of_row w5 _ 0 _ _ _ hblk]; rfl
      have c1 : w5.cell? ⟨W.heap.size, 1, none⟩ = some (.string ⟨#[]⟩) := by rw [cell_of_row w5 _ 1 _ _ _ hblk]; rfl
      have c2 : w5.cell? ⟨W.heap.size, 2, none⟩ = some (.float .f64 0) := by rw [cell_of_row w5 _ 2 _ _ _ hblk]; rfl
      have c3 : w5.cell? ⟨W.heap.size, 3, none⟩ = some (.bool false) := by rw [cell_of_row w5 _ 3 _ _ _ hblk]; rfl
      have c4 : w5.cell? ⟨W.heap.size, 4, none⟩ = some (.slice none 0 0) := by rw [cell_of_row w5 _ 4 _ _ _ hblk]; rfl
      have c5 : w5.cell? ⟨W.heap.size, 5, none⟩ = some (.slice none 0 0) := by rw [cell_of_row w5 _ 5 _ _ _ hblk]; rfl
      have hf : ∀ j, w5.frozen? ⟨W.heap.size, j, none⟩ = false := fun j => frozen_of_row w5 _ j _ _ hblk
      have HZ := hide (set6 hblk (.int .i64 t.kind) (.string t.text) (.float .f64 t.num) (.bool t.yes) (.slice a t.keys.length cap) (.slice a' t.kids.length cap'))
      have HS := hide (same6 (ok := newB W1.heap.size) (w1 := w5) (b := W.heap.size) (by simp [newB]; omega) (.int .i64 t.kind) (.string t.text) (.float .f64 t.num) (.bool t.yes) (.slice a t.keys.length cap) (.slice a' t.kids.length cap'))
      have HL := hide (below6 (w1 := w5) (n := W.heap.size) (b := W.heap.size) (by omega) (.int .i64 t.kind) (.string t.text) (.float .f64 t.num) (.bool t.yes) (.slice a t.keys.length cap) (.slice a' t.kids.length cap'))
      clear ht hr hb5 hblk
      go_wp2_with fail
      generalize ((((((w5.setCell ⟨W.heap.size, 0, none⟩ (.int .i64 t.kind)).setCell ⟨W.heap.size, 1, none⟩ (.string t.text)).setCell ⟨W.heap.size, 2, none⟩ (.float .f64 t.num)).setCell ⟨W.heap.size, 3, none⟩ (.bool t.yes)).setCell ⟨W.heap.size, 4, none⟩ (.slice a t.keys.length cap)).setCell ⟨W.heap.size, 5, none⟩ (.slice a' t.kids.length cap')) = wz at *
      have e0 : wz.cell? ⟨W.heap.size, 0, none⟩ = some (.int .i64 t.kind) := by rw [cell_of_row wz _ 0 _ _ _ HZ.out]; rfl
      have e1 : wz.cell? ⟨W.heap.size, 1, none⟩ = some (.string t.text) := by rw [cell_of_row wz _ 1 _ _ _ HZ.out]; rfl
      have e2 : wz.cell? ⟨W.heap.size, 2, none⟩ = some (.float .f64 t.num) := by rw [cell_of_row wz _ 2 _ _ _ HZ.out]; rfl
      have e3 : wz.cell? ⟨W.heap.size, 3, none⟩ = some (.bool t.yes) := by rw [cell_of_row wz _ 3 _ _ _ HZ.out]; rfl
      have e4 : wz.cell? ⟨W.heap.size, 4, none⟩ = some (.slice a t.keys.length cap) := by rw [cell_of_row wz _ 4 _ _ _ HZ.out]; rfl
      have e5 : wz.cell? ⟨W.heap.size, 5, none⟩ = some (.slice a' t.kids.length cap') := by rw [cell_of_row wz _ 5 _ _ _ HZ.out]; rfl
      refine bodyPost_ret (by simp [results, Tryz.results25, go_sem, e0, e1, e2, e3, e4, e5]; try rfl) rfl ?_
      refine ⟨_, t, rfl, ?_, by rw [← HQQ.out]; exact HRT.out, ?_⟩
      · refine TreeAt.weaken (fun k hk _ => ?_) ((HT.out.weaken (ok' := newB W1.heap.size) (fun k hk _ => Nat.le_trans hsz4 hk)).same HS.out)
        exact Nat.le_trans (by omega) hk
      · exact (B01.out.trans (HB5.out.mono B01.out.size)).trans HL.out
end Go.Proofs.YtbcnhcpgloncdaaGreatDoor
