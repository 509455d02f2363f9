/-
  THE LOOP OF impl.CombinedFields: WHAT EACH SETTING DOES. (Printed by gen/loops.py.)
-/
import Derived.Test.YtbcnhcpgloncdaaGreatDoorA3
import Derived.Test.YtbcnhcpgloncdaaGreatDoorA4
import Derived.Test.YtbcnhcpgloncdaaGreatDoorA12
import Derived.Test.YtbcnhcpgloncdaaGreatDoorA18
namespace Go.Proofs.YtbcnhcpgloncdaaGreatDoor
open Go.RowKit Go.Sort Go.ChangeMaps Go.MapKept Go.Lib

set_option maxHeartbeats 8000000 in
set_option maxRecDepth 100000 in
theorem impl_19 {W : World} {ok : Nat → Prop} {v vF vS : Value} {text : T} {fields : List ByteArray} {ss : List S} (hv : TreeAt W ok v text) (hsc : text.kind = 1 ∨ text.kind = 2 ∨ text.kind = 3) (hF : StrsAt W ok vF fields) (hS : SetsAt W ok vS ss)
    (hfit : ∀ s ∈ ss, fitsAt CF s = true) (hsz : ∀ s ∈ ss, s.value.text.size < 35184372088832) (hln : fields.length + ss.length ≤ 4194304) (hG : Glob W)
    (R : Q → T → Prop) (HSRC : ∀ (w : World) (lo bq : Nat), Below W.heap.size W w → lo ≤ w.heap.size → QAt w lo bq gCF (runQ qtCF (initQ (cCF (plainV text)) fields) ss) → Calls Tryz.prog 61 #[.pointer (some ⟨bq, 0, none⟩)] w (RetSrc w (R (runQ qtCF (initQ (cCF (plainV text)) fields) ss)))) :
    Calls Tryz.prog 19 #[v, vF, vS] W (RetTold W (R (runQ qtCF (initQ (cCF (plainV text)) fields) ss))) := by
  have HSRC' := hide HSRC
  clear HSRC
  have HSS := hide hS
  obtain ⟨aS, capS, cS, rfl, hcapS, hcS, htS⟩ := hS
  have HFIT := hide hfit
  have HSZ := hide hsz
  have HG := hide hG
  clear hfit hsz hG
  have HCS := hide hcS
  have HTS := hide htS
  clear hcS htS
  have HV := hide hv
  have HF := hide hF
  obtain ⟨aF, capF, rfl, hcapF, -⟩ := hF
  obtain ⟨ka, kc, ta, tc, cc, rfl, -⟩ := hv.open
  clear hv
  have hpv : ∃ t x, plainV text = .iface t x := by
    unfold plainV
    split
    · exact ⟨_, _, rfl⟩
    · split <;> exact ⟨_, _, rfl⟩
  have HPV := hide hpv
  have HSC := hide hsc
  clear hpv hsc
  obtain ⟨W1, hW1⟩ : ∃ x, x = ((W.alloc (.cells #[.int .i64 text.kind, .string text.text, .float .f64 text.num, .bool text.yes, .slice ka text.keys.length kc, .slice ta text.kids.length tc] 26 (0, 0))).alloc (.cells #[.int .i64 0, .string ⟨#[]⟩, .float .f64 0, .bool false, .slice none 0 0, .slice none 0 0] 26 (0, 0))) := ⟨_, rfl⟩
  have B01 : Hid (Below W.heap.size W W1) := hide (by rw [hW1]; go_grown)
  have S1 : W1.heap.size = W.heap.size + 2 := by rw [hW1]; simp
  have HS1 := hide S1
  have hS1 : W.heap.size + 2 ≤ W1.heap.size := by omega
  have hblk1 : Hid (W1.heap[W.heap.size + 1]? = some (.cells #[.int .i64 0, .string ⟨#[]⟩, .float .f64 0, .bool false, .slice none 0 0, .slice none 0 0] 26 (0, 0))) := hide (by rw [hW1]; exact heap_alloc_two _ _ _)
  have HW1 := hide hW1
  clear hW1 S1
  go_enter Tryz.func19, Tryz.ntmps19
  go_wp2_with fail
  rw [← HW1.out]
  refine (plain_any (HV.out.same (Same.of_below B01.out)) HSC.out).mono ?_
  rintro e w1 ⟨rfl, hb1⟩
  have HB1 := hide hb1
  have hsz1 : W1.heap.size ≤ w1.heap.size := hb1.size
  clear hb1
  go_wp2_with fail
  refine (new_54 hsz1 (plainV text) HPV.out ((HF.out.same (Same.of_below B01.out)).same (Same.of_below HB1.out)) (by omega)).mono ?_
  rintro e w2 ⟨bq, rfl, hq, hb2⟩
  have HB2 := hide (HB1.out.trans (hb2.mono hsz1))
  have HQ0 := hide hq
  clear hq hb2
  go_wp2_with fail
  have HQ0' : Hid (QAt w2 W1.heap.size bq gCF (runQ qtCF (initQ (cCF (plainV text)) fields) (ss.take 0))) := hide HQ0.out
  clear HQ0
  obtain ⟨q0, hq0⟩ : ∃ x, x = initQ (cCF (plainV text)) fields := ⟨_, rfl⟩
  rw [← hq0] at HQ0' HSRC' ⊢
  have HLF : Hid (q0.fields.length + ss.length ≤ 4194304) := hide (by rw [hq0]; simpa [initQ] using hln)
  have HLB : Hid (q0.boosts.length + ss.length ≤ 4194304) := hide (by rw [hq0]; simp [initQ]; omega)
  have HQQ := hide hq0
  clear hq0
  go_loopw [17] (fun i wr => ∃ k : Nat, k ≤ ss.length ∧ i = .int .i64 k ∧ QAt wr W1.heap.size bq gCF (runQ qtCF q0 (ss.take k)) ∧ Below W1.heap.size W1 wr) (fun i _ => ss.length - (intOf i).toNat)
  case atStart => exact ⟨0, Nat.zero_le _, rfl, HQ0'.out, HB2.out⟩
  case round =>
    obtain ⟨k, hk, rfl, hq, hbw⟩ := hrel
    have HQ := hide hq
    have HBW := hide hbw
    have HBT := hide (B01.out.trans (hbw.mono B01.out.size))
    have hlo1 : W1.heap.size ≤ wr.heap.size := hbw.size
    have hlq := hq.lt
    clear hq hbw
    by_cases hlt : k < ss.length
    · obtain ⟨hfl, hbl, hnext⟩ := round_start (tab := qtCF) hlt HLF.out HLB.out
      obtain ⟨b0, o0, rfl, hok0, hcell⟩ := HCS.out k hlt
      obtain ⟨h0, htr⟩ := HTS.out k ss[k] (by simp)
      have HMEM := hide (List.getElem_mem hlt)
      have HNX := hide hnext
      have htx' : ss[k].value.text.size < 35184372088832 := HSZ.out _ HMEM.out
      have htx : ss[k].value.text.size ≤ maxLen := by unfold maxLen; omega
      obtain ⟨r, hr, hn, hfit⟩ := fits_kind (HFIT.out _ HMEM.out)
      obtain ⟨ka', kc', ta', tc', cc', hv6, -⟩ := htr.open
      simp only [Value.agg.injEq, Array.mk.injEq, List.cons.injEq, and_true] at hv6
      obtain ⟨v1, v2, v3, v4, v5, v6⟩ := hv6
      have e0 := hcell 0 (by omega)
      have e1 := hcell 1 (by omega)
      have e2 := hcell 2 (by omega)
      have e3 := hcell 3 (by omega)
      have e4 := hcell 4 (by omega)
      have e5 := hcell 5 (by omega)
      have e6 := hcell 6 (by omega)
      rw [h0] at e0
      rw [v1] at e1; rw [v2] at e2; rw [v3] at e3; rw [v4] at e4; rw [v5] at e5; rw [v6] at e6
      simp only [Nat.add_zero] at e0
      have hbl0 : b0 < W.heap.size := World.block_lt_of_cell? W _ e0
      have k0 := (HBT.out.cell hbl0).trans e0
      have k1 := (HBT.out.cell hbl0).trans e1
      have k2 := (HBT.out.cell hbl0).trans e2
      have k3 := (HBT.out.cell hbl0).trans e3
      have k4 := (HBT.out.cell hbl0).trans e4
      have k5 := (HBT.out.cell hbl0).trans e5
      have k6 := (HBT.out.cell hbl0).trans e6
      have hst : Hid (stepQ qtCF (runQ qtCF q0 (ss.take k)) ss[k] = runQ qtCF q0 (ss.take (k + 1))) := hide hnext.symm
      have i1 : (0 : Int) ≤ (k : Int) := by omega
      have i3 : (k : Int) < (ss.length : Int) := by omega
      obtain ⟨nm, hnm⟩ : ∃ x, x = ss[k].name := ⟨_, rfl⟩
      obtain ⟨val, hval⟩ : ∃ x, x = ss[k].value := ⟨_, rfl⟩
      have hst2 : Hid (stepQ qtCF (runQ qtCF q0 (ss.take k)) ⟨nm, val⟩ = runQ qtCF q0 (ss.take (k + 1))) := hide (by rw [← hst.out, hnm, hval])
      rw [← hnm] at hn k0
      rw [← hval] at hfit htx htx' k1 k2 k3 k4 k5 k6
      clear e0 e1 e2 e3 e4 e5 e6 v1 v2 v3 v4 v5 v6 h0 htr hcell hnext hst hnm hval
      obtain ⟨ks2, ts2, kk2, hkl, htl⟩ : ∃ (a b : Nat) (c : Int), a = val.keys.length ∧ b = val.kids.length := ⟨_, _, 0, rfl, rfl⟩
      rw [← hkl] at k5
      rw [← htl] at k6
      clear hkl htl kk2
      generalize runQ qtCF q0 (ss.take k) = qk at *
      rw [rowsCF_is] at hr
      have hbx : Below wr.heap.size wr (wr.alloc (.cells #[.string nm, .int .i64 val.kind, .string val.text, .float .f64 val.num, .bool val.yes, .slice ka' ks2 kc', .slice ta' ts2 tc'] 45 (0, 0))) := by go_grown
      have HBX := hide hbx
      have HQB := hide (HQ.out.kept hbx)
      have hlo2 : W1.heap.size ≤ (wr.alloc (.cells #[.string nm, .int .i64 val.kind, .string val.text, .float .f64 val.num, .bool val.yes, .slice ka' ks2 kc', .slice ta' ts2 tc'] 45 (0, 0))).heap.size := Nat.le_trans hlo1 hbx.size
      have HGB := hide ((HG.out.below HBT.out).below hbx)
      clear hbx
      simp only [List.mem_cons, List.not_mem_nil, or_false] at hr
      rcases hr with rfl | rfl | rfl | rfl | rfl | rfl
      · have HN := hide hn
        clear hn
        clear hfit
        have t0 : (nm.toList == [102, 105, 101, 108, 100]) = true := by rw [HN.out, bs_toList]; decide
        go_wp2_with fail
        refine (set_55 HQB.out hlo2 hfl _).mono ?_
        rintro e w3 ⟨rfl, hq2, hb3⟩
        have HQ2 := hide hq2
        have HB3 := hide hb3
        clear hq2 hb3
        go_wp2
        go_round
        case rel =>
          have hq3 := HQ2.out
          refine ⟨k + 1, by omega, by go_num, ?_, HBW.out.trans ((HBX.out.mono hlo1).trans HB3.out)⟩
          rw [← hst2.out, HN.out]
          exact hq3
        case measure => simp [intOf]; omega
      · have HN := hide hn
        clear hn
        clear hfit
        have t0 : (nm.toList == [102, 105, 101, 108, 100]) = false := by rw [HN.out, bs_toList]; decide
        have t1 : (nm.toList == [102, 105, 101, 108, 100, 95, 119, 105, 116, 104, 95, 98, 111, 111, 115, 116]) = true := by rw [HN.out, bs_toList]; decide
        go_wp2_with fail
        refine (set_56 HQB.out hlo2 hfl hbl _ htx _).mono ?_
        rintro e w3 ⟨rfl, hq2, hb3⟩
        have HQ2 := hide hq2
        have HB3 := hide hb3
        clear hq2 hb3
        go_wp2
        go_round
        case rel =>
          have hq3 := HQ2.out
          refine ⟨k + 1, by omega, by go_num, ?_, HBW.out.trans ((HBX.out.mono hlo1).trans HB3.out)⟩
          rw [← hst2.out, HN.out]
          exact hq3
        case measure => simp [intOf]; omega
      · have HN := hide hn
        clear hn
        clear hfit
        have t0 : (nm.toList == [102, 105, 101, 108, 100]) = false := by rw [HN.out, bs_toList]; decide
        have t1 : (nm.toList == [102, 105, 101, 108, 100, 95, 119, 105, 116, 104, 95, 98, 111, 111, 115, 116]) = false := by rw [HN.out, bs_toList]; decide
        have t2 : (nm.toList == [97, 117, 116, 111, 95, 103, 101, 110, 101, 114, 97, 116, 101, 95, 115, 121, 110, 111, 110, 121, 109, 115, 95, 112, 104, 114, 97, 115, 101, 95, 113, 117, 101, 114, 121]) = true := by rw [HN.out, bs_toList]; decide
        go_wp2_with fail
        refine (set_57 HQB.out hlo2 _).mono ?_
        rintro e w3 ⟨rfl, hq2, hb3⟩
        have HQ2 := hide hq2
        have HB3 := hide hb3
        clear hq2 hb3
        go_wp2
        go_round
        case rel =>
          have hq3 := HQ2.out
          refine ⟨k + 1, by omega, by go_num, ?_, HBW.out.trans ((HBX.out.mono hlo1).trans HB3.out)⟩
          rw [← hst2.out, HN.out]
          exact hq3
        case measure => simp [intOf]; omega
      · have HN := hide hn
        clear hn
        clear hfit
        have t0 : (nm.toList == [102, 105, 101, 108, 100]) = false := by rw [HN.out, bs_toList]; decide
        have t1 : (nm.toList == [102, 105, 101, 108, 100, 95, 119, 105, 116, 104, 95, 98, 111, 111, 115, 116]) = false := by rw [HN.out, bs_toList]; decide
        have t2 : (nm.toList == [97, 117, 116, 111, 95, 103, 101, 110, 101, 114, 97, 116, 101, 95, 115, 121, 110, 111, 110, 121, 109, 115, 95, 112, 104, 114, 97, 115, 101, 95, 113, 117, 101, 114, 121]) = false := by rw [HN.out, bs_toList]; decide
        have t3 : (nm.toList == [109, 105, 110, 105, 109, 117, 109, 95, 115, 104, 111, 117, 108, 100, 95, 109, 97, 116, 99, 104]) = true := by rw [HN.out, bs_toList]; decide
        go_wp2_with fail
        refine (set_58 HQB.out hlo2 _).mono ?_
        rintro e w3 ⟨rfl, hq2, hb3⟩
        have HQ2 := hide hq2
        have HB3 := hide hb3
        clear hq2 hb3
        go_wp2
        go_round
        case rel =>
          have hq3 := HQ2.out
          refine ⟨k + 1, by omega, by go_num, ?_, HBW.out.trans ((HBX.out.mono hlo1).trans HB3.out)⟩
          rw [← hst2.out, HN.out]
          exact hq3
        case measure => simp [intOf]; omega
      · have HN := hide hn
        clear hn
        clear hfit
        have t0 : (nm.toList == [102, 105, 101, 108, 100]) = false := by rw [HN.out, bs_toList]; decide
        have t1 : (nm.toList == [102, 105, 101, 108, 100, 95, 119, 105, 116, 104, 95, 98, 111, 111, 115, 116]) = false := by rw [HN.out, bs_toList]; decide
        have t2 : (nm.toList == [97, 117, 116, 111, 95, 103, 101, 110, 101, 114, 97, 116, 101, 95, 115, 121, 110, 111, 110, 121, 109, 115, 95, 112, 104, 114, 97, 115, 101, 95, 113, 117, 101, 114, 121]) = false := by rw [HN.out, bs_toList]; decide
        have t3 : (nm.toList == [109, 105, 110, 105, 109, 117, 109, 95, 115, 104, 111, 117, 108, 100, 95, 109, 97, 116, 99, 104]) = false := by rw [HN.out, bs_toList]; decide
        have t4 : (nm.toList == [111, 112, 101, 114, 97, 116, 111, 114]) = true := by rw [HN.out, bs_toList]; decide
        go_wp2_with fail
        refine (set_59 HQB.out hlo2 _).mono ?_
        rintro e w3 ⟨rfl, hq2, hb3⟩
        have HQ2 := hide hq2
        have HB3 := hide hb3
        clear hq2 hb3
        go_wp2
        go_round
        case rel =>
          have hq3 := HQ2.out
          refine ⟨k + 1, by omega, by go_num, ?_, HBW.out.trans ((HBX.out.mono hlo1).trans HB3.out)⟩
          rw [← hst2.out, HN.out]
          exact hq3
        case measure => simp [intOf]; omega
      · have HN := hide hn
        clear hn
        clear hfit
        have t0 : (nm.toList == [102, 105, 101, 108, 100]) = false := by rw [HN.out, bs_toList]; decide
        have t1 : (nm.toList == [102, 105, 101, 108, 100, 95, 119, 105, 116, 104, 95, 98, 111, 111, 115, 116]) = false := by rw [HN.out, bs_toList]; decide
        have t2 : (nm.toList == [97, 117, 116, 111, 95, 103, 101, 110, 101, 114, 97, 116, 101, 95, 115, 121, 110, 111, 110, 121, 109, 115, 95, 112, 104, 114, 97, 115, 101, 95, 113, 117, 101, 114, 121]) = false := by rw [HN.out, bs_toList]; decide
        have t3 : (nm.toList == [109, 105, 110, 105, 109, 117, 109, 95, 115, 104, 111, 117, 108, 100, 95, 109, 97, 116, 99, 104]) = false := by rw [HN.out, bs_toList]; decide
        have t4 : (nm.toList == [111, 112, 101, 114, 97, 116, 111, 114]) = false := by rw [HN.out, bs_toList]; decide
        have t5 : (nm.toList == [122, 101, 114, 111, 95, 116, 101, 114, 109, 115, 95, 113, 117, 101, 114, 121]) = true := by rw [HN.out, bs_toList]; decide
        go_wp2_with fail
        refine (set_60 HQB.out hlo2 _).mono ?_
        rintro e w3 ⟨rfl, hq2, hb3⟩
        have HQ2 := hide hq2
        have HB3 := hide hb3
        clear hq2 hb3
        go_wp2
        go_round
        case rel =>
          have hq3 := HQ2.out
          refine ⟨k + 1, by omega, by go_num, ?_, HBW.out.trans ((HBX.out.mono hlo1).trans HB3.out)⟩
          rw [← hst2.out, HN.out]
          exact hq3
        case measure => simp [intOf]; omega
    · have hke : ss.take k = ss := List.take_of_length_le (by omega)
      have HQE : Hid (QAt wr W1.heap.size bq gCF (runQ qtCF q0 ss)) := hide (by have := HQ.out; rw [hke] at this; exact this)
      clear hke
      go_wp2_with fail
      refine (HSRC'.out wr W1.heap.size bq HBT.out hlo1 HQE.out).mono ?_
      rintro e w4 ⟨u, rfl, hu, hb4⟩
      have HU := hide hu
      have HB4 := hide (HBW.out.trans (hb4.mono hlo1))
      clear hu hb4
      go_wp2_with fail
      refine (told_any HU.out).mono ?_
      rintro e w5 ⟨v, t, rfl, ht, hr, hb5⟩
      obtain ⟨a, cap, a', cap', c, rfl, -⟩ := ht.open
      have HT := hide ht
      have HRT := hide hr
      have hsz4 : W1.heap.size ≤ w4.heap.size := HB4.out.size
      have HB5 := hide (HB4.out.trans (hb5.mono hsz4))
      have hblk : w5.heap[W.heap.size + 1]? = some (.cells #[.int .i64 0, .string ⟨#[]⟩, .float .f64 0, .bool false, .slice none 0 0, .slice none 0 0] 26 (0, 0)) := (HB5.out.block _ (by omega)).trans hblk1.out
      have c0 : w5.cell? ⟨W.heap.size + 1, 0, none⟩ = some (.int .i64 0) := by rw [cell_of_row w5 _ 0 _ _ _ hblk]; rfl
      have c1 : w5.cell? ⟨W.heap.size + 1, 1, none⟩ = some (.string ⟨#[]⟩) := by rw [cell_of_row w5 _ 1 _ _ _ hblk]; rfl
      have c2 : w5.cell? ⟨W.heap.size + 1, 2, none⟩ = some (.float .f64 0) := by rw [cell_of_row w5 _ 2 _ _ _ hblk]; rfl
      have c3 : w5.cell? ⟨W.heap.size + 1, 3, none⟩ = some (.bool false) := by rw [cell_of_row w5 _ 3 _ _ _ hblk]; rfl
      have c4 : w5.cell? ⟨W.heap.size + 1, 4, none⟩ = some (.slice none 0 0) := by rw [cell_of_row w5 _ 4 _ _ _ hblk]; rfl
      have c5 : w5.cell? ⟨W.heap.size + 1, 5, none⟩ = some (.slice none 0 0) := by rw [cell_of_row w5 _ 5 _ _ _ hblk]; rfl
      have hf : ∀ j, w5.frozen? ⟨W.heap.size + 1, j, none⟩ = false := fun j => frozen_of_row w5 _ j _ _ hblk
      have HZ := hide (set6 hblk (.int .i64 t.kind) (.string t.text) (.float .f64 t.num) (.bool t.yes) (.slice a t.keys.length cap) (.slice a' t.kids.length cap'))
      have HS := hide (same6 (ok := newB W1.heap.size) (w1 := w5) (b := W.heap.size + 1) (by simp [newB]; omega) (.int .i64 t.kind) (.string t.text) (.float .f64 t.num) (.bool t.yes) (.slice a t.keys.length cap) (.slice a' t.kids.length cap'))
      have HL := hide (below6 (w1 := w5) (n := W.heap.size) (b := W.heap.size + 1) (by omega) (.int .i64 t.kind) (.string t.text) (.float .f64 t.num) (.bool t.yes) (.slice a t.keys.length cap) (.slice a' t.kids.length cap'))
      clear ht hr hb5 hblk
      go_wp2_with fail
      generalize ((((((w5.setCell ⟨W.heap.size + 1, 0, none⟩ (.int .i64 t.kind)).setCell ⟨W.heap.size + 1, 1, none⟩ (.string t.text)).setCell ⟨W.heap.size + 1, 2, none⟩ (.float .f64 t.num)).setCell ⟨W.heap.size + 1, 3, none⟩ (.bool t.yes)).setCell ⟨W.heap.size + 1, 4, none⟩ (.slice a t.keys.length cap)).setCell ⟨W.heap.size + 1, 5, none⟩ (.slice a' t.kids.length cap')) = wz at *
      have e0 : wz.cell? ⟨W.heap.size + 1, 0, none⟩ = some (.int .i64 t.kind) := by rw [cell_of_row wz _ 0 _ _ _ HZ.out]; rfl
      have e1 : wz.cell? ⟨W.heap.size + 1, 1, none⟩ = some (.string t.text) := by rw [cell_of_row wz _ 1 _ _ _ HZ.out]; rfl
      have e2 : wz.cell? ⟨W.heap.size + 1, 2, none⟩ = some (.float .f64 t.num) := by rw [cell_of_row wz _ 2 _ _ _ HZ.out]; rfl
      have e3 : wz.cell? ⟨W.heap.size + 1, 3, none⟩ = some (.bool t.yes) := by rw [cell_of_row wz _ 3 _ _ _ HZ.out]; rfl
      have e4 : wz.cell? ⟨W.heap.size + 1, 4, none⟩ = some (.slice a t.keys.length cap) := by rw [cell_of_row wz _ 4 _ _ _ HZ.out]; rfl
      have e5 : wz.cell? ⟨W.heap.size + 1, 5, none⟩ = some (.slice a' t.kids.length cap') := by rw [cell_of_row wz _ 5 _ _ _ HZ.out]; rfl
      refine bodyPost_ret (by simp [results, Tryz.results19, go_sem, e0, e1, e2, e3, e4, e5]; try rfl) rfl ?_
      refine ⟨_, t, rfl, ?_, by rw [← HQQ.out]; exact HRT.out, ?_⟩
      · refine TreeAt.weaken (fun k hk _ => ?_) ((HT.out.weaken (ok' := newB W1.heap.size) (fun k hk _ => Nat.le_trans hsz4 hk)).same HS.out)
        exact Nat.le_trans (by omega) hk
      · exact (B01.out.trans (HB5.out.mono B01.out.size)).trans HL.out
end Go.Proofs.YtbcnhcpgloncdaaGreatDoor

/-
  WHAT Source OF A combined_fields QUERY GIVES. (Printed by gen/source.py.)
-/
namespace Go.Proofs.YtbcnhcpgloncdaaGreatDoor
open Go.RowKit Go.Sort Go.ChangeMaps Go.MapKept Go.Lib
open Go.Maps (Keyed has IsMap)

def entsCF (bt : Nat → List UInt8) (t0 : T) (q : Q) : List (ByteArray × T) := ((((([(bs [113, 117, 101, 114, 121], t0)] ++ [(bs [102, 105, 101, 108, 100, 115], tList (fieldTexts bt q))]) ++ ent [97, 117, 116, 111, 95, 103, 101, 110, 101, 114, 97, 116, 101, 95, 115, 121, 110, 111, 110, 121, 109, 115, 95, 112, 104, 114, 97, 115, 101, 95, 113, 117, 101, 114, 121] (fvT (q.f 3))) ++ ent [111, 112, 101, 114, 97, 116, 111, 114] (fvT (q.f 4))) ++ ent [109, 105, 110, 105, 109, 117, 109, 95, 115, 104, 111, 117, 108, 100, 95, 109, 97, 116, 99, 104] (fvT (q.f 5))) ++ ent [122, 101, 114, 111, 95, 116, 101, 114, 109, 115, 95, 113, 117, 101, 114, 121] (fvT (q.f 6)))

set_option maxHeartbeats 16000000 in
set_option maxRecDepth 100000 in
theorem source_61 {W : World} {lo bq : Nat} {q : Q} {okx : Nat → Prop} (bt : Nat → List UInt8) (HFF : ∀ (x : Nat) (w : World), okx x → Glob w → Calls Tryz.prog 128 #[.float .f64 x, .int .u8 102, .int .i64 6, .int .i64 64] w (RetText w (bt x))) (hbt : ∀ x, okx x → (bt x).length ≤ 1000)
    (h : QAt W lo bq gCF q) (hG : Glob W) (hsh : Shaped qtCF q) (u0 : Value) (t0 : T) (h0 : q.f 0 = .val u0) (hu0 : ∃ t x, u0 = .iface t x) (ht0 : ∀ F w, TellsF F w u0 t0)
    (hbo : ∀ p ∈ q.boosts, okx p.2) (hfs : ∀ f ∈ q.fields, f.size ≤ 1099511627776) (hln : q.fields.length ≤ 4194304) :
    Calls Tryz.prog 61 #[.pointer (some ⟨bq, 0, none⟩)] W (RetSrc W fun t => t = mapTree [(bs [99, 111, 109, 98, 105, 110, 101, 100, 95, 102, 105, 101, 108, 100, 115], mapTree (entsCF bt t0 q))]) := by
  obtain ⟨ut, ux, rfl⟩ := hu0
  have HT0 := hide ht0
  clear ht0
  have HFF' := hide HFF
  have H := hide h
  have HG := hide hG
  have HSH := hide hsh
  have HBO := hide hbo
  have HFS := hide hfs
  obtain ⟨vF, hcF, hsF⟩ := h.fieldsAt
  obtain ⟨bm, hcB, hbA, hbm⟩ := h.boostAt
  obtain ⟨v0, hc0, hf0⟩ := h.field 0 (by decide) (by decide) (by decide)
  rw [h0] at hf0
  obtain rfl : v0 = .iface ut ux := hf0
  dsimp only [gCF] at hcF hcB
  obtain ⟨aF, capF, rfl, hcapF, hcellF⟩ := hsF
  have HCF := hide hcellF
  have HBA := hide hbA
  have hbq := h.lt
  have hmk : ∀ w : World, (Instr.makeMap 112 none).run Tryz.prog w = .ok (.map (some w.heap.size)) (w.alloc (.map #[] 0)) := run_makeMap 112
  have HFTL : Hid ((fieldTexts bt q).length = q.fields.length) := hide (by simp [fieldTexts])
  clear h hG hsh hbo hfs hcellF hbA h0 HFF
  go_enter Tryz.func61, Tryz.ntmps61
  go_upto_region 4 with (first | (at_mapUpdate; refine wpList_mapUpdate_own _ rfl (.tmp 13) _ (.tmp 15) 112 rfl 9 20 key9 Tryz.underlying112 RV W.heap.size 0 (putAll []) rfl (MapIs.same (MapIs.made W) ((MapKept.heap_alloc _ _).2 _ (by simp))) (by unfold maxLen; omega) _ _ (KL (bs [99, 111, 109, 98, 105, 110, 101, 100, 95, 102, 105, 101, 108, 100, 115])) rfl rfl (key_ok (by decide)) (.held (.iface 112 (.map (some (W.heap.size + 1))))) [] rfl ?_; intro w1 hm1 hg1) | go_in)
  have HB : Hid (Below W.heap.size W w1) := hide ((show Below W.heap.size W ((W.alloc (.map #[] 0)).alloc (.map #[] 0)) by go_grown).trans ⟨hg1.os, hg1.tape, hg1.output, hg1.size, fun k hk => hg1.block k (by simp; omega) (some_ne (by omega))⟩)
  have hi0 : MapIs ((W.alloc (.map #[] 0)).alloc (.map #[] 0)) (W.heap.size + 1) [] := by have := MapIs.made (W.alloc (.map #[] 0)); rw [World.size_alloc] at this; exact this
  have HM : Hid (MapIs w1 W.heap.size [(bs [99, 111, 109, 98, 105, 110, 101, 100, 95, 102, 105, 101, 108, 100, 115], .iface 112 (.map (some (W.heap.size + 1))))]) := hide (mapIs_put (L := []) hm1)
  have HI : Hid (MapIs w1 (W.heap.size + 1) []) := hide (hi0.same (hg1.block _ hi0.lt (some_ne (by omega))))
  clear hm1 hg1 hi0
  have hx0 : w1.cell? ⟨bq, 0, none⟩ = some (.iface ut ux) := (HB.out.cell hbq).trans hc0
  go_upto_region 5 with (first | (at_mapUpdate; refine wpList_mapUpdate_own _ rfl _ _ _ 112 rfl 9 20 key9 Tryz.underlying112 RV (W.heap.size + 1) 0 (putAll []) rfl HI.out (by unfold maxLen; omega) _ _ (KL (bs [113, 117, 101, 114, 121])) rfl rfl (key_ok (by decide)) (.held (.iface ut ux)) [] rfl ?_; intro w2 hm4 hg4; have HM4 := hide hm4; have HG4 := hide hg4; clear hm4 hg4) | go_in)
  have HB2 : Hid (Below W.heap.size W w2) := hide (HB.out.trans ⟨HG4.out.os, HG4.out.tape, HG4.out.output, HG4.out.size, fun k hk => HG4.out.block k (by have := HB.out.size; omega) (some_ne (by omega))⟩)
  have HE2 : Hid (MapE (notB W.heap.size) w2 (W.heap.size + 1) ([] ++ [(bs [113, 117, 101, 114, 121], t0)])) := hide (MapE.put (F := notB W.heap.size) .nil (HT0.out _ _) HG4.out (by simp [notB]) (mapIs_put (L := []) HM4.out))
  have HM2 : Hid (MapIs w2 W.heap.size [(bs [99, 111, 109, 98, 105, 110, 101, 100, 95, 102, 105, 101, 108, 100, 115], .iface 112 (.map (some (W.heap.size + 1))))]) := hide (HM.out.same (HG4.out.block _ HM.out.lt (some_ne (by omega))))
  clear HB HM HI HM4 HG4 hx0
  have hxF : w2.cell? ⟨bq, 1, none⟩ = some (.slice aF q.fields.length capF) := (HB2.out.cell hbq).trans hcF
  have hsz2 : W.heap.size + 2 ≤ w2.heap.size := HE2.out.lt
  have hbq2 : bq < w2.heap.size := by omega
  go_wp2_with fail
  go_loopw [6, 27] (fun vT i wr => ∃ k : Nat, k ≤ q.fields.length ∧ i = .int .i64 k ∧ Below w2.heap.size w2 wr ∧ wr.ownsRow w2.heap.size 9 1 vT k (((fieldTexts bt q).take k).map Value.string)) (fun _ i _ => q.fields.length - (intOf i).toNat)
  case atStart => exact ⟨0, Nat.zero_le _, rfl, by go_grown, World.ownsRow_lit w2 #[] 0 (Nat.le_refl _) (by unfold maxLen; omega) rfl⟩
  case round =>
    obtain ⟨k, hk, rfl, hbl, hown⟩ := hrel
    have HBL := hide hbl
    have HO := hide hown
    have HBW := hide (HB2.out.trans (hbl.mono HB2.out.size))
    clear hbl hown
    by_cases hlt : k < q.fields.length
    · have HFK : Hid (((fieldTexts bt q).take (k + 1)).map Value.string = (((fieldTexts bt q).take k).map Value.string) ++ [.string (fieldText bt q.boosts q.fields[k])]) := hide (by
        have h9 : k < (fieldTexts bt q).length := by rw [HFTL.out]; exact hlt
        rw [List.take_succ_eq_append_getElem h9, List.map_append]
        simp [fieldTexts])
      obtain ⟨b0, o0, rfl, -, hcell⟩ := HCF.out k q.fields[k] (by simp)
      have hbl0 : b0 < W.heap.size := World.block_lt_of_cell? W _ hcell
      have e0 : wr.cell? ⟨b0, o0 + k, none⟩ = some (.string q.fields[k]) := (HBW.out.cell hbl0).trans hcell
      have eB : wr.cell? ⟨bq, 2, none⟩ = some (.map (some bm)) := (HBW.out.cell hbq).trans hcB
      have i1 : (0 : Int) ≤ (k : Int) := by omega
      have i3 : (k : Int) < (q.fields.length : Int) := by omega
      have hks : q.fields[k].size ≤ maxLen := by have := HFS.out _ (List.getElem_mem hlt); unfold maxLen; omega
      have HLKS := hide ((HBA.out.kept (loose_none W) (below_grown HBW.out)).look hks)
      obtain ⟨fk, hfk⟩ : ∃ x, x = q.fields[k] := ⟨_, rfl⟩
      rw [← hfk] at e0 HFK HLKS
      have HFKE := hide hfk
      clear hcell hks hfk
      rcases HLKS.out with ⟨hn, hlk⟩ | ⟨x, p, hsm, hp, hlk⟩
      · have HFT : Hid (fieldText bt q.boosts fk = fk) := hide (by simp [fieldText, hn])
        clear hn
        go_wp2_with (first | (at_builtin; go_loud (refine wpList_append_one _ rfl (.tmp 57) (.tmp 59) 23 rfl w2.heap.size 9 _ 1 16 Tryz.underlying23 Tryz.info9 rfl (by decide) u6 k (((fieldTexts bt q).take k).map Value.string) rfl (HO.out.alloc _) wr.heap.size 1 #[.string fk] 9 rfl (heap_alloc_new _ _) rfl (by simp [Value.oneCell']) (by omega) (by omega) (by have := HBL.out.size; simp; omega) ?_; intro g cp w3 hown3 hgrow3 hat3; have HO3 := hide hown3; have HG3 := hide hgrow3; clear hown3 hgrow3 hat3)) | go_in)
        go_round
        case rel =>
          refine ⟨k + 1, by omega, by go_num, HBL.out.trans ?_, ?_⟩
          · exact (show Below w2.heap.size wr (wr.alloc (.cells #[.string fk] 9 (0, 0))) from (Below.refl _ _).alloc HBL.out.size _).trans ⟨HG3.out.os, HG3.out.tape, HG3.out.output, HG3.out.size, fun j hj => HG3.out.block j (by have := HBL.out.size; simp; omega) (fun e => by have := (own_lt HO.out e.symm).1; omega)⟩
          · rw [HFK.out, HFT.out]; exact HO3.out
        case measure => simp [intOf]; omega
      · have hpc : wr.cell? ⟨p, 0, none⟩ = some (.float .f64 x) := by rw [cell_of_row wr p 0 _ _ _ hp]; rfl
        have hbx := HBO.out _ (lookL_mem hsm)
        have HBX := hide hbx
        have HFT : Hid (fieldText bt q.boosts fk = fk ++ ⟨#[94]⟩ ++ bs (bt x)) := hide (by simp [fieldText, hsm])
        have hfk1 : fk.size ≤ 1099511627776 := by have := HFS.out _ (List.getElem_mem hlt); rw [← HFKE.out] at this; exact this
        have hcat1 : ∀ w : World, (Op.stringOp .add fk ⟨#[94]⟩).run Tryz.prog w = .ok (.string (fk ++ ⟨#[94]⟩)) w := fun w => run_string_add_sum _ _ _ (by have : (⟨#[94]⟩ : ByteArray).size = 1 := rfl; omega)
        have hcat2 : ∀ w : World, (Op.stringOp .add (fk ++ ⟨#[94]⟩) (bs (bt x))).run Tryz.prog w = .ok (.string (fk ++ ⟨#[94]⟩ ++ bs (bt x))) w := fun w => run_string_add_sum _ _ _ (by have h1 : (⟨#[94]⟩ : ByteArray).size = 1 := rfl; have h2 := hbt x hbx; rw [ByteArray.size_append, bs_size]; omega)
        clear hsm hp hbx
        go_wp2_with fail
        refine (HFF'.out x _ HBX.out (HG.out.below HBW.out)).mono ?_
        rintro e w9 ⟨rfl, hb9⟩
        have HB9 := hide hb9
        have HO9 := hide (ownsRow_kept HO.out hb9)
        have hsz9 : w2.heap.size ≤ w9.heap.size := Nat.le_trans HBL.out.size hb9.size
        clear hb9
        go_wp2_with (first | (at_builtin; go_loud (refine wpList_append_one _ rfl (.tmp 43) (.tmp 51) 23 rfl w2.heap.size 9 _ 1 16 Tryz.underlying23 Tryz.info9 rfl (by decide) u6 k (((fieldTexts bt q).take k).map Value.string) rfl (HO9.out.alloc _) w9.heap.size 1 #[.string _] 9 rfl (heap_alloc_new _ _) rfl (by simp [Value.oneCell']) (by omega) (by omega) (by have := HBL.out.size; simp; omega) ?_; intro g cp w3 hown3 hgrow3 hat3; have HO3 := hide hown3; have HG3 := hide hgrow3; clear hown3 hgrow3 hat3)) | go_in)
        go_round
        case rel =>
          refine ⟨k + 1, by omega, by go_num, HBL.out.trans ((HB9.out.mono HBL.out.size).trans ?_), ?_⟩
          · exact (show Below w2.heap.size w9 (w9.alloc _) from (Below.refl _ _).alloc hsz9 _).trans ⟨HG3.out.os, HG3.out.tape, HG3.out.output, HG3.out.size, fun j hj => HG3.out.block j (by simp; omega) (fun e => by have := (own_lt HO9.out e.symm).1; omega)⟩
          · rw [HFK.out, HFT.out]; exact HO3.out
        case measure => simp [intOf]; omega
    · obtain rfl : k = q.fields.length := by omega
      have HOF : Hid (wr.ownsRow w2.heap.size 9 1 u6 (fieldTexts bt q).length ((fieldTexts bt q).map Value.string)) := hide (by have := HO.out; rw [← HFTL.out, List.take_length] at this; exact this)
      have HMr := hide (HM2.out.below (HBL.out))
      have HEr := hide (HE2.out.mono (Same.of_below HBL.out) HBL.out.size (HBL.out.block _ HE2.out.lt))
      obtain ⟨L, hL, hent⟩ := HEr.out
      have HL := hide hL
      have HENT := hide hent
      have HLN : Hid (L.length = 1) := hide hent.length
      obtain ⟨a9, cap9, hv9, -⟩ := World.ownsRow.form HOF.out
      subst hv9
      have HTL : Hid (TellsF (notB W.heap.size) wr (.iface 23 (.slice a9 (fieldTexts bt q).length cap9)) (tList (fieldTexts bt q))) := hide (tells_list (strs_of_own HOF.out (fun j hj => by have := (own_lt HOF.out hj).1; unfold notB; omega)) (by rw [HFTL.out]; omega))
      have HB := hide (HBW.out)
      have HM := hide HMr.out
      clear hL hent HEr HMr HBW HO
      go_upto_region 17 with (first | (at_mapUpdate; refine wpList_mapUpdate_own _ rfl _ _ _ 112 rfl 9 20 key9 Tryz.underlying112 RV (W.heap.size + 1) L.length (putAll L) rfl HL.out (by rw [HLN.out]; unfold maxLen; omega) _ _ (KL (bs [102, 105, 101, 108, 100, 115])) rfl rfl (key_ok (by decide)) (.held (.iface 23 (.slice a9 (fieldTexts bt q).length cap9))) [] rfl ?_; intro wc hm4 hg4; have HM4 := hide hm4; have HG4 := hide hg4; clear hm4 hg4) | go_in)
      have hbn : Below W.heap.size W wc := HB.out.trans ⟨HG4.out.os, HG4.out.tape, HG4.out.output, HG4.out.size, fun k hk => HG4.out.block k (by have := HB.out.size; omega) (some_ne (by omega))⟩
      have hen := MapE.put (F := notB W.heap.size) HENT.out HTL.out HG4.out (by simp [notB]) (mapIs_put HM4.out)
      have hmn : MapIs wc W.heap.size [(bs [99, 111, 109, 98, 105, 110, 101, 100, 95, 102, 105, 101, 108, 100, 115], .iface 112 (.map (some (W.heap.size + 1))))] := HM.out.same (HG4.out.block _ HM.out.lt (some_ne (by omega)))
      have hcut : _ ∧ _ ∧ _ := ⟨hbn, hmn, hen⟩
      clear hbn hmn hen HM4 HG4
      clear HB HM HL HENT HLN HTL HOF
      obtain ⟨hb, hm, he⟩ := hcut
      have HB := hide hb
      have HM := hide hm
      obtain ⟨E0, hE'⟩ : ∃ x, x = ([] ++ [(bs [113, 117, 101, 114, 121], t0)] ++ [(bs [102, 105, 101, 108, 100, 115], tList (fieldTexts bt q))]) := ⟨_, rfl⟩
      rw [← hE'] at he
      have HE := hide he
      have HEQ0 : Hid (E0 = ([] ++ [(bs [113, 117, 101, 114, 121], t0)] ++ [(bs [102, 105, 101, 108, 100, 115], tList (fieldTexts bt q))])) := hide hE'
      have hel0 : E0.length ≤ 2 := by rw [hE']; simp
      clear hb hm he hE'
      -- auto_generate_synonyms_phrase_query
      obtain ⟨L, hL, hent⟩ := HE.out
      have HL := hide hL
      have HENT := hide hent
      have HLN := hide hent.length
      clear hL hent
      obtain ⟨u, hu, hfa⟩ := H.out.field 3 (by decide) (by decide) (by decide)
      have hshp : q.f 3 = .nop ∨ ∃ x, q.f 3 = .opt 4 (.bool x) := shape_at 3 3 (by decide) HSH.out
      have HSP := hide hshp
      have hux : wc.cell? ⟨bq, 3, none⟩ = some u := (HB.out.cell hbq).trans hu
      have hu2 : (q.f 3 = .nop ∧ u = .pointer none) ∨ ∃ p x, q.f 3 = .opt 4 (.bool x) ∧ u = .pointer (some ⟨p, 0, none⟩) ∧ p < W.heap.size ∧ W.cell? ⟨p, 0, none⟩ = some (.bool x) := by
        rcases hshp with e | ⟨x, e⟩
        · rw [e] at hfa; exact Or.inl ⟨e, hfa⟩
        · rw [e] at hfa
          obtain ⟨p, -, -, -, e1, e2⟩ := hfa
          exact Or.inr ⟨p, x, e, e1, lt_of_block e2, by rw [cell_of_row W p 0 _ _ _ e2]; rfl⟩
      have HU := hide hu2
      obtain ⟨ou, hou⟩ : ∃ ou, u = .pointer ou := by
        rcases hu2 with ⟨-, e⟩ | ⟨p, x, -, e, -⟩ <;> exact ⟨_, e⟩
      subst hou
      clear hshp hu2 hu hfa
      go_upto_if 69 with fail
      go_cut [] from 65 to 75 (fun wn => Below W.heap.size W wn ∧ MapIs wn W.heap.size [(bs [99, 111, 109, 98, 105, 110, 101, 100, 95, 102, 105, 101, 108, 100, 115], .iface 112 (.map (some (W.heap.size + 1))))] ∧ MapE (notB W.heap.size) wn (W.heap.size + 1) (E0 ++ ent [97, 117, 116, 111, 95, 103, 101, 110, 101, 114, 97, 116, 101, 95, 115, 121, 110, 111, 110, 121, 109, 115, 95, 112, 104, 114, 97, 115, 101, 95, 113, 117, 101, 114, 121] (fvT (q.f 3))))
      case first =>
        rcases HU.out with ⟨e1, e2⟩ | ⟨p, x, e1, e2, e3, e4⟩
        · have HT9 : Hid (fvT (q.f 3) = none) := hide (by rw [e1]; rfl)
          cases e2
          clear e1
          go_wp2_with fail
          go_meet
          rw [HT9.out]
          exact ⟨HB.out, HM.out, by simpa [ent] using HE.out⟩
        · have HT9 : Hid (fvT (q.f 3) = some (tYes x)) := hide (by rw [e1]; rfl)
          cases e2
          have hpx : wc.cell? ⟨p, 0, none⟩ = some (.bool x) := (HB.out.cell e3).trans e4
          have HP9 := hide hpx
          clear e1 e4
          go_wp2_with (first | (at_mapUpdate; refine wpList_mapUpdate_own _ rfl _ _ _ 112 rfl 9 20 key9 Tryz.underlying112 RV (W.heap.size + 1) L.length (putAll L) rfl HL.out (by rw [HLN.out]; unfold maxLen; omega) _ _ (KL (bs [97, 117, 116, 111, 95, 103, 101, 110, 101, 114, 97, 116, 101, 95, 115, 121, 110, 111, 110, 121, 109, 115, 95, 112, 104, 114, 97, 115, 101, 95, 113, 117, 101, 114, 121])) rfl rfl (key_ok (by decide)) (.held (.iface 107 (.pointer (some ⟨p, 0, none⟩)))) [] rfl ?_; intro wn hm4 hg4; have HM4 := hide hm4; have HG4 := hide hg4; clear hm4 hg4) | go_in)
          go_meet
          rw [HT9.out]
          have hbn : Below W.heap.size W wn := HB.out.trans ⟨HG4.out.os, HG4.out.tape, HG4.out.output, HG4.out.size, fun k hk => HG4.out.block k (by have := HB.out.size; omega) (some_ne (by omega))⟩
          have hen := MapE.put (F := notB W.heap.size) HENT.out (tells_ptr HP9.out (by unfold notB; omega)) HG4.out (by simp [notB]) (mapIs_put HM4.out)
          have hmn : MapIs wn W.heap.size [(bs [99, 111, 109, 98, 105, 110, 101, 100, 95, 102, 105, 101, 108, 100, 115], .iface 112 (.map (some (W.heap.size + 1))))] := HM.out.same (HG4.out.block _ HM.out.lt (some_ne (by omega)))
          exact ⟨hbn, hmn, hen⟩
      clear HB HM HE HL HENT HLN
      obtain ⟨hb, hm, he⟩ := hcut
      have HB := hide hb
      have HM := hide hm
      obtain ⟨E1, hE'⟩ : ∃ x, x = E0 ++ ent [97, 117, 116, 111, 95, 103, 101, 110, 101, 114, 97, 116, 101, 95, 115, 121, 110, 111, 110, 121, 109, 115, 95, 112, 104, 114, 97, 115, 101, 95, 113, 117, 101, 114, 121] (fvT (q.f 3)) := ⟨_, rfl⟩
      rw [← hE'] at he
      have HE := hide he
      have HEQ1 : Hid (E1 = E0 ++ ent [97, 117, 116, 111, 95, 103, 101, 110, 101, 114, 97, 116, 101, 95, 115, 121, 110, 111, 110, 121, 109, 115, 95, 112, 104, 114, 97, 115, 101, 95, 113, 117, 101, 114, 121] (fvT (q.f 3))) := hide hE'
      clear hb hm he hE'
      have hel1 : E1.length ≤ 3 := by rw [HEQ1.out, List.length_append]; have := ent_le [97, 117, 116, 111, 95, 103, 101, 110, 101, 114, 97, 116, 101, 95, 115, 121, 110, 111, 110, 121, 109, 115, 95, 112, 104, 114, 97, 115, 101, 95, 113, 117, 101, 114, 121] (fvT (q.f 3)); omega
      -- operator
      obtain ⟨L, hL, hent⟩ := HE.out
      have HL := hide hL
      have HENT := hide hent
      have HLN := hide hent.length
      clear hL hent
      obtain ⟨s, hs⟩ : ∃ s, q.f 4 = .val (.string s) := shape_at 0 4 (by decide) HSH.out
      obtain ⟨u, hu, hfa⟩ := H.out.field 4 (by decide) (by decide) (by decide)
      rw [hs] at hfa
      obtain rfl : u = .string s := hfa
      have hx : wc.cell? ⟨bq, 4, none⟩ = some (.string s) := (HB.out.cell hbq).trans hu
      have HS := hide hs
      clear hs hu
      go_upto_if 80 with fail
      go_cut [] from 76 to 86 (fun wn => Below W.heap.size W wn ∧ MapIs wn W.heap.size [(bs [99, 111, 109, 98, 105, 110, 101, 100, 95, 102, 105, 101, 108, 100, 115], .iface 112 (.map (some (W.heap.size + 1))))] ∧ MapE (notB W.heap.size) wn (W.heap.size + 1) (E1 ++ ent [111, 112, 101, 114, 97, 116, 111, 114] (fvT (q.f 4))))
      case first =>
        cases hts : s.toList.isEmpty
        · have HT9 : Hid (fvT (q.f 4) = some (tText s)) := hide (by rw [HS.out]; simp only [fvT, hts]; rfl)
          go_wp2_with (first | (at_mapUpdate; refine wpList_mapUpdate_own _ rfl _ _ _ 112 rfl 9 20 key9 Tryz.underlying112 RV (W.heap.size + 1) L.length (putAll L) rfl HL.out (by rw [HLN.out]; unfold maxLen; omega) _ _ (KL (bs [111, 112, 101, 114, 97, 116, 111, 114])) rfl rfl (key_ok (by decide)) (.held (.iface 9 (.string s))) [] rfl ?_; intro wn hm4 hg4; have HM4 := hide hm4; have HG4 := hide hg4; clear hm4 hg4) | go_in)
          go_meet
          rw [HT9.out]
          have hbn : Below W.heap.size W wn := HB.out.trans ⟨HG4.out.os, HG4.out.tape, HG4.out.output, HG4.out.size, fun k hk => HG4.out.block k (by have := HB.out.size; omega) (some_ne (by omega))⟩
          have hen := MapE.put (F := notB W.heap.size) HENT.out (tells_text _ _ s) HG4.out (by simp [notB]) (mapIs_put HM4.out)
          have hmn : MapIs wn W.heap.size [(bs [99, 111, 109, 98, 105, 110, 101, 100, 95, 102, 105, 101, 108, 100, 115], .iface 112 (.map (some (W.heap.size + 1))))] := HM.out.same (HG4.out.block _ HM.out.lt (some_ne (by omega)))
          exact ⟨hbn, hmn, hen⟩
        · have HT9 : Hid (fvT (q.f 4) = none) := hide (by rw [HS.out]; simp only [fvT, hts]; rfl)
          go_wp2_with fail
          go_meet
          rw [HT9.out]
          exact ⟨HB.out, HM.out, by simpa [ent] using HE.out⟩
      clear HB HM HE HL HENT HLN
      obtain ⟨hb, hm, he⟩ := hcut
      have HB := hide hb
      have HM := hide hm
      obtain ⟨E2, hE'⟩ : ∃ x, x = E1 ++ ent [111, 112, 101, 114, 97, 116, 111, 114] (fvT (q.f 4)) := ⟨_, rfl⟩
      rw [← hE'] at he
      have HE := hide he
      have HEQ2 : Hid (E2 = E1 ++ ent [111, 112, 101, 114, 97, 116, 111, 114] (fvT (q.f 4))) := hide hE'
      clear hb hm he hE'
      have hel2 : E2.length ≤ 4 := by rw [HEQ2.out, List.length_append]; have := ent_le [111, 112, 101, 114, 97, 116, 111, 114] (fvT (q.f 4)); omega
      -- minimum_should_match
      obtain ⟨L, hL, hent⟩ := HE.out
      have HL := hide hL
      have HENT := hide hent
      have HLN := hide hent.length
      clear hL hent
      obtain ⟨s, hs⟩ : ∃ s, q.f 5 = .val (.string s) := shape_at 0 5 (by decide) HSH.out
      obtain ⟨u, hu, hfa⟩ := H.out.field 5 (by decide) (by decide) (by decide)
      rw [hs] at hfa
      obtain rfl : u = .string s := hfa
      have hx : wc.cell? ⟨bq, 5, none⟩ = some (.string s) := (HB.out.cell hbq).trans hu
      have HS := hide hs
      clear hs hu
      go_upto_if 91 with fail
      go_cut [] from 87 to 97 (fun wn => Below W.heap.size W wn ∧ MapIs wn W.heap.size [(bs [99, 111, 109, 98, 105, 110, 101, 100, 95, 102, 105, 101, 108, 100, 115], .iface 112 (.map (some (W.heap.size + 1))))] ∧ MapE (notB W.heap.size) wn (W.heap.size + 1) (E2 ++ ent [109, 105, 110, 105, 109, 117, 109, 95, 115, 104, 111, 117, 108, 100, 95, 109, 97, 116, 99, 104] (fvT (q.f 5))))
      case first =>
        cases hts : s.toList.isEmpty
        · have HT9 : Hid (fvT (q.f 5) = some (tText s)) := hide (by rw [HS.out]; simp only [fvT, hts]; rfl)
          go_wp2_with (first | (at_mapUpdate; refine wpList_mapUpdate_own _ rfl _ _ _ 112 rfl 9 20 key9 Tryz.underlying112 RV (W.heap.size + 1) L.length (putAll L) rfl HL.out (by rw [HLN.out]; unfold maxLen; omega) _ _ (KL (bs [109, 105, 110, 105, 109, 117, 109, 95, 115, 104, 111, 117, 108, 100, 95, 109, 97, 116, 99, 104])) rfl rfl (key_ok (by decide)) (.held (.iface 9 (.string s))) [] rfl ?_; intro wn hm4 hg4; have HM4 := hide hm4; have HG4 := hide hg4; clear hm4 hg4) | go_in)
          go_meet
          rw [HT9.out]
          have hbn : Below W.heap.size W wn := HB.out.trans ⟨HG4.out.os, HG4.out.tape, HG4.out.output, HG4.out.size, fun k hk => HG4.out.block k (by have := HB.out.size; omega) (some_ne (by omega))⟩
          have hen := MapE.put (F := notB W.heap.size) HENT.out (tells_text _ _ s) HG4.out (by simp [notB]) (mapIs_put HM4.out)
          have hmn : MapIs wn W.heap.size [(bs [99, 111, 109, 98, 105, 110, 101, 100, 95, 102, 105, 101, 108, 100, 115], .iface 112 (.map (some (W.heap.size + 1))))] := HM.out.same (HG4.out.block _ HM.out.lt (some_ne (by omega)))
          exact ⟨hbn, hmn, hen⟩
        · have HT9 : Hid (fvT (q.f 5) = none) := hide (by rw [HS.out]; simp only [fvT, hts]; rfl)
          go_wp2_with fail
          go_meet
          rw [HT9.out]
          exact ⟨HB.out, HM.out, by simpa [ent] using HE.out⟩
      clear HB HM HE HL HENT HLN
      obtain ⟨hb, hm, he⟩ := hcut
      have HB := hide hb
      have HM := hide hm
      obtain ⟨E3, hE'⟩ : ∃ x, x = E2 ++ ent [109, 105, 110, 105, 109, 117, 109, 95, 115, 104, 111, 117, 108, 100, 95, 109, 97, 116, 99, 104] (fvT (q.f 5)) := ⟨_, rfl⟩
      rw [← hE'] at he
      have HE := hide he
      have HEQ3 : Hid (E3 = E2 ++ ent [109, 105, 110, 105, 109, 117, 109, 95, 115, 104, 111, 117, 108, 100, 95, 109, 97, 116, 99, 104] (fvT (q.f 5))) := hide hE'
      clear hb hm he hE'
      have hel3 : E3.length ≤ 5 := by rw [HEQ3.out, List.length_append]; have := ent_le [109, 105, 110, 105, 109, 117, 109, 95, 115, 104, 111, 117, 108, 100, 95, 109, 97, 116, 99, 104] (fvT (q.f 5)); omega
      -- zero_terms_query
      obtain ⟨L, hL, hent⟩ := HE.out
      have HL := hide hL
      have HENT := hide hent
      have HLN := hide hent.length
      clear hL hent
      obtain ⟨s, hs⟩ : ∃ s, q.f 6 = .val (.string s) := shape_at 0 6 (by decide) HSH.out
      obtain ⟨u, hu, hfa⟩ := H.out.field 6 (by decide) (by decide) (by decide)
      rw [hs] at hfa
      obtain rfl : u = .string s := hfa
      have hx : wc.cell? ⟨bq, 6, none⟩ = some (.string s) := (HB.out.cell hbq).trans hu
      have HS := hide hs
      clear hs hu
      go_upto_if 102 with fail
      go_cut [] from 98 to 108 (fun wn => Below W.heap.size W wn ∧ MapIs wn W.heap.size [(bs [99, 111, 109, 98, 105, 110, 101, 100, 95, 102, 105, 101, 108, 100, 115], .iface 112 (.map (some (W.heap.size + 1))))] ∧ MapE (notB W.heap.size) wn (W.heap.size + 1) (E3 ++ ent [122, 101, 114, 111, 95, 116, 101, 114, 109, 115, 95, 113, 117, 101, 114, 121] (fvT (q.f 6))))
      case first =>
        cases hts : s.toList.isEmpty
        · have HT9 : Hid (fvT (q.f 6) = some (tText s)) := hide (by rw [HS.out]; simp only [fvT, hts]; rfl)
          go_wp2_with (first | (at_mapUpdate; refine wpList_mapUpdate_own _ rfl _ _ _ 112 rfl 9 20 key9 Tryz.underlying112 RV (W.heap.size + 1) L.length (putAll L) rfl HL.out (by rw [HLN.out]; unfold maxLen; omega) _ _ (KL (bs [122, 101, 114, 111, 95, 116, 101, 114, 109, 115, 95, 113, 117, 101, 114, 121])) rfl rfl (key_ok (by decide)) (.held (.iface 9 (.string s))) [] rfl ?_; intro wn hm4 hg4; have HM4 := hide hm4; have HG4 := hide hg4; clear hm4 hg4) | go_in)
          go_meet
          rw [HT9.out]
          have hbn : Below W.heap.size W wn := HB.out.trans ⟨HG4.out.os, HG4.out.tape, HG4.out.output, HG4.out.size, fun k hk => HG4.out.block k (by have := HB.out.size; omega) (some_ne (by omega))⟩
          have hen := MapE.put (F := notB W.heap.size) HENT.out (tells_text _ _ s) HG4.out (by simp [notB]) (mapIs_put HM4.out)
          have hmn : MapIs wn W.heap.size [(bs [99, 111, 109, 98, 105, 110, 101, 100, 95, 102, 105, 101, 108, 100, 115], .iface 112 (.map (some (W.heap.size + 1))))] := HM.out.same (HG4.out.block _ HM.out.lt (some_ne (by omega)))
          exact ⟨hbn, hmn, hen⟩
        · have HT9 : Hid (fvT (q.f 6) = none) := hide (by rw [HS.out]; simp only [fvT, hts]; rfl)
          go_wp2_with fail
          go_meet
          rw [HT9.out]
          exact ⟨HB.out, HM.out, by simpa [ent] using HE.out⟩
      clear HB HM HE HL HENT HLN
      obtain ⟨hb, hm, he⟩ := hcut
      have HB := hide hb
      have HM := hide hm
      obtain ⟨E4, hE'⟩ : ∃ x, x = E3 ++ ent [122, 101, 114, 111, 95, 116, 101, 114, 109, 115, 95, 113, 117, 101, 114, 121] (fvT (q.f 6)) := ⟨_, rfl⟩
      rw [← hE'] at he
      have HE := hide he
      have HEQ4 : Hid (E4 = E3 ++ ent [122, 101, 114, 111, 95, 116, 101, 114, 109, 115, 95, 113, 117, 101, 114, 121] (fvT (q.f 6))) := hide hE'
      clear hb hm he hE'
      have hel4 : E4.length ≤ 6 := by rw [HEQ4.out, List.length_append]; have := ent_le [122, 101, 114, 111, 95, 116, 101, 114, 109, 115, 95, 113, 117, 101, 114, 121] (fvT (q.f 6)); omega
      have hEE : E4 = entsCF bt t0 q := by unfold entsCF; rw [HEQ4.out, HEQ3.out, HEQ2.out, HEQ1.out, HEQ0.out]; rfl
      have hin : TellsF (fun _ => True) wc (.iface 112 (.map (some (W.heap.size + 1)))) (mapTree E4) := tells_map (HE.out.weaken (fun _ _ => trivial)) trivial (by rw [hEE]; simp [entsCF]) (by omega)
      have hout : MapE (fun _ => True) wc W.heap.size [(bs [99, 111, 109, 98, 105, 110, 101, 100, 95, 102, 105, 101, 108, 100, 115], mapTree (entsCF bt t0 q))] := by
        rw [← hEE]
        exact ⟨_, HM.out, Ents.snoc (L := []) (E := []) .nil hin⟩
      have HOUT := hide hout
      clear hEE hin hout
      go_wp2_with fail
      go_returns
      exact ⟨_, rfl, (tells_map HOUT.out trivial (by simp) (by simp)).tells, HB.out⟩
end Go.Proofs.YtbcnhcpgloncdaaGreatDoor

/-
  impl.CombinedFields: WHAT IT TELLS.
-/
namespace Go.Proofs.YtbcnhcpgloncdaaGreatDoor
open Go.RowKit Go.Sort

theorem compatCF : Compat qtCF CF := ⟨by rw [rowsCF_is]; decide +kernel, by rw [rowsCF_is]; decide +kernel⟩
theorem pairCF : qtCF.Pairwise (fun a b => a.2.1 ≠ b.2.1) := by decide +kernel
theorem shapedCF (u : Value) (ks : List ByteArray) : Shaped qtCF (initQ (cCF u) ks) := by
  intro r hr
  simp only [qtCF, List.mem_cons, List.not_mem_nil, or_false] at hr
  rcases hr with rfl | rfl | rfl | rfl
  all_goals first | exact Or.inl rfl | exact ⟨_, rfl⟩
theorem initCF_ok (u : Value) (hu : ∃ k x, u = .iface k x) (ks : List ByteArray) : ∀ i, FVok ((initQ (cCF u) ks).f i) := by
  obtain ⟨k, x, rfl⟩ := hu
  intro i
  show FVok (fvOf ((cCF (.iface k x))[i]?.getD .nilIface))
  rcases Nat.lt_or_ge i 7 with h | h
  · have : i = 0 ∨ i = 1 ∨ i = 2 ∨ i = 3 ∨ i = 4 ∨ i = 5 ∨ i = 6 := by omega
    rcases this with rfl | rfl | rfl | rfl | rfl | rfl | rfl
    all_goals first | exact fvok_text ⟨#[]⟩ | exact fun t h => by cases h
  · have e : (cCF (.iface k x))[i]? = none := Array.getElem?_eq_none h
    rw [e]
    exact fun t h => by cases h
theorem len_ent {a : List (ByteArray × T)} {n : Nat} (k : List UInt8) (o : Option T) (h : a.length ≤ n) : (a ++ ent k o).length ≤ n + 1 := by
  rw [List.length_append]
  have := ent_le k o
  omega
def q0CF (text : T) (fields : List ByteArray) : Q := initQ (cCF (plainV text)) fields
noncomputable def treeCF (text : T) (q : Q) : T := mapTree [(bs [99, 111, 109, 98, 105, 110, 101, 100, 95, 102, 105, 101, 108, 100, 115], mapTree (entsCF bText (leafT text) q))]
theorem all_append {α : Type} {P : α → Prop} {a b : List α} (h1 : ∀ p ∈ a, P p) (h2 : ∀ p ∈ b, P p) : ∀ p ∈ a ++ b, P p := fun p hp => (List.mem_append.1 hp).elim (h1 p) (h2 p)

theorem run_q {text : T} {fields : List ByteArray} {ss : List S} (h2 : fields.length ≤ 1048576) (h3 : ss.length ≤ 1048576) (hfit : ∀ s ∈ ss, fitsAt CF s = true) :
    (∀ i, FVok ((runQ qtCF (q0CF text fields) ss).f i)) ∧ (runQ qtCF (q0CF text fields) ss).fields.length ≤ 4194304 := by
  refine ⟨fvok_run compatCF ss _ (initCF_ok _ (plain_iface text) fields) hfit, ?_⟩
  have := (runQ_len qtCF ss (q0CF text fields)).1
  have e : (q0CF text fields).fields = fields := rfl
  rw [e] at this
  omega

/-- impl.CombinedFields's contract, whole. -/
theorem cf_any {w : World} {ok : Nat → Prop} {vt vf vs : Value} {text : T} {fields : List ByteArray} {ss : List S} (hG : Glob w) (hsc : scalarT text = true) (h2 : fields.length ≤ 1048576) (h3 : ss.length ≤ 1048576) (h4 : ∀ f ∈ fields, f.size ≤ 1048576) (h5 : ∀ s ∈ ss, s.value.text.size ≤ 1048576)
    (h6 : ∀ s ∈ ss, s.value.num < 18446744073709551616) (hfit : ∀ s ∈ ss, fitsAt CF s = true) (ht : TreeAt w ok vt text) (hf : StrsAt w ok vf fields) (hs : SetsAt w ok vs ss) :
    Calls Tryz.prog 19 #[vt, vf, vs] w (RetTold w fun t => t = treeCF text (runQ qtCF (q0CF text fields) ss)) := by
  have hk := (scalar_kind hsc).1
  refine impl_19 ht hk hf hs hfit (fun s hs => by have := h5 s hs; omega) (by omega) hG (fun q t => t = treeCF text q) ?_
  intro w1 lo bq hb hlo hq
  have hr := run_q (text := text) h2 h3 hfit
  refine source_61 bText (okx := okB) (fun x w h hg => formatFloat_any x w h hg) bText_small hq (hG.below hb) (shaped_run pairCF ss (shapedCF _ fields)) (plainV text) (leafT text) ?_ (plain_iface text) (tells_plain text) ?_ ?_ hr.2
  · obtain ⟨k, x, e⟩ := plain_iface text
    rw [run_other (by decide +kernel), e]
    rfl
  · exact boosts_run compatCF ss _ (fun p hp => by cases hp) hfit h6
  · exact fun f hf => Nat.le_trans (fields_run ss _ h4 h5 f hf) (by decide)
end Go.Proofs.YtbcnhcpgloncdaaGreatDoor

/-
  THE TWO TREES OF A LAW: Same; how much they hold.
-/
namespace Go.Proofs.YtbcnhcpgloncdaaGreatDoor
open Go.RowKit

theorem name_eq (n : List UInt8) (k : ByteArray) : eqB (bs n) k = true ↔ k.data.toList = n := by
  rw [eqB_iff]
  exact ⟨fun e => by rw [← e]; rfl, fun e => by rw [← e, bs_data]⟩
theorem has_one (n : List UInt8) (k : ByteArray) : hasB [bs n] k = eqB (bs n) k := by
  unfold hasB
  rw [List.any_cons, List.any_nil, Bool.or_false]
theorem three_fields (t0 : T) (F : Option T) (tab : ByteArray → Option T) : three t0 F tab (bs nFields) = F := by
  unfold three
  rw [if_neg (by show ¬ nFields = nQuery; decide), if_pos (show (bs nFields).data.toList = nFields from rfl)]
/-- What ReadFields leaves: the text, the fields read, the settings. -/
theorem look_read {E : List (ByteArray × T)} {fs : List ByteArray} {B : List (ByteArray × Nat)} {t0 : T} {F : Option T} {tab : ByteArray → Option T} (hE : ∀ k, lookL E k = three t0 F tab k)
    (hF : (fs = [] ∧ (F = none ∨ F = some (tList []))) ∨ (fs ≠ [] ∧ F = some (tList (fs.map (fieldText bText B))))) (k : ByteArray) :
    lookL (readE E fs B) k = three t0 (fieldsO (fs.map (readOne B))) tab k := by
  have hb : lookL (besE [bs nFields] (mapTree E)) k = (three t0 F tab k).filter fun y => !(eqB (bs nFields) k && ((y.kids.length : Int) == 0)) := by
    rw [lookL_bes, hE, has_one]
  unfold readE
  rw [lookL_app, hb]
  by_cases h1 : k.data.toList = nQuery
  · have h2 : ¬ k.data.toList = nFields := by rw [h1]; decide
    have h3 : eqB (bs nFields) k = false := by rw [← Bool.not_eq_true, name_eq]; exact h2
    have h4 : lookL (if fs = [] then [] else [(bs nFields, fieldsT (fs.map (readOne B)))]) k = none := by
      split
      · rfl
      · rw [lookL_one, if_neg (by rw [h3]; decide)]
    unfold three
    rw [h4, if_pos h1, if_pos h1, h3]
    simp [Option.filter]
  · by_cases h2 : k.data.toList = nFields
    · have h3 : eqB (bs nFields) k = true := (name_eq _ _).2 h2
      unfold three
      rw [if_neg h1, if_neg h1, if_pos h2, if_pos h2, h3]
      rcases hF with ⟨hf, hF | hF⟩ | ⟨hf, hF⟩
      · rw [if_pos hf, hF]
        unfold fieldsO
        rw [hf]
        rfl
      · rw [if_pos hf, hF]
        unfold fieldsO
        rw [hf]
        rfl
      · rw [if_neg hf, lookL_one, if_pos h3]
        unfold fieldsO
        rw [if_neg (by simpa using hf)]
        rfl
    · have h3 : eqB (bs nFields) k = false := by rw [← Bool.not_eq_true, name_eq]; exact h2
      have h4 : lookL (if fs = [] then [] else [(bs nFields, fieldsT (fs.map (readOne B)))]) k = none := by
        split
        · rfl
        · rw [lookL_one, if_neg (by rw [h3]; decide)]
      unfold three
      rw [h4, if_neg h1, if_neg h1, if_neg h2, if_neg h2, h3]
      cases tab k <;> simp [Option.filter]

/-- A setting's kind of its row. -/
theorem setsR_kind {B : Builder} {ss : List S} {k : ByteArray} {v : T} (hfit : ∀ s ∈ ss, fitsAt B s = true) (h : setsR B.rows ss k = some v) : ∃ r ∈ B.rows, r.1 = k.data.toList ∧ fitB r.2 v = true := by
  unfold setsR at h
  split at h
  · cases h
  · cases hR : B.rows.find? (fun r => r.1 == k.data.toList) with
    | none => rw [hR] at h; cases h
    | some r =>
      rw [hR, Option.bind_some] at h
      have hr1 := List.find?_some hR
      rw [beq_iff_eq] at hr1
      split at h
      · obtain ⟨s, hs, hsn, rfl⟩ := lastS_mem h
        have hfs := hfit s hs
        unfold fitsAt at hfs
        rw [hsn, show bs r.1 = k by rw [hr1, bs_data], kind_row hR] at hfs
        exact ⟨r, List.mem_of_find?_eq_some hR, hr1, hfs⟩
      · cases h

/-- The two trees are Same. -/
theorem law_same {B : Builder} {tab : QTab} {kind : List UInt8} {mm : Bool} (hrd : B.rows.Pairwise fun a b => a.1 ≠ b.1) (hrq : B.rows.all (fun r => r.1 != nQuery && r.1 != nFields) = true) (hty : B.rows.all (fun r => r.1 != nType || r.2 == [116]) = true)
    {q0 : Q} (hb0 : q0.boosts = []) {ss : List S} (hfit : ∀ s ∈ ss, fitsAt B s = true)
    (hfl : fieldsB (fieldNames q0.fields ss) = true) (hbo : ∀ p ∈ (runQ tab q0 ss).boosts, feq p.2 p.2 = true) {text t0 : T} (ht : sameB t0 text = true) {E : List (ByteArray × T)} {F : Option T} {tabE : ByteArray → Option T}
    (hE : ∀ k, lookL E k = three t0 F tabE k) (hTE : ∀ k, OptSame ((tabE k).map (foldOne k)) ((setsR B.rows ss k).map (foldOne k)))
    (hF : ((runQ tab q0 ss).fields = [] ∧ (F = none ∨ F = some (tList []))) ∨ ((runQ tab q0 ss).fields ≠ [] ∧ F = some (tList ((runQ tab q0 ss).fields.map (fieldText bText (runQ tab q0 ss).boosts))))) :
    sameB (mapTree [(bs kind, mapTree (finE mm (readE E (runQ tab q0 ss).fields (runQ tab q0 ss).boosts)))]) (mapTree [(bs kind, mapTree (finE mm (pE (sevS B.rows text (fieldKids q0.fields ss) ss))))]) = true := by
  have hkid : fieldKids q0.fields ss = (runQ tab q0 ss).fields.map (readOne (runQ tab q0 ss).boosts) := (read_fields hb0 (fieldsB_all hfl).1).symm
  refine fin_same (fun k => ?_) fun v hv => ?_
  · rw [look_read hE hF, lookL_sev hrd hrq, hkid]
    unfold three
    split
    · exact opt_fold (a := some t0) (b := some text) ht
    · split
      · exact opt_fold (same_read hbo)
      · exact hTE k
  · rw [lookL_sev hrd hrq] at hv
    unfold three at hv
    rw [if_neg (by show ¬ nType = nQuery; decide), if_neg (by show ¬ nType = nFields; decide)] at hv
    obtain ⟨r, hr, hr1, hf⟩ := setsR_kind hfit hv
    have := List.all_eq_true.1 hty r hr
    have hr1' : r.1 = nType := hr1
    rw [hr1'] at this
    have h2 : r.2 = [116] := by simpa using this
    rw [h2] at hf
    simp [fitB] at hf
    exact hf.1

/-! ### How much the tree holds -/
theorem fold_w {E : List (ByteArray × T)} {M : Nat} (hM : 1 ≤ M) (h : ∀ p ∈ E, wT p.2 ≤ M) : ∀ p ∈ foldEE E, wT p.2 ≤ M := by
  intro p hp
  unfold foldEE foldE at hp
  obtain ⟨x, hx, rfl⟩ := List.mem_map.1 hp
  obtain ⟨i, hi⟩ := List.getElem?_of_mem hx
  obtain ⟨a, b⟩ := x
  obtain ⟨h2, h3⟩ := (List.getElem?_zip_eq_some (z := (a, b))).1 hi
  have := h _ (lookL_mem (entry_of h2 h3))
  show wT (foldOne a b) ≤ M
  unfold foldOne
  split
  · rw [wT_text]; exact hM
  · exact this
theorem wT_boost (f : ByteArray) (x : Nat) : wT (tBoost f x) = 5 := by
  rw [wT_eq]
  show 1 + 0 + wL [tText f, tNum x] = 5
  simp [wL, wT_text, wT_num]
theorem wT_fields (q : List ByteArray) (B : List (ByteArray × Nat)) : wT (fieldsT (q.map (readOne B))) ≤ 1 + q.length * 6 := by
  rw [wT_eq]
  have h : wL (fieldsT (q.map (readOne B))).kids ≤ (fieldsT (q.map (readOne B))).kids.length * (5 + 1) := wL_le fun t ht => by
    obtain ⟨k, -, rfl⟩ := List.mem_map.1 (show t ∈ q.map (readOne B) from ht)
    unfold readOne
    split
    · rw [wT_boost]; exact Nat.le_refl _
    · rw [wT_text]; decide
  have e : (fieldsT (q.map (readOne B))).kids.length = q.length := by show (q.map (readOne B)).length = _; simp
  have e2 : (fieldsT (q.map (readOne B))).keys.length = 0 := rfl
  rw [e] at h
  omega
theorem tree_w {kind : List UInt8} {E : List (ByteArray × T)} {M : Nat} (h : ∀ p ∈ E, wT p.2 ≤ M) (hM : M ≤ 20000000) (hl : E.length ≤ 40) : wT (mapTree [(bs kind, mapTree E)]) ≤ 1073741824 := by
  have h1 := wT_map h
  have h2 : E.length * (M + 1) ≤ 40 * (M + 1) := Nat.mul_le_mul_right _ hl
  have h3 := wT_map (E := [(bs kind, mapTree E)]) (M := 1000000000) fun p hp => by
    obtain rfl : p = _ := by simpa using hp
    show wT (mapTree E) ≤ _
    omega
  simp only [List.length_singleton] at h3
  omega
theorem read_w {E : List (ByteArray × T)} {fs : List ByteArray} {B : List (ByteArray × Nat)} (h : ∀ p ∈ E, wT p.2 ≤ 1 + fs.length * 6) : ∀ p ∈ readE E fs B, wT p.2 ≤ 1 + fs.length * 6 := by
  intro p hp
  unfold readE at hp
  rcases List.mem_append.1 hp with hp | hp
  · exact h p (bes_entry hp)
  · split at hp
    · cases hp
    · obtain rfl : p = _ := by simpa using hp
      exact wT_fields fs B
end Go.Proofs.YtbcnhcpgloncdaaGreatDoor

/-
  A combined_fields QUERY: what is read off it, and what it should be, are Same.
-/
namespace Go.Proofs.YtbcnhcpgloncdaaGreatDoor
open Go.RowKit Go.Sort

def tabLCF : List (List UInt8 × Nat) := [([97, 117, 116, 111, 95, 103, 101, 110, 101, 114, 97, 116, 101, 95, 115, 121, 110, 111, 110, 121, 109, 115, 95, 112, 104, 114, 97, 115, 101, 95, 113, 117, 101, 114, 121], 3), ([111, 112, 101, 114, 97, 116, 111, 114], 4), ([109, 105, 110, 105, 109, 117, 109, 95, 115, 104, 111, 117, 108, 100, 95, 109, 97, 116, 99, 104], 5), ([122, 101, 114, 111, 95, 116, 101, 114, 109, 115, 95, 113, 117, 101, 114, 121], 6)]
theorem entsCF_eq (bt : Nat → List UInt8) (t0 : T) (q : Q) : entsCF bt t0 q = [(bs nQuery, t0)] ++ ent nFields (some (tList (fieldTexts bt q))) ++ tabLCF.flatMap fun r => ent r.1 (fvT (q.f r.2)) := by
  simp only [entsCF, tabLCF, List.flatMap_cons, List.flatMap_nil, List.append_nil, List.append_assoc]
  rfl
theorem look_CF (t0 : T) (q : Q) (k : ByteArray) : lookL (entsCF bText t0 q) k = three t0 (some (tList (fieldTexts bText q))) (setsL tabLCF q) k := by
  rw [entsCF_eq, lookL_src (by decide +kernel) (by decide +kernel) t0 _ (fun r => fvT (q.f r.2)) k]
  rfl

/-- The two trees of the law. -/
noncomputable def leftCF (text : T) (q : Q) : T := mapTree [(bs nCF, mapTree (finE false (readE (entsCF bText (leafT text) q) q.fields q.boosts)))]
noncomputable def rightCF (text : T) (fields : List ByteArray) (ss : List S) : T := mapTree [(bs nCF, mapTree (finE false (pE (sevS CF.rows text (fieldKids fields ss) ss))))]
theorem fvT_empty : fvT (.val (.string ⟨#[]⟩)) = none := by
  show (if (⟨#[]⟩ : ByteArray).toList.isEmpty then none else some (tText ⟨#[]⟩)) = none
  rw [if_pos (by rw [ByteArray.toList_eq]; rfl)]
theorem fits_all {B : Builder} {ss : List S} (h : fitsB B ss = true) : ∀ s ∈ ss, fitsAt B s = true := List.all_eq_true.1 h
theorem boosts_feq {q : Q} (h : ∀ p ∈ q.boosts, okB p.2) : ∀ p ∈ q.boosts, feq p.2 p.2 = true := fun p hp => boost_feq (h p hp).1

theorem same_CF {text : T} {fields : List ByteArray} {ss : List S} (hsc : scalarT text = true) (hfit : fitsB CF ss = true) (hfl : fieldsB (fieldNames fields ss) = true) (hn : ∀ s ∈ ss, s.value.num < 18446744073709551616) :
    sameB (leftCF text (runQ qtCF (q0CF text fields) ss)) (rightCF text fields ss) = true := by
  have hfa := fits_all hfit
  have hbo := boosts_run compatCF ss (q0CF text fields) (fun p hp => by cases hp) hfa hn
  refine law_same (B := CF) (tab := qtCF) (q0 := q0CF text fields) (by rw [rowsCF_is]; decide +kernel) (by rw [rowsCF_is]; decide +kernel) (by rw [rowsCF_is]; decide +kernel) rfl hfa hfl (boosts_feq hbo) (leaf_is hsc) (look_CF _ _)
    (fun k => opt_fold (tabs_same (B := CF) (tab := qtCF) (by decide +kernel) (by decide +kernel) (by decide +kernel) (by rw [rowsCF_is]; decide +kernel) (q0 := q0CF text fields) (fun a ha => ?_) hfa (fun r hr h4 => ?_) k)) ?_
  · simp only [tabLCF, List.mem_cons, List.not_mem_nil, or_false] at ha
    rcases ha with rfl | rfl | rfl | rfl <;> first | rfl | exact fvT_empty
  · exact absurd h4 (by revert r; decide +kernel)
  · cases hq : (runQ qtCF (q0CF text fields) ss).fields with
    | nil => exact Or.inl ⟨rfl, Or.inr (by unfold fieldTexts; rw [hq]; rfl)⟩
    | cons f fs => exact Or.inr ⟨by simp, by unfold fieldTexts; rw [hq]⟩

theorem name_plain {f : ByteArray} (h : fieldB f = true) : placeN f.data.toList 94 = f.size := field_plain h
theorem ent_all {a : List UInt8} {o : Option T} {P : ByteArray × T → Prop} (h : ∀ t, o = some t → P (bs a, t)) : ∀ p ∈ ent a o, P p := by
  intro p hp
  cases o with
  | none => cases hp
  | some t =>
    obtain rfl : p = (bs a, t) := by simpa [ent] using hp
    exact h t rfl
/-- Entries of Source, the text and the fields and the settings apart. -/
theorem ents_all {t0 : T} {F : Option T} {tabL : List (List UInt8 × Nat)} {g : List UInt8 × Nat → Option T} {P : ByteArray × T → Prop} (h0 : P (bs nQuery, t0)) (hF : ∀ t, F = some t → P (bs nFields, t)) (hg : ∀ r ∈ tabL, ∀ t, g r = some t → P (bs r.1, t)) :
    ∀ p ∈ [(bs nQuery, t0)] ++ ent nFields F ++ tabL.flatMap (fun r => ent r.1 (g r)), P p := by
  intro p hp
  rcases List.mem_append.1 hp with hp | hp
  · rcases List.mem_append.1 hp with hp | hp
    · obtain rfl : p = _ := by simpa using hp
      exact h0
    · exact ent_all hF p hp
  · obtain ⟨r, hr, hp⟩ := List.mem_flatMap.1 hp
    exact ent_all (hg r hr) p hp
/-- What a field's value is like in the tree. -/
theorem fvT_like {fv : FV} {t : T} {n : Nat} (hs : ∀ s, fv = .val (.string s) → s.size ≤ n) (h : fvT fv = some t) : (t.kind == 0) = false ∧ (t.kind == 5) = false ∧ t.text.size ≤ n ∧ wT t = 1 := by
  unfold fvT at h
  split at h
  · rename_i s
    split at h
    · cases h
    · cases h; exact ⟨rfl, rfl, hs s rfl, wT_text s⟩
  · cases h; exact ⟨rfl, rfl, Nat.zero_le _, wT_num _⟩
  · cases h; exact ⟨rfl, rfl, Nat.zero_le _, wT_num _⟩
  · cases h; exact ⟨rfl, rfl, Nat.zero_le _, wT_yes _⟩
  · split at h
    · cases h
    · cases h; exact ⟨rfl, rfl, Nat.zero_le _, wT_num _⟩
  · cases h
/-- Texts in a query's fields are those of settings, or typeOf's. -/
def Texts (n : Nat) (q : Q) : Prop := ∀ i s, q.f i = .val (.string s) → s.size ≤ n
theorem typeOf_size (u : ByteArray) : (typeOf u).size ≤ 20 := by
  unfold typeOf
  repeat (split; decide)
  decide
theorem texts_step {n : Nat} (hn : 20 ≤ n) {tab : QTab} {q : Q} {s : S} (h : Texts n q) (hs : s.value.text.size ≤ n) : Texts n (stepQ tab q s) := by
  unfold stepQ
  split
  · exact h
  · split
    · exact h
    · split
      · rename_i r hr
        intro i u hu
        have hu' : upd q.f r.2.1 (fvK r.2.2 s.value) i = .val (.string u) := hu
        unfold upd at hu'
        split at hu'
        · unfold fvK at hu'
          split at hu'
          · cases hu'; exact hs
          · cases hu'
          · cases hu'
          · cases hu'
          · cases hu'; exact Nat.le_trans (typeOf_size _) hn
          · cases hu'
        · exact h i u hu'
      · exact h
theorem texts_run {n : Nat} (hn : 20 ≤ n) {tab : QTab} : ∀ (ss : List S) {q : Q}, Texts n q → (∀ s ∈ ss, s.value.text.size ≤ n) → Texts n (runQ tab q ss)
  | [], _, h, _ => h
  | s :: ss, _, h, hs => texts_run hn ss (texts_step hn h (hs s (by simp))) fun u hu => hs u (List.mem_cons_of_mem _ hu)
theorem leaf_like {t : T} (h : scalarT t = true) : ((leafT t).kind == 0) = false ∧ ((leafT t).kind == 5) = false ∧ (leafT t).text.size ≤ t.text.size ∧ wT (leafT t) = 1 := by
  refine ⟨?_, ?_, ?_, (leaf_same h).2⟩ <;> unfold leafT
  · split
    · rfl
    · split <;> rfl
  · split
    · rfl
    · split <;> rfl
  · split
    · exact Nat.le_refl _
    · split <;> exact Nat.zero_le _
theorem initCF_texts (text : T) (fields : List ByteArray) : Texts 20 (q0CF text fields) := by
  intro i s hs
  have h : fvOf ((cCF (plainV text))[i]?.getD .nilIface) = .val (.string s) := hs
  obtain ⟨k, x, e⟩ := plain_iface text
  rw [e] at h
  rcases Nat.lt_or_ge i 7 with hi | hi
  · have : i = 0 ∨ i = 1 ∨ i = 2 ∨ i = 3 ∨ i = 4 ∨ i = 5 ∨ i = 6 := by omega
    rcases this with rfl | rfl | rfl | rfl | rfl | rfl | rfl
    all_goals first | (cases h; done) | (cases h; decide)
  · rw [Array.getElem?_eq_none hi] at h
    cases h

theorem sev_ok {B : Builder} {text : T} {ss : List S} {fs : List T} (hsc : scalarT text = true) (ht : text.text.size ≤ 1048576) (h5 : ∀ s ∈ ss, s.value.text.size ≤ 1048576) (hfit : ∀ s ∈ ss, fitsAt B s = true) (hrow : B.rows.all (fun r => decide (r.1.length ≤ 100)) = true) :
    ∀ p ∈ pE (sevS B.rows text fs ss), (p.2.kind == 5) = false ∧ p.2.text.size < 35184372088832 ∧ p.1.size ≤ 9223372036854775807 := by
  intro p hp
  unfold sevS at hp
  rw [pE_app, pE_app] at hp
  rcases List.mem_append.1 hp with hp | hp
  · rcases List.mem_append.1 hp with hp | hp
    · obtain ⟨s, hs, rfl⟩ := List.mem_map.1 hp
      have hs2 := (List.mem_filter.1 hs).1
      obtain ⟨r, hr, hp2⟩ := List.mem_flatMap.1 hs2
      have hr9 := of_decide_eq_true (List.all_eq_true.1 hrow r hr)
      unfold paramOf at hp2
      cases hl : lastS ss (bs r.1) with
      | none => rw [hl] at hp2; cases hp2
      | some v =>
        rw [hl] at hp2
        dsimp only at hp2
        split at hp2
        · obtain rfl : s = ⟨bs r.1, v⟩ := by simpa using hp2
          obtain ⟨u, hu, hun, rfl⟩ := lastS_mem hl
          have hf := hfit u hu
          have hk : u.value.kind = 1 ∨ u.value.kind = 2 ∨ u.value.kind = 3 := by
            obtain ⟨r', -, -, hf'⟩ := fits_kind hf
            unfold fitB at hf'
            split at hf'
            · simp at hf'; exact Or.inl hf'.1
            · split at hf'
              · simp at hf'; exact Or.inr (Or.inl hf'.1)
              · split at hf'
                · simp at hf'; exact Or.inr (Or.inl hf'.1)
                · split at hf'
                  · simp at hf'; exact Or.inr (Or.inr hf'.1)
                  · split at hf'
                    · simp at hf'; exact Or.inl hf'.1
                    · cases hf'
          refine ⟨by rcases hk with h | h | h <;> (show (u.value.kind == 5) = false; rw [h]; rfl), by have := h5 u hu; show u.value.text.size < _; omega, ?_⟩
          show (bs r.1).size ≤ _
          rw [bs_size]; omega
        · cases hp2
    · unfold fieldsS at hp
      split at hp
      · cases hp
      · obtain rfl : p = _ := by simpa [pE] using hp
        exact ⟨rfl, by show (⟨#[]⟩ : ByteArray).size < _; decide, by show (bs nFields).size ≤ _; rw [bs_size]; decide⟩
  · obtain rfl : p = (bs nQuery, text) := by simpa [pE] using hp
    refine ⟨?_, by show text.text.size < _; omega, by show (bs nQuery).size ≤ _; rw [bs_size]; decide⟩
    rcases (scalar_kind hsc).1 with h | h | h <;> (show (text.kind == 5) = false; rw [h]; rfl)

/-- All parts of the law. -/
theorem lawOk_CF {W : World} {text : T} {fields : List ByteArray} {ss : List S} (hG : Glob W) (hGP : GlobP W) (h0 : text.text.size ≤ 1048576) (h2 : fields.length ≤ 1048576) (h3 : ss.length ≤ 1048576) (h4 : ∀ f ∈ fields, f.size ≤ 1048576) (h5 : ∀ s ∈ ss, s.value.text.size ≤ 1048576) (h6 : ∀ s ∈ ss, s.value.num < 18446744073709551616) :
    LawOk W 19 CF nCF text fields ss (treeCF text (runQ qtCF (q0CF text fields) ss)) (leftCF text (runQ qtCF (q0CF text fields) ss)) (rightCF text fields ss) := by
  intro hsc hfit hfl
  have hfa := fits_all hfit
  have hbo := boosts_run compatCF ss (q0CF text fields) (fun p hp => by cases hp) hfa h6
  have hq := run_q (text := text) h2 h3 hfa
  have htx := texts_run (n := 1048576) (by decide) (tab := qtCF) ss (q := q0CF text fields) (fun i s hs => Nat.le_trans (initCF_texts text fields i s hs) (by decide)) h5
  have hrf : (runQ qtCF (q0CF text fields) ss).fields = fields ++ ss.filterMap nameOf := (run_fields qtCF ss (q0CF text fields)).1
  have hfn : (runQ qtCF (q0CF text fields) ss).fields.length ≤ 2097152 := by
    rw [hrf, List.length_append]
    have := List.length_filterMap_le nameOf ss
    omega
  have hlike : ∀ p ∈ entsCF bText (leafT text) (runQ qtCF (q0CF text fields) ss), (p.2.kind == 0) = false ∧ (p.2.kind == 5) = false ∧ p.2.text.size < 35184372088832 ∧ p.1.size ≤ 9223372036854775807 := by
    rw [entsCF_eq]
    have hl := leaf_like hsc
    refine ents_all ⟨hl.1, hl.2.1, by have := hl.2.2.1; show (leafT text).text.size < _; omega, by rw [bs_size]; decide⟩ (fun t ht => ?_) fun r hr t ht => ?_
    · cases ht; exact ⟨rfl, rfl, by show (⟨#[]⟩ : ByteArray).size < _; decide, by rw [bs_size]; decide⟩
    · obtain ⟨a1, a2, a3, a4⟩ := fvT_like (n := 1048576) (htx r.2) ht
      exact ⟨a1, a2, Nat.lt_of_le_of_lt a3 (by decide), by rw [bs_size]; simp only [tabLCF, List.mem_cons, List.not_mem_nil, or_false] at hr; rcases hr with rfl | rfl | rfl | rfl <;> decide⟩
  have hlen : (entsCF bText (leafT text) (runQ qtCF (q0CF text fields) ss)).length ≤ 18 := by
    unfold entsCF
    repeat (refine len_ent _ _ ?_)
    simp
  refine ⟨fun w vt vf vs hb ht hf hs => ?_, fun w v hb hv => ?_, fun w vt vf vs hb ht hf hs => ?_, same_CF hsc hfit hfl h6, ?_⟩
  · exact cf_any (hG.below hb) hsc h2 h3 h4 h5 h6 hfa ht hf hs
  · refine readFields_any false nCF (kinded_no (by decide)) (fun _ => True) w v (entsCF bText (leafT text) (runQ qtCF (q0CF text fields) ss)) (runQ qtCF (q0CF text fields) ss).fields (runQ qtCF (q0CF text fields) ss).boosts (fun _ _ => trivial) (hG.below hb) (hGP.below hb) hv (by decide) hfn (by omega) hlike ?_ (fun f hf => ?_) hbo
    · rw [look_CF, three_fields]
      cases hq9 : (runQ qtCF (q0CF text fields) ss).fields with
      | nil => exact Or.inl ⟨rfl, Or.inr (by unfold fieldTexts; rw [hq9]; rfl)⟩
      | cons f fs => exact Or.inr ⟨by simp, by unfold fieldTexts; rw [hq9]⟩
    · have hfm : f ∈ fieldNames fields ss := by rw [hrf] at hf; exact hf
      exact ⟨field_plain ((fieldsB_all hfl).2 f hfm), Nat.le_trans (fields_run ss (q0CF text fields) h4 h5 f hf) (by decide)⟩
  · exact several_any CF false nCF (kinded_no (by decide)) (fun _ => True) w vt vf vs text fields ss (fun _ _ => trivial) (hG.below hb) ht hf hs (by omega) (by omega) (by decide) (sev_ok hsc h0 h5 hfa (by rw [rowsCF_is]; decide +kernel))
  · refine tree_w (M := 1 + (runQ qtCF (q0CF text fields) ss).fields.length * 6) ?_ (by omega) ?_
    · refine fold_w (by omega) (read_w ?_)
      rw [entsCF_eq]
      refine ents_all (by show wT (leafT text) ≤ _; rw [(leaf_like hsc).2.2.2]; omega) (fun t ht => ?_) fun r hr t ht => ?_
      · cases ht
        have := wT_list (fieldTexts bText (runQ qtCF (q0CF text fields) ss))
        have e : (fieldTexts bText (runQ qtCF (q0CF text fields) ss)).length = (runQ qtCF (q0CF text fields) ss).fields.length := by simp [fieldTexts]
        rw [e] at this
        show wT (tList _) ≤ _
        omega
      · have := (fvT_like (n := 1048576) (htx r.2) ht).2.2.2
        show wT t ≤ _
        omega
    · show (foldEE (readE _ _ _)).length ≤ 40
      have h1 := foldEE_len (readE (entsCF bText (leafT text) (runQ qtCF (q0CF text fields) ss)) (runQ qtCF (q0CF text fields) ss).fields (runQ qtCF (q0CF text fields) ss).boosts)
      have h2 := readE_len (entsCF bText (leafT text) (runQ qtCF (q0CF text fields) ss)) (runQ qtCF (q0CF text fields) ss).fields (runQ qtCF (q0CF text fields) ss).boosts
      omega
end Go.Proofs.YtbcnhcpgloncdaaGreatDoor
