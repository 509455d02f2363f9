/-
  THE LAW FnQueryString, WALKED.
-/
import Derived.Test.YtbcnhcpgloncdaaGreatDoorE4
namespace Go.Proofs.YtbcnhcpgloncdaaGreatDoor
open Go.RowKit Go.Sort Go.ChangeMaps Go.MapKept Go.Lib

def nQS : List UInt8 := [113, 117, 101, 114, 121, 95, 115, 116, 114, 105, 110, 103]

set_option maxHeartbeats 8000000 in
set_option maxRecDepth 100000 in
theorem law_7 {W : World} {ok : Nat → Prop} {vs : Value} {text : ByteArray} {ss : List S} (hs : SetsAt W ok vs ss)
    (h0 : text.size ≤ 1048576) (h3 : ss.length ≤ 1048576) (h5 : ∀ s ∈ ss, s.value.text.size ≤ 1048576)
    (t0 x y : T) (hG : LawOk2 W 25 QS nQS text ss t0 x y) :
    Calls Tryz.prog 7 #[.string text, vs] W (RetBool W true) := by
  have HS := hide (hs.weaken (ok' := fun _ => True) fun _ _ _ => trivial)
  have H5 := hide h5
  have HLAW := hide hG
  obtain ⟨sa, sc, scc, rfl, hsc, -⟩ := hs
  clear h5 hG
  have hlen : ¬ (2147483647 : Int) < (ss.length : Int) := by omega
  have hlen0 : ¬ (2147483647 : Int) < (text.size : Int) := by omega
  have HSx := hide (fun (w : World) (hb : Below W.heap.size W w) => HS.out.same (Same.of_below (w' := w) hb))
  go_enter Tryz.func7, Tryz.ntmps7
  go_wp2_with fail
  refine (fits_any QS QS_ok _ ss _ _ HS.out (by omega) (fun s hs => by have := H5.out s hs; unfold maxLen; omega)).mono ?_
  cases hfit : fitsB QS ss
  · rintro e w4 ⟨rfl, hb4⟩
    go_wp2_with fail
    go_returns
    exact ⟨rfl, hb4⟩
  rintro e w4 ⟨rfl, hb4⟩
  have hsz4 := hb4.size
  have HB4 := hide hb4
  clear hb4
  go_wp2_with fail
  refine (fieldNames_any (fun _ => True) [] ss _ _ _ (fun _ _ => trivial) (strs_none _ _) (HSx.out _ HB4.out) (by simp) (by omega)).mono ?_
  rintro e w7 ⟨v7, rfl, hv7, hb7⟩
  have hb7' := HB4.out.trans (hb7.mono hsz4)
  have hsz7 := hb7'.size
  have HB7 := hide hb7'
  have HV7 := hide hv7
  have HFN : Hid ((fieldNames [] ss).length ≤ 1073741824 ∧ ∀ k ∈ fieldNames [] ss, k.size ≤ maxLen) := hide (names_small (fields := []) (by simp) h3 (fun f hf => by cases hf) H5.out)
  clear hb7 hb7' HB4 hsz4
  obtain ⟨a7, c7, rfl, -, -⟩ := hv7
  go_wp2_with fail
  refine (fields_any (fun _ => True) _ _ _ HV7.out HFN.out.1 HFN.out.2).mono ?_
  cases hfl : fieldsB (fieldNames [] ss)
  · rintro e w8 ⟨rfl, hb8⟩
    have hb8' := HB7.out.trans (hb8.mono hsz7)
    go_wp2_with fail
    go_returns
    exact ⟨rfl, hb8'⟩
  rintro e w8 ⟨rfl, hb8⟩
  have hb8' := HB7.out.trans (hb8.mono hsz7)
  have hsz8 := hb8'.size
  have HB8 := hide hb8'
  obtain ⟨HI, HR, HV, HSM, HWX⟩ := HLAW.out hfit hfl
  have HI' := hide HI
  have HR' := hide HR
  have HV' := hide HV
  have HSM' := hide HSM
  clear hb8 hb8' HB7 HV7 hsz7 HI HR HV HSM
  go_wp2_with fail
  refine (HI'.out _ _ HB8.out (HSx.out _ HB8.out)).mono ?_
  rintro e wa ⟨va, ta1, rfl, hta, rfl, hba⟩
  have hba' := HB8.out.trans (hba.mono hsz8)
  have hsza := hba'.size
  have HBa := hide hba'
  have HTA := hide (hta.weaken (ok' := fun _ => True) fun _ _ _ => trivial)
  obtain ⟨ya, yac, za, zac, cca, rfl, -⟩ := hta.open
  clear hba hba' hta
  go_upto_region 6 with fail
  obtain ⟨Wb, hWb⟩ : ∃ z, z = wa.alloc (.cells #[.int .i64 ta1.kind, .string ta1.text, .float .f64 ta1.num, .bool ta1.yes, .slice ya ta1.keys.length yac, .slice za ta1.kids.length zac] 26 (0, 0)) := ⟨_, rfl⟩
  rw [← hWb]
  have HBb : Hid (Below W.heap.size W Wb) := hide (by
    rw [hWb]
    exact HBa.out.trans ((Below.refl _ _).alloc (by omega) _))
  have HZb : Hid (Wb.heap[wa.heap.size]? = some (.cells #[.int .i64 ta1.kind, .string ta1.text, .float .f64 ta1.num, .bool ta1.yes, .slice ya ta1.keys.length yac, .slice za ta1.kids.length zac] 26 (0, 0))) := hide (by rw [hWb]; exact heap_alloc_new _ _)
  have hlt6 : wa.heap.size < Wb.heap.size := by rw [hWb]; simp
  have HTb : Hid (TreeAt Wb (fun _ => True) (.agg #[.int .i64 ta1.kind, .string ta1.text, .float .f64 ta1.num, .bool ta1.yes, .slice ya ta1.keys.length yac, .slice za ta1.kids.length zac]) ta1) := hide (by rw [hWb]; exact HTA.out.same (Same.of_below (by go_grown)))
  have z0 : Wb.cell? ⟨wa.heap.size, 0, none⟩ = some (.int .i64 ta1.kind) := by rw [cell_of_row Wb _ 0 _ _ _ HZb.out]; rfl
  have zb0 := hide z0
  have z1 : Wb.cell? ⟨wa.heap.size, 1, none⟩ = some (.string ta1.text) := by rw [cell_of_row Wb _ 1 _ _ _ HZb.out]; rfl
  have zb1 := hide z1
  have z2 : Wb.cell? ⟨wa.heap.size, 2, none⟩ = some (.float .f64 ta1.num) := by rw [cell_of_row Wb _ 2 _ _ _ HZb.out]; rfl
  have zb2 := hide z2
  have z3 : Wb.cell? ⟨wa.heap.size, 3, none⟩ = some (.bool ta1.yes) := by rw [cell_of_row Wb _ 3 _ _ _ HZb.out]; rfl
  have zb3 := hide z3
  have z4 : Wb.cell? ⟨wa.heap.size, 4, none⟩ = some (.slice ya ta1.keys.length yac) := by rw [cell_of_row Wb _ 4 _ _ _ HZb.out]; rfl
  have zb4 := hide z4
  have z5 : Wb.cell? ⟨wa.heap.size, 5, none⟩ = some (.slice za ta1.kids.length zac) := by rw [cell_of_row Wb _ 5 _ _ _ HZb.out]; rfl
  have zb5 := hide z5
  clear hWb HTA HBa
  have hbW : W.heap.size ≤ Wb.heap.size := by omega
  go_wp2_with fail
  refine Calls.mono (HR'.out _ _ HBb.out HTb.out) ?_
  rintro e wu ⟨vu, rfl, htu, hbu⟩
  have hsu := hbu.size
  have HBu := hide (HBb.out.trans (hbu.mono hbW))
  have HTu := hide htu
  obtain ⟨u1, u2, u3, u4, u5, rfl, -⟩ := htu.open
  clear htu hbu
  go_wp2_with fail
  refine (text_val _ _).mono ?_
  rintro e wt ⟨rfl, hbt⟩
  have hst := hbt.size
  have HBt := hide (HBu.out.trans (hbt.mono HBu.out.size))
  have HTt := hide (HTu.out.same (Same.of_below hbt))
  clear hbt HTu
  go_wp2_with fail
  refine Calls.mono (HV'.out _ _ _ _ HBt.out (leaf_text _ _ _) (strs_none _ _) (HSx.out _ HBt.out)) ?_
  rintro e wv ⟨vv, rfl, htv, hbv⟩
  have HBv := hide (HBt.out.trans (hbv.mono HBt.out.size))
  have HTw := hide (HTt.out.same (Same.of_below hbv))
  have HTv := hide htv
  obtain ⟨v1, v2, v3, v4, v5, rfl, -⟩ := htv.open
  clear htv hbv HTt
  go_wp2_with fail
  refine (same_any 1073741824 x y (Nat.le_refl _) HWX (fun _ => True) (fun _ => True) _ _ _ HTw.out HTv.out).mono ?_
  rw [HSM'.out]
  rintro e w18 ⟨rfl, hb18⟩
  have HB18 := hide (HBv.out.trans (hb18.mono HBv.out.size))
  go_wp2_with fail
  go_returns
  exact ⟨rfl, HB18.out⟩
end Go.Proofs.YtbcnhcpgloncdaaGreatDoor
