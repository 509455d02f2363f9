/-
  THE LAW FnCombinedFields, WALKED.
-/
import Derived.Test.YtbcnhcpgloncdaaGreatDoorA17
import Derived.Deep.RegionLaw
namespace Go.Proofs.YtbcnhcpgloncdaaGreatDoor
open Go.RowKit Go.Sort Go.ChangeMaps Go.MapKept Go.Lib

theorem names_small {fields : List ByteArray} {ss : List S} (h2 : fields.length ≤ 1048576) (h3 : ss.length ≤ 1048576) (h4 : ∀ f ∈ fields, f.size ≤ 1048576) (h5 : ∀ s ∈ ss, s.value.text.size ≤ 1048576) :
    (fieldNames fields ss).length ≤ 1073741824 ∧ ∀ k ∈ fieldNames fields ss, k.size ≤ maxLen := by
  unfold fieldNames
  refine ⟨?_, fun k hk => ?_⟩
  · rw [List.length_append]
    have := List.length_filterMap_le nameOf ss
    omega
  · rcases List.mem_append.1 hk with h | h
    · have := h4 k h; unfold maxLen; omega
    · obtain ⟨s, hs, he⟩ := List.mem_filterMap.1 h
      have := h5 s hs
      unfold nameOf at he
      split at he
      · cases he; unfold maxLen; omega
      · cases he

/-- What a law's parts come to, said once: what the builder tells, what is read off it, what it should be; the two are Same. -/
def LawOk (W : World) (F : Nat) (B : Builder) (kind : List UInt8) (text : T) (fields : List ByteArray) (ss : List S) (t0 x y : T) : Prop :=
  scalarT text = true → fitsB B ss = true → fieldsB (fieldNames fields ss) = true →
  (∀ (w : World) (vt vf vs : Value), Below W.heap.size W w → TreeAt w (fun _ => True) vt text → StrsAt w (fun _ => True) vf fields → SetsAt w (fun _ => True) vs ss → Calls Tryz.prog F #[vt, vf, vs] w (RetTold w fun t => t = t0)) ∧
  (∀ (w : World) (v : Value), Below W.heap.size W w → TreeAt w (fun _ => True) v t0 → Calls Tryz.prog 20 #[.string (bs kind), v] w (RetTree (fun _ => True) w x)) ∧
  (∀ (w : World) (vt vf vs : Value), Below W.heap.size W w → TreeAt w (fun _ => True) vt text → StrsAt w (fun _ => True) vf fields → SetsAt w (fun _ => True) vs ss → Calls Tryz.prog 21 #[.string (bs kind), .string (bs B.nm), vt, vf, vs] w (RetTree (fun _ => True) w y)) ∧
  sameB x y = true ∧ wT x ≤ 1073741824
theorem below_drew (w : World) {n : Nat} (_h : n ≤ w.heap.size) : Below n w w.drew := (Below.refl _ _).drew
def nCF : List UInt8 := [99, 111, 109, 98, 105, 110, 101, 100, 95, 102, 105, 101, 108, 100, 115]

set_option maxHeartbeats 8000000 in
set_option maxRecDepth 100000 in
theorem law_4 {W : World} {ok : Nat → Prop} {vt vf vs : Value} {text : T} {fields : List ByteArray} {ss : List S} (ht : TreeAt W ok vt text) (hf : StrsAt W ok vf fields) (hs : SetsAt W ok vs ss)
    (h1 : text.keys.length ≤ 1048576) (h2 : fields.length ≤ 1048576) (h3 : ss.length ≤ 1048576) (h4 : ∀ f ∈ fields, f.size ≤ 1048576) (h5 : ∀ s ∈ ss, s.value.text.size ≤ 1048576)
    (t0 x y : T) (hG : LawOk W 19 CF nCF text fields ss t0 x y) :
    Calls Tryz.prog 4 #[vt, vf, vs] W (RetBool W true) := by
  have HT := hide (ht.weaken (ok' := fun _ => True) fun _ _ _ => trivial)
  have HF := hide (hf.weaken (ok' := fun _ => True) fun _ _ _ => trivial)
  have HS := hide (hs.weaken (ok' := fun _ => True) fun _ _ _ => trivial)
  have H4 := hide h4
  have H5 := hide h5
  have HLAW := hide hG
  obtain ⟨ka, kc, ta, tc, cc, rfl, -⟩ := ht.open
  obtain ⟨fa, fc, rfl, hfc, -⟩ := hf
  obtain ⟨sa, sc, scc, rfl, hsc, -⟩ := hs
  clear ht h4 h5 hG
  obtain ⟨W1, hW1⟩ : ∃ x, x = W.alloc (.cells #[.int .i64 text.kind, .string text.text, .float .f64 text.num, .bool text.yes, .slice ka text.keys.length kc, .slice ta text.kids.length tc] 26 (0, 0)) := ⟨_, rfl⟩
  have B01 : Hid (Below W.heap.size W W1) := hide (by rw [hW1]; go_grown)
  have S1 : W1.heap.size = W.heap.size + 1 := by rw [hW1]; simp
  have hS1 : W.heap.size + 1 ≤ W1.heap.size := by omega
  have hbx1 : Hid (W1.heap[W.heap.size]? = some (.cells #[.int .i64 text.kind, .string text.text, .float .f64 text.num, .bool text.yes, .slice ka text.keys.length kc, .slice ta text.kids.length tc] 26 (0, 0))) := hide (by rw [hW1]; exact heap_alloc_new _ _)
  have HW1 := hide hW1
  have hlen : ¬ (2147483647 : Int) < (ss.length : Int) := by omega
  clear hW1 S1
  go_enter Tryz.func4, Tryz.ntmps4
  go_wp2_with fail
  rw [← HW1.out]
  refine (fits5_any _ text _ _ (HT.out.same (Same.of_below B01.out)) (by omega)).mono ?_
  rintro e w1 ⟨b1, rfl, hb1⟩
  cases b1
  · go_wp2_with fail
    go_returns
    exact ⟨rfl, B01.out.trans (hb1.mono B01.out.size)⟩
  go_wp2_with fail
  refine (fits1_any _ fields _ _ ((HF.out.same (Same.of_below B01.out)).same (Same.of_below hb1)) (by omega)).mono ?_
  rintro e w1b ⟨b2, rfl, rfl⟩
  cases b2
  · go_wp2_with fail
    go_returns
    exact ⟨rfl, B01.out.trans (hb1.mono B01.out.size)⟩
  have HB := hide hb1
  have hsz := hb1.size
  have x0 : w1b.cell? ⟨W.heap.size, 0, none⟩ = some (.int .i64 text.kind) := by rw [cell_of_row w1b _ 0 _ _ _ ((hb1.block _ (by omega)).trans hbx1.out)]; rfl
  have x1 : w1b.cell? ⟨W.heap.size, 1, none⟩ = some (.string text.text) := by rw [cell_of_row w1b _ 1 _ _ _ ((hb1.block _ (by omega)).trans hbx1.out)]; rfl
  have x2 : w1b.cell? ⟨W.heap.size, 2, none⟩ = some (.float .f64 text.num) := by rw [cell_of_row w1b _ 2 _ _ _ ((hb1.block _ (by omega)).trans hbx1.out)]; rfl
  have x3 : w1b.cell? ⟨W.heap.size, 3, none⟩ = some (.bool text.yes) := by rw [cell_of_row w1b _ 3 _ _ _ ((hb1.block _ (by omega)).trans hbx1.out)]; rfl
  have x4 : w1b.cell? ⟨W.heap.size, 4, none⟩ = some (.slice ka text.keys.length kc) := by rw [cell_of_row w1b _ 4 _ _ _ ((hb1.block _ (by omega)).trans hbx1.out)]; rfl
  have x5 : w1b.cell? ⟨W.heap.size, 5, none⟩ = some (.slice ta text.kids.length tc) := by rw [cell_of_row w1b _ 5 _ _ _ ((hb1.block _ (by omega)).trans hbx1.out)]; rfl
  clear hb1
  have HTx := hide (fun (w : World) (hb : Below W1.heap.size W1 w) => (HT.out.same (Same.of_below B01.out)).same (Same.of_below (w' := w) hb))
  have HFx := hide (fun (w : World) (hb : Below W1.heap.size W1 w) => (HF.out.same (Same.of_below B01.out)).same (Same.of_below (w' := w) hb))
  have HSx := hide (fun (w : World) (hb : Below W1.heap.size W1 w) => (HS.out.same (Same.of_below B01.out)).same (Same.of_below (w' := w) hb))
  go_wp2_with fail
  refine (scalar_any _ text _ _ (HTx.out _ HB.out)).mono ?_
  cases hsc1 : scalarT text
  · rintro e w2 ⟨rfl, hb2⟩
    have hb2' := HB.out.trans (hb2.mono hsz)
    go_wp2_with fail
    go_returns
    exact ⟨rfl, B01.out.trans (hb2'.mono B01.out.size)⟩
  rintro e w2 ⟨rfl, hb2⟩
  have hb2' := HB.out.trans (hb2.mono hsz)
  have hsz2 := hb2'.size
  have HB2 := hide hb2'
  clear hb2 hb2' HB
  go_wp2_with fail
  refine (fits_any CF CF_ok _ ss _ _ (HSx.out _ HB2.out) (by omega) (fun s hs => by have := H5.out s hs; unfold maxLen; omega)).mono ?_
  cases hfit : fitsB CF ss
  · rintro e w4 ⟨rfl, hb4⟩
    have hb4' := HB2.out.trans (hb4.mono hsz2)
    go_wp2_with fail
    go_returns
    exact ⟨rfl, B01.out.trans (hb4'.mono B01.out.size)⟩
  rintro e w4 ⟨rfl, hb4⟩
  have hb4' := HB2.out.trans (hb4.mono hsz2)
  have hsz4 := hb4'.size
  have HB4 := hide hb4'
  clear hb4 hb4' HB2
  go_wp2_with fail
  refine (fieldNames_any (fun _ => True) fields ss _ _ _ (fun _ _ => trivial) (HFx.out _ HB4.out) (HSx.out _ HB4.out) (by omega) (by omega)).mono ?_
  rintro e w7 ⟨v7, rfl, hv7, hb7⟩
  have hb7' := HB4.out.trans (hb7.mono hsz4)
  have hsz7 := hb7'.size
  have HB7 := hide hb7'
  have HV7 := hide hv7
  have HFN : Hid ((fieldNames fields ss).length ≤ 1073741824 ∧ ∀ k ∈ fieldNames fields ss, k.size ≤ maxLen) := hide (names_small h2 h3 H4.out H5.out)
  clear hb7 hb7' HB4 hsz4
  obtain ⟨a7, c7, rfl, -, -⟩ := hv7
  go_wp2_with fail
  refine (fields_any (fun _ => True) _ _ _ HV7.out HFN.out.1 HFN.out.2).mono ?_
  cases hfl : fieldsB (fieldNames fields ss)
  · rintro e w8 ⟨rfl, hb8⟩
    have hb8' := HB7.out.trans (hb8.mono hsz7)
    go_wp2_with fail
    go_returns
    exact ⟨rfl, B01.out.trans (hb8'.mono B01.out.size)⟩
  rintro e w8 ⟨rfl, hb8⟩
  have hb8' := HB7.out.trans (hb8.mono hsz7)
  have hsz8 := hb8'.size
  have HB8 := hide hb8'
  obtain ⟨HI, HR, HV, HSM, HWX⟩ := HLAW.out hsc1 hfit hfl
  have HI' := hide HI
  have HR' := hide HR
  have HV' := hide HV
  have HSM' := hide HSM
  have HX := hide (hb8'.block _ (by omega) |>.trans hbx1.out)
  have y0 : w8.cell? ⟨W.heap.size, 0, none⟩ = some (.int .i64 text.kind) := by rw [cell_of_row w8 _ 0 _ _ _ HX.out]; rfl
  have y1 : w8.cell? ⟨W.heap.size, 1, none⟩ = some (.string text.text) := by rw [cell_of_row w8 _ 1 _ _ _ HX.out]; rfl
  have y2 : w8.cell? ⟨W.heap.size, 2, none⟩ = some (.float .f64 text.num) := by rw [cell_of_row w8 _ 2 _ _ _ HX.out]; rfl
  have y3 : w8.cell? ⟨W.heap.size, 3, none⟩ = some (.bool text.yes) := by rw [cell_of_row w8 _ 3 _ _ _ HX.out]; rfl
  have y4 : w8.cell? ⟨W.heap.size, 4, none⟩ = some (.slice ka text.keys.length kc) := by rw [cell_of_row w8 _ 4 _ _ _ HX.out]; rfl
  have y5 : w8.cell? ⟨W.heap.size, 5, none⟩ = some (.slice ta text.kids.length tc) := by rw [cell_of_row w8 _ 5 _ _ _ HX.out]; rfl
  clear hb8 hb8' HB7 HV7 hsz7 HI HR HV HSM x0 x1 x2 x3 x4 x5
  go_wp2_with fail
  refine (HI'.out _ _ _ _ (B01.out.trans (HB8.out.mono B01.out.size)) (HTx.out _ HB8.out) (HFx.out _ HB8.out) (HSx.out _ HB8.out)).mono ?_
  rintro e wa ⟨va, ta1, rfl, hta, rfl, hba⟩
  have hba' := HB8.out.trans (hba.mono hsz8)
  have hsza := hba'.size
  have HBa := hide hba'
  have HTA := hide (hta.weaken (ok' := fun _ => True) fun _ _ _ => trivial)
  obtain ⟨ya, yac, za, zac, cca, rfl, -⟩ := hta.open
  clear hba hba' hta
  go_upto_region 6 with fail
  obtain ⟨Wb, hWb⟩ : ∃ z, z = wa.alloc (.cells #[.int .i64 ta1.kind, .string ta1.text, .float .f64 ta1.num, .bool ta1.yes, .slice ya ta1.keys.length yac, .slice za ta1.kids.length zac] 26 (0, 0)) := ⟨_, rfl⟩
  rw [← hWb]
  have HBb : Hid (Below W.heap.size W Wb) := hide (by
    rw [hWb]
    exact (B01.out.trans (HBa.out.mono B01.out.size)).trans ((Below.refl _ _).alloc (by have := B01.out.size; omega) _))
  have HZb : Hid (Wb.heap[wa.heap.size]? = some (.cells #[.int .i64 ta1.kind, .string ta1.text, .float .f64 ta1.num, .bool ta1.yes, .slice ya ta1.keys.length yac, .slice za ta1.kids.length zac] 26 (0, 0))) := hide (by rw [hWb]; exact heap_alloc_new _ _)
  have hlt6 : W.heap.size < wa.heap.size := by omega
  have hsb : wa.heap.size + 1 ≤ Wb.heap.size := by rw [hWb]; simp
  have HXb : Hid (Wb.heap[W.heap.size]? = some (.cells #[.int .i64 text.kind, .string text.text, .float .f64 text.num, .bool text.yes, .slice ka text.keys.length kc, .slice ta text.kids.length tc] 26 (0, 0))) := hide (by rw [hWb]; exact (MapKept.heap_alloc _ _).2 _ (by omega) |>.trans ((HBa.out.block _ (by omega)).trans hbx1.out))
  have HTb : Hid (TreeAt Wb (fun _ => True) (.agg #[.int .i64 ta1.kind, .string ta1.text, .float .f64 ta1.num, .bool ta1.yes, .slice ya ta1.keys.length yac, .slice za ta1.kids.length zac]) ta1) := hide (by rw [hWb]; exact HTA.out.same (Same.of_below (by go_grown)))
  have z0 : Wb.cell? ⟨wa.heap.size, 0, none⟩ = some (.int .i64 ta1.kind) := by rw [cell_of_row Wb _ 0 _ _ _ HZb.out]; rfl
  have z1 : Wb.cell? ⟨wa.heap.size, 1, none⟩ = some (.string ta1.text) := by rw [cell_of_row Wb _ 1 _ _ _ HZb.out]; rfl
  have z2 : Wb.cell? ⟨wa.heap.size, 2, none⟩ = some (.float .f64 ta1.num) := by rw [cell_of_row Wb _ 2 _ _ _ HZb.out]; rfl
  have z3 : Wb.cell? ⟨wa.heap.size, 3, none⟩ = some (.bool ta1.yes) := by rw [cell_of_row Wb _ 3 _ _ _ HZb.out]; rfl
  have z4 : Wb.cell? ⟨wa.heap.size, 4, none⟩ = some (.slice ya ta1.keys.length yac) := by rw [cell_of_row Wb _ 4 _ _ _ HZb.out]; rfl
  have z5 : Wb.cell? ⟨wa.heap.size, 5, none⟩ = some (.slice za ta1.kids.length zac) := by rw [cell_of_row Wb _ 5 _ _ _ HZb.out]; rfl
  have p0 : Wb.cell? ⟨W.heap.size, 0, none⟩ = some (.int .i64 text.kind) := by rw [cell_of_row Wb _ 0 _ _ _ HXb.out]; rfl
  have p1 : Wb.cell? ⟨W.heap.size, 1, none⟩ = some (.string text.text) := by rw [cell_of_row Wb _ 1 _ _ _ HXb.out]; rfl
  have p2 : Wb.cell? ⟨W.heap.size, 2, none⟩ = some (.float .f64 text.num) := by rw [cell_of_row Wb _ 2 _ _ _ HXb.out]; rfl
  have p3 : Wb.cell? ⟨W.heap.size, 3, none⟩ = some (.bool text.yes) := by rw [cell_of_row Wb _ 3 _ _ _ HXb.out]; rfl
  have p4 : Wb.cell? ⟨W.heap.size, 4, none⟩ = some (.slice ka text.keys.length kc) := by rw [cell_of_row Wb _ 4 _ _ _ HXb.out]; rfl
  have p5 : Wb.cell? ⟨W.heap.size, 5, none⟩ = some (.slice ta text.kids.length tc) := by rw [cell_of_row Wb _ 5 _ _ _ HXb.out]; rfl
  clear hWb HTA HBa y0 y1 y2 y3 y4 y5 hsza
  have hbW : W.heap.size ≤ Wb.heap.size := by omega
  go_region_law (first
    | (go_simp; go_at_call 20; refine Calls.mono (HR'.out _ _ (HBb.out.trans ((show Below Wb.heap.size Wb _ from by first | exact Below.refl _ _ | exact HBv.out | exact HBv.out.trans (below_drew _ HBv.out.size) | exact below_drew _ (Nat.le_refl _) | go_grown | exact HBv.out.trans (by go_grown)).mono hbW)) (HTb.out.same (Same.of_below (show Below Wb.heap.size Wb _ from by first | exact Below.refl _ _ | exact HBv.out | exact HBv.out.trans (below_drew _ HBv.out.size) | exact below_drew _ (Nat.le_refl _) | go_grown | exact HBv.out.trans (by go_grown))))) ?_; rintro e wu ⟨vu, rfl, htu, hbu⟩; have HBu0 := hide hbu; have HBu : Hid (Below Wb.heap.size Wb wu) := hide (by first | exact hbu | exact HBv.out.trans (hbu.mono HBv.out.size) | exact hbu.mono (Nat.le_refl _) | exact Below.trans (below_drew _ (Nat.le_refl _)) (hbu.mono (Nat.le_refl _)) | exact (HBv.out.trans (below_drew _ HBv.out.size)).trans (hbu.mono HBv.out.size)); have HTu := hide htu; obtain ⟨u1, u2, u3, u4, u5, rfl, -⟩ := htu.open; have z0u : wu.cell? ⟨wa.heap.size, 0, none⟩ = some (.int .i64 ta1.kind) := (HBu.out.cell (p := ⟨wa.heap.size, 0, none⟩) (show wa.heap.size < Wb.heap.size by omega)).trans z0; have z1u : wu.cell? ⟨wa.heap.size, 1, none⟩ = some (.string ta1.text) := (HBu.out.cell (p := ⟨wa.heap.size, 1, none⟩) (show wa.heap.size < Wb.heap.size by omega)).trans z1; have z2u : wu.cell? ⟨wa.heap.size, 2, none⟩ = some (.float .f64 ta1.num) := (HBu.out.cell (p := ⟨wa.heap.size, 2, none⟩) (show wa.heap.size < Wb.heap.size by omega)).trans z2; have z3u : wu.cell? ⟨wa.heap.size, 3, none⟩ = some (.bool ta1.yes) := (HBu.out.cell (p := ⟨wa.heap.size, 3, none⟩) (show wa.heap.size < Wb.heap.size by omega)).trans z3; have z4u : wu.cell? ⟨wa.heap.size, 4, none⟩ = some (.slice ya ta1.keys.length yac) := (HBu.out.cell (p := ⟨wa.heap.size, 4, none⟩) (show wa.heap.size < Wb.heap.size by omega)).trans z4; have z5u : wu.cell? ⟨wa.heap.size, 5, none⟩ = some (.slice za ta1.kids.length zac) := (HBu.out.cell (p := ⟨wa.heap.size, 5, none⟩) (show wa.heap.size < Wb.heap.size by omega)).trans z5; have p0u : wu.cell? ⟨W.heap.size, 0, none⟩ = some (.int .i64 text.kind) := (HBu.out.cell (p := ⟨W.heap.size, 0, none⟩) (show W.heap.size < Wb.heap.size by omega)).trans p0; have p1u : wu.cell? ⟨W.heap.size, 1, none⟩ = some (.string text.text) := (HBu.out.cell (p := ⟨W.heap.size, 1, none⟩) (show W.heap.size < Wb.heap.size by omega)).trans p1; have p2u : wu.cell? ⟨W.heap.size, 2, none⟩ = some (.float .f64 text.num) := (HBu.out.cell (p := ⟨W.heap.size, 2, none⟩) (show W.heap.size < Wb.heap.size by omega)).trans p2; have p3u : wu.cell? ⟨W.heap.size, 3, none⟩ = some (.bool text.yes) := (HBu.out.cell (p := ⟨W.heap.size, 3, none⟩) (show W.heap.size < Wb.heap.size by omega)).trans p3; have p4u : wu.cell? ⟨W.heap.size, 4, none⟩ = some (.slice ka text.keys.length kc) := (HBu.out.cell (p := ⟨W.heap.size, 4, none⟩) (show W.heap.size < Wb.heap.size by omega)).trans p4; have p5u : wu.cell? ⟨W.heap.size, 5, none⟩ = some (.slice ta text.kids.length tc) := (HBu.out.cell (p := ⟨W.heap.size, 5, none⟩) (show W.heap.size < Wb.heap.size by omega)).trans p5; clear htu hbu)
    | (go_simp; go_at_call 21; refine Calls.mono (HV'.out _ _ _ _ (HBb.out.trans ((show Below Wb.heap.size Wb _ from by first | exact Below.refl _ _ | exact HBu.out | exact HBu.out.trans (below_drew _ HBu.out.size) | exact below_drew _ (Nat.le_refl _) | go_grown | exact HBu.out.trans (by go_grown)).mono hbW)) ((HT.out.same (Same.of_below HBb.out)).same (Same.of_below (show Below Wb.heap.size Wb _ from by first | exact Below.refl _ _ | exact HBu.out | exact HBu.out.trans (below_drew _ HBu.out.size) | exact below_drew _ (Nat.le_refl _) | go_grown | exact HBu.out.trans (by go_grown)))) ((HF.out.same (Same.of_below HBb.out)).same (Same.of_below (show Below Wb.heap.size Wb _ from by first | exact Below.refl _ _ | exact HBu.out | exact HBu.out.trans (below_drew _ HBu.out.size) | exact below_drew _ (Nat.le_refl _) | go_grown | exact HBu.out.trans (by go_grown)))) ((HS.out.same (Same.of_below HBb.out)).same (Same.of_below (show Below Wb.heap.size Wb _ from by first | exact Below.refl _ _ | exact HBu.out | exact HBu.out.trans (below_drew _ HBu.out.size) | exact below_drew _ (Nat.le_refl _) | go_grown | exact HBu.out.trans (by go_grown))))) ?_; rintro e wv ⟨vv, rfl, htv, hbv⟩; have HBv0 := hide hbv; have HBv : Hid (Below Wb.heap.size Wb wv) := hide (by first | exact hbv | exact HBu.out.trans (hbv.mono HBu.out.size) | exact hbv.mono (Nat.le_refl _) | exact Below.trans (below_drew _ (Nat.le_refl _)) (hbv.mono (Nat.le_refl _)) | exact (HBu.out.trans (below_drew _ HBu.out.size)).trans (hbv.mono HBu.out.size)); have HTv := hide htv; obtain ⟨v1, v2, v3, v4, v5, rfl, -⟩ := htv.open; have z0v : wv.cell? ⟨wa.heap.size, 0, none⟩ = some (.int .i64 ta1.kind) := (HBv.out.cell (p := ⟨wa.heap.size, 0, none⟩) (show wa.heap.size < Wb.heap.size by omega)).trans z0; have z1v : wv.cell? ⟨wa.heap.size, 1, none⟩ = some (.string ta1.text) := (HBv.out.cell (p := ⟨wa.heap.size, 1, none⟩) (show wa.heap.size < Wb.heap.size by omega)).trans z1; have z2v : wv.cell? ⟨wa.heap.size, 2, none⟩ = some (.float .f64 ta1.num) := (HBv.out.cell (p := ⟨wa.heap.size, 2, none⟩) (show wa.heap.size < Wb.heap.size by omega)).trans z2; have z3v : wv.cell? ⟨wa.heap.size, 3, none⟩ = some (.bool ta1.yes) := (HBv.out.cell (p := ⟨wa.heap.size, 3, none⟩) (show wa.heap.size < Wb.heap.size by omega)).trans z3; have z4v : wv.cell? ⟨wa.heap.size, 4, none⟩ = some (.slice ya ta1.keys.length yac) := (HBv.out.cell (p := ⟨wa.heap.size, 4, none⟩) (show wa.heap.size < Wb.heap.size by omega)).trans z4; have z5v : wv.cell? ⟨wa.heap.size, 5, none⟩ = some (.slice za ta1.kids.length zac) := (HBv.out.cell (p := ⟨wa.heap.size, 5, none⟩) (show wa.heap.size < Wb.heap.size by omega)).trans z5; have p0v : wv.cell? ⟨W.heap.size, 0, none⟩ = some (.int .i64 text.kind) := (HBv.out.cell (p := ⟨W.heap.size, 0, none⟩) (show W.heap.size < Wb.heap.size by omega)).trans p0; have p1v : wv.cell? ⟨W.heap.size, 1, none⟩ = some (.string text.text) := (HBv.out.cell (p := ⟨W.heap.size, 1, none⟩) (show W.heap.size < Wb.heap.size by omega)).trans p1; have p2v : wv.cell? ⟨W.heap.size, 2, none⟩ = some (.float .f64 text.num) := (HBv.out.cell (p := ⟨W.heap.size, 2, none⟩) (show W.heap.size < Wb.heap.size by omega)).trans p2; have p3v : wv.cell? ⟨W.heap.size, 3, none⟩ = some (.bool text.yes) := (HBv.out.cell (p := ⟨W.heap.size, 3, none⟩) (show W.heap.size < Wb.heap.size by omega)).trans p3; have p4v : wv.cell? ⟨W.heap.size, 4, none⟩ = some (.slice ka text.keys.length kc) := (HBv.out.cell (p := ⟨W.heap.size, 4, none⟩) (show W.heap.size < Wb.heap.size by omega)).trans p4; have p5v : wv.cell? ⟨W.heap.size, 5, none⟩ = some (.slice ta text.kids.length tc) := (HBv.out.cell (p := ⟨W.heap.size, 5, none⟩) (show W.heap.size < Wb.heap.size by omega)).trans p5; clear htv hbv)
    | (go_simp; go_at_call 18; refine (same_any 1073741824 x y (Nat.le_refl _) HWX (fun _ => True) (fun _ => True) _ _ _ (by first | exact (HTu.out.same (Same.of_below HBv0.out)) | exact HTu.out) (by first | exact (HTv.out.same (Same.of_below HBu0.out)) | exact HTv.out)).mono ?_; rw [HSM'.out]; rintro e w18 ⟨rfl, hb18⟩; have HB18 : Hid (Below Wb.heap.size Wb w18) := hide (by first | exact HBv.out.trans (hb18.mono HBv.out.size) | exact HBu.out.trans (hb18.mono HBu.out.size)); clear hb18))
  all_goals
    go_wp2_with fail
    go_returns
    exact ⟨rfl, HBb.out.trans (HB18.out.mono hbW)⟩
end Go.Proofs.YtbcnhcpgloncdaaGreatDoor
