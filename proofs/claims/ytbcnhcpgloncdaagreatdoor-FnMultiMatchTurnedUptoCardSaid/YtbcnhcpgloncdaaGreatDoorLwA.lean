/-
  THE LAW FnMultiMatchTurned, WALKED.
-/
import Derived.Test.YtbcnhcpgloncdaaGreatDoorTur
import Derived.Test.YtbcnhcpgloncdaaGreatDoorMap
import Derived.Test.YtbcnhcpgloncdaaGreatDoorQgMM
import Derived.Test.YtbcnhcpgloncdaaGreatDoorQsMM
import Derived.Deep.RegionLaw
namespace Go.Proofs.YtbcnhcpgloncdaaGreatDoor
open Go.RowKit Go.Sort Go.ChangeMaps Go.MapKept Go.Lib

theorem names_small {fields : List ByteArray} {ss : List S} (h2 : fields.length ≤ 1048576) (h3 : ss.length ≤ 1048576) (h4 : ∀ f ∈ fields, f.size ≤ 1048576) (h5 : ∀ s ∈ ss, s.value.text.size ≤ 1048576) :
    (fieldNames fields ss).length ≤ 1073741824 ∧ ∀ k ∈ fieldNames fields ss, k.size ≤ maxLen := by
  unfold fieldNames
  refine ⟨?_, fun k hk => ?_⟩
  · rw [List.length_append]
    have := List.length_filterMap_le nameOf ss
    omega
  · rcases List.mem_append.1 hk with h | h
    · have := h4 k h; unfold maxLen; omega
    · obtain ⟨s, hs, he⟩ := List.mem_filterMap.1 h
      have := h5 s hs
      unfold nameOf at he
      split at he
      · cases he; unfold maxLen; omega
      · cases he

/-- A block that holds a tree's value. -/
def TwoAt (w : World) (b : Nat) (t : T) : Prop := ∃ ya yac za zac, w.heap[b]? = some (.cells #[.int .i64 t.kind, .string t.text, .float .f64 t.num, .bool t.yes, .slice ya t.keys.length yac, .slice za t.kids.length zac] 26 (0, 0)) ∧
  TreeAt w (fun _ => True) (.agg #[.int .i64 t.kind, .string t.text, .float .f64 t.num, .bool t.yes, .slice ya t.keys.length yac, .slice za t.kids.length zac]) t

def Cut6 (W1 : World) (a : Nat) (t : T) (t9 t10 : Value) (wx : World) : Prop := t10 = .bool true ∧ (∃ bt : Nat, t9 = .pointer (some ⟨bt, 0, none⟩) ∧ TwoAt wx bt t) ∧ TwoAt wx a t ∧ Below W1.heap.size W1 wx
theorem two_ab {W1 wa wc : World} {b n : Nat} {t u : T} {ya za ya2 za2 : Option Addr} {yac zac yac2 zac2 : Nat} (hz8 : wc.heap[b]? = some (.cells #[.int .i64 0, .string ⟨#[]⟩, .float .f64 0, .bool false, .slice none 0 0, .slice none 0 0] 26 (0, 0))) (hb : Below W1.heap.size W1 wc) (hwa : W1.heap.size ≤ wa.heap.size) (hone : wc.heap[wa.heap.size]? = some (.cells #[.int .i64 t.kind, .string t.text, .float .f64 t.num, .bool t.yes, .slice ya t.keys.length yac, .slice za t.kids.length zac] 26 (0, 0)))
    (hta : TreeAt wa (fun k => k < wa.heap.size) (.agg #[.int .i64 t.kind, .string t.text, .float .f64 t.num, .bool t.yes, .slice ya t.keys.length yac, .slice za t.kids.length zac]) t) (hca : Below wa.heap.size wa wc) (htb : TreeAt wc (newB n) (.agg #[.int .i64 u.kind, .string u.text, .float .f64 u.num, .bool u.yes, .slice ya2 u.keys.length yac2, .slice za2 u.kids.length zac2]) u) (hu : u = t) (hab : wa.heap.size < b) (hbn : b < n) :
    Cut6 W1 wa.heap.size t (.pointer (some ⟨b, 0, none⟩)) (.bool true) ((((((wc.setCell ⟨b, 0, none⟩ (.int .i64 u.kind)).setCell ⟨b, 1, none⟩ (.string u.text)).setCell ⟨b, 2, none⟩ (.float .f64 u.num)).setCell ⟨b, 3, none⟩ (.bool u.yes)).setCell ⟨b, 4, none⟩ (.slice ya2 u.keys.length yac2)).setCell ⟨b, 5, none⟩ (.slice za2 u.kids.length zac2)) := by
  have hz := set6 hz8 (.int .i64 u.kind) (.string u.text) (.float .f64 u.num) (.bool u.yes) (.slice ya2 u.keys.length yac2) (.slice za2 u.kids.length zac2)
  have hS := same6 (ok := newB n) (w1 := wc) (b := b) (by unfold newB; omega) (.int .i64 u.kind) (.string u.text) (.float .f64 u.num) (.bool u.yes) (.slice ya2 u.keys.length yac2) (.slice za2 u.kids.length zac2)
  have hS2 := same6 (ok := fun k => k < wa.heap.size) (w1 := wc) (b := b) (by omega) (.int .i64 u.kind) (.string u.text) (.float .f64 u.num) (.bool u.yes) (.slice ya2 u.keys.length yac2) (.slice za2 u.kids.length zac2)
  have hL := below6 (w1 := wc) (n := wa.heap.size + 1) (b := b) (by omega) (.int .i64 u.kind) (.string u.text) (.float .f64 u.num) (.bool u.yes) (.slice ya2 u.keys.length yac2) (.slice za2 u.kids.length zac2)
  subst hu
  exact ⟨rfl, ⟨b, rfl, ya2, yac2, za2, zac2, hz, (htb.same hS).weaken fun _ _ _ => trivial⟩, ⟨ya, yac, za, zac, (hL.block _ (by omega)).trans hone, ((hta.same (fun k hk hlt => hca.block k hlt)).same hS2).weaken fun _ _ _ => trivial⟩, hb.trans (hL.mono (by omega))⟩
theorem two_c {W1 wa wc : World} {n : Nat} {t u : T} {ya za ya2 za2 : Option Addr} {yac zac yac2 zac2 : Nat} (hb : Below W1.heap.size W1 wc) (hone : wc.heap[wa.heap.size]? = some (.cells #[.int .i64 t.kind, .string t.text, .float .f64 t.num, .bool t.yes, .slice ya t.keys.length yac, .slice za t.kids.length zac] 26 (0, 0)))
    (hta : TreeAt wa (fun k => k < wa.heap.size) (.agg #[.int .i64 t.kind, .string t.text, .float .f64 t.num, .bool t.yes, .slice ya t.keys.length yac, .slice za t.kids.length zac]) t) (hca : Below wa.heap.size wa wc) (htb : TreeAt wc (newB n) (.agg #[.int .i64 u.kind, .string u.text, .float .f64 u.num, .bool u.yes, .slice ya2 u.keys.length yac2, .slice za2 u.kids.length zac2]) u) (hu : u = t) :
    Cut6 W1 wa.heap.size t (.pointer (some ⟨wc.heap.size, 0, none⟩)) (.bool true) (wc.alloc (.cells #[.int .i64 u.kind, .string u.text, .float .f64 u.num, .bool u.yes, .slice ya2 u.keys.length yac2, .slice za2 u.kids.length zac2] 26 (0, 0))) := by
  have hal : Below wc.heap.size wc (wc.alloc (.cells #[.int .i64 u.kind, .string u.text, .float .f64 u.num, .bool u.yes, .slice ya2 u.keys.length yac2, .slice za2 u.kids.length zac2] 26 (0, 0))) := (Below.refl _ _).alloc (Nat.le_refl _) _
  subst hu
  exact ⟨rfl, ⟨_, rfl, ya2, yac2, za2, zac2, heap_alloc_new _ _, (htb.same (Same.of_below hal)).weaken fun _ _ _ => trivial⟩, ⟨ya, yac, za, zac, (hal.block _ (lt_of_block hone)).trans hone, ((hta.same (fun k hk hlt => hca.block k hlt)).same (Same.of_below hal)).weaken fun _ _ _ => trivial⟩, hb.alloc hb.size _⟩

/-- What impl.MultiMatch comes to, said once. -/
def MMOk (W : World) (ok : Nat → Prop) (text : T) (fields : List ByteArray) (ss : List S) (R : T → Prop) : Prop :=
  ∀ (w : World) (vt vf vs : Value), Below W.heap.size W w → TreeAt w ok vt text → StrsAt w ok vf fields → SetsAt w ok vs ss → Calls Tryz.prog 16 #[vt, vf, vs] w (RetTold w R)

set_option maxHeartbeats 8000000 in
set_option maxRecDepth 100000 in
theorem law_3 {W : World} {ok : Nat → Prop} (hok : ∀ k, W.heap.size ≤ k → ok k) {vt vf vs : Value} {text : T} {fields : List ByteArray} {ss : List S} (ht : TreeAt W ok vt text) (hf : StrsAt W ok vf fields) (hs : SetsAt W ok vs ss)
    (h1 : text.keys.length ≤ 1048576) (h2 : fields.length ≤ 1048576) (h3 : ss.length ≤ 1048576) (h4 : ∀ f ∈ fields, f.size ≤ 1048576) (h5 : ∀ s ∈ ss, s.value.text.size ≤ 1048576)
    (t0 : T) (hw : wT t0 ≤ 1073741824) (hss : sameB t0 t0 = true)
    (H1 : scalarT text = true → fitsB MM ss = true → fieldsB (fieldNames fields ss) = true → MMOk W ok text fields ss (fun t => t = t0))
    (H2 : scalarT text = true → fitsB MM ss = true → distinctB ss = true → (fieldNames [] ss).length ≤ 1 → fieldsB (fieldNames fields ss) = true → MMOk W ok text fields ss.reverse (fun t => t = t0)) :
    Calls Tryz.prog 3 #[vt, vf, vs] W (RetBool W true) := by
  have HT := hide ht
  have HF := hide hf
  have HS := hide hs
  have HOK := hide hok
  have H4 := hide h4
  have H5 := hide h5
  have HH1 := hide H1
  have HH2 := hide H2
  have HSS := hide hss
  obtain ⟨ka, kc, ta, tc, cc, rfl, -⟩ := ht.open
  obtain ⟨fa, fc, rfl, hfc, -⟩ := hf
  obtain ⟨sa, sc, scc, rfl, hsc, -⟩ := hs
  clear ht hok h4 h5 H1 H2 hss
  obtain ⟨W1, hW1⟩ : ∃ x, x = W.alloc (.cells #[.int .i64 text.kind, .string text.text, .float .f64 text.num, .bool text.yes, .slice ka text.keys.length kc, .slice ta text.kids.length tc] 26 (0, 0)) := ⟨_, rfl⟩
  have B01 : Hid (Below W.heap.size W W1) := hide (by rw [hW1]; go_grown)
  have S1 : W1.heap.size = W.heap.size + 1 := by rw [hW1]; simp
  have hS1 : W.heap.size + 1 ≤ W1.heap.size := by omega
  have hbx1 : Hid (W1.heap[W.heap.size]? = some (.cells #[.int .i64 text.kind, .string text.text, .float .f64 text.num, .bool text.yes, .slice ka text.keys.length kc, .slice ta text.kids.length tc] 26 (0, 0))) := hide (by rw [hW1]; exact heap_alloc_new _ _)
  have HW1 := hide hW1
  have hlen : ¬ (2147483647 : Int) < (ss.length : Int) := by omega
  clear hW1 S1
  go_enter Tryz.func3, Tryz.ntmps3
  go_wp2_with fail
  rw [← HW1.out]
  refine (fits5_any ok text _ _ (HT.out.same (Same.of_below B01.out)) (by omega)).mono ?_
  rintro e w1 ⟨b1, rfl, hb1⟩
  cases b1

  · go_wp2_with fail
    go_returns
    exact ⟨rfl, B01.out.trans (hb1.mono B01.out.size)⟩
  go_wp2_with fail
  refine (fits1_any ok fields _ _ ((HF.out.same (Same.of_below B01.out)).same (Same.of_below hb1)) (by omega)).mono ?_
  rintro e w1b ⟨b2, rfl, rfl⟩
  cases b2
  · go_wp2_with fail
    go_returns
    exact ⟨rfl, B01.out.trans (hb1.mono B01.out.size)⟩
  have HB := hide hb1
  have hsz := hb1.size
  have x0 : w1b.cell? ⟨W.heap.size, 0, none⟩ = some (.int .i64 text.kind) := by rw [cell_of_row w1b _ 0 _ _ _ ((hb1.block _ (by omega)).trans hbx1.out)]; rfl
  have x1 : w1b.cell? ⟨W.heap.size, 1, none⟩ = some (.string text.text) := by rw [cell_of_row w1b _ 1 _ _ _ ((hb1.block _ (by omega)).trans hbx1.out)]; rfl
  have x2 : w1b.cell? ⟨W.heap.size, 2, none⟩ = some (.float .f64 text.num) := by rw [cell_of_row w1b _ 2 _ _ _ ((hb1.block _ (by omega)).trans hbx1.out)]; rfl
  have x3 : w1b.cell? ⟨W.heap.size, 3, none⟩ = some (.bool text.yes) := by rw [cell_of_row w1b _ 3 _ _ _ ((hb1.block _ (by omega)).trans hbx1.out)]; rfl
  have x4 : w1b.cell? ⟨W.heap.size, 4, none⟩ = some (.slice ka text.keys.length kc) := by rw [cell_of_row w1b _ 4 _ _ _ ((hb1.block _ (by omega)).trans hbx1.out)]; rfl
  have x5 : w1b.cell? ⟨W.heap.size, 5, none⟩ = some (.slice ta text.kids.length tc) := by rw [cell_of_row w1b _ 5 _ _ _ ((hb1.block _ (by omega)).trans hbx1.out)]; rfl
  clear hb1
  go_upto_region 3 with fail
  have HTx := hide (fun (w : World) (hb : Below W1.heap.size W1 w) => (HT.out.same (Same.of_below B01.out)).same (Same.of_below (w' := w) hb))
  have HFx := hide (fun (w : World) (hb : Below W1.heap.size W1 w) => (HF.out.same (Same.of_below B01.out)).same (Same.of_below (w' := w) hb))
  have HSx := hide (fun (w : World) (hb : Below W1.heap.size W1 w) => (HS.out.same (Same.of_below B01.out)).same (Same.of_below (w' := w) hb))
  go_cut [55] from 24 to 55 (fun t55 wx => Below W1.heap.size W1 wx ∧ (t55 = .bool true ∨ (t55 = .bool false ∧ scalarT text = true ∧ distinctB ss = true ∧ fitsB MM ss = true ∧ fieldsB (fieldNames fields ss) = true ∧ (fieldNames [] ss).length ≤ 1)))
  case first =>
    go_wp2_with fail
    refine (scalar_any ok text _ _ (HTx.out _ HB.out)).mono ?_
    cases hsc1 : scalarT text
    · rintro e w2 ⟨rfl, hb2⟩
      have hb2' := HB.out.trans (hb2.mono hsz)
      go_wp2_with fail
      go_meet
      exact ⟨hb2', Or.inl rfl⟩
    rintro e w2 ⟨rfl, hb2⟩
    have hb2' := HB.out.trans (hb2.mono hsz)
    have hsz2 := hb2'.size
    have HB2 := hide hb2'
    clear hb2 hb2' HB
    go_wp2_with fail
    refine (distinct_any ok ss _ _ (HSx.out _ HB2.out) (by omega)).mono ?_
    cases hdis : distinctB ss
    · rintro e w3 ⟨rfl, hb3⟩
      have hb3' := HB2.out.trans (hb3.mono hsz2)
      go_wp2_with fail
      go_meet
      exact ⟨hb3', Or.inl rfl⟩
    rintro e w3 ⟨rfl, hb3⟩
    have hb3' := HB2.out.trans (hb3.mono hsz2)
    have hsz3 := hb3'.size
    have HB3 := hide hb3'
    clear hb3 hb3' HB2
    go_wp2_with fail
    refine (fits_any MM MM_ok ok ss _ _ (HSx.out _ HB3.out) (by omega) (fun s hs => by have := H5.out s hs; unfold maxLen; omega)).mono ?_
    cases hfit : fitsB MM ss
    · rintro e w4 ⟨rfl, hb4⟩
      have hb4' := HB3.out.trans (hb4.mono hsz3)
      go_wp2_with fail
      go_meet
      exact ⟨hb4', Or.inl rfl⟩
    rintro e w4 ⟨rfl, hb4⟩
    have hb4' := HB3.out.trans (hb4.mono hsz3)
    have hsz4 := hb4'.size
    have HB4 := hide hb4'
    clear hb4 hb4' HB3
    go_wp2_with fail
    refine (is_any ok ss _ (bs [116, 121, 112, 101]) _ (HSx.out _ HB4.out) (by omega)).mono ?_
    cases hty : (lastS ss (bs [116, 121, 112, 101])).isSome
    case' true =>
      rintro e w4b ⟨rfl, hb5⟩
      have hb5' := HB4.out.trans (hb5.mono hsz4)
      have hsz5 := hb5'.size
      have HB5 := hide hb5'
      clear hb5 hb5'
      go_wp2_with fail
      refine (is_any ok ss _ (bs [116, 105, 101, 95, 98, 114, 101, 97, 107, 101, 114]) _ (HSx.out _ HB5.out) (by omega)).mono ?_
      cases htie : (lastS ss (bs [116, 105, 101, 95, 98, 114, 101, 97, 107, 101, 114])).isSome
      case true =>
        rintro e w6 ⟨rfl, hb6⟩
        have hb6' := HB5.out.trans (hb6.mono hsz5)
        go_wp2_with fail
        go_meet
        exact ⟨hb6', Or.inl rfl⟩
      rintro e w5 ⟨rfl, hb6⟩
      have HB6 := hide (HB5.out.trans (hb6.mono hsz5))
      clear hb6 htie HB5 hsz5
    case' false =>
      rintro e w5 ⟨rfl, hb6⟩
      have HB6 := hide (HB4.out.trans (hb6.mono hsz4))
      clear hb6
    all_goals
      clear HB4 hsz4 hty
      have hsz5 := HB6.out.size
      go_wp2_with fail
      refine (fieldNames_any (fun _ => True) fields ss _ _ _ (fun _ _ => trivial) ((HFx.out _ HB6.out).weaken fun _ _ _ => trivial) ((HSx.out _ HB6.out).weaken fun _ _ _ => trivial) (by omega) (by omega)).mono ?_
      rintro e w7 ⟨v7, rfl, hv7, hb7⟩
      have hb7' := HB6.out.trans (hb7.mono hsz5)
      have hsz7 := hb7'.size
      have HB7 := hide hb7'
      have HV7 := hide hv7
      have HFN : Hid ((fieldNames fields ss).length ≤ 1073741824 ∧ ∀ k ∈ fieldNames fields ss, k.size ≤ maxLen) := hide (names_small h2 h3 H4.out H5.out)
      clear hb7 hb7' HB6 hsz5
      obtain ⟨a7, c7, rfl, -, -⟩ := hv7
      go_wp2_with fail
      refine (fields_any (fun _ => True) _ _ _ HV7.out HFN.out.1 HFN.out.2).mono ?_
      cases hfl : fieldsB (fieldNames fields ss)
      · rintro e w8 ⟨rfl, hb8⟩
        have hb8' := HB7.out.trans (hb8.mono hsz7)
        go_wp2_with fail
        go_meet
        exact ⟨hb8', Or.inl rfl⟩
      rintro e w8 ⟨rfl, hb8⟩
      have hb8' := HB7.out.trans (hb8.mono hsz7)
      have hsz8 := hb8'.size
      have HB8 := hide hb8'
      clear hb8 hb8' HB7 HV7 hsz7
      go_wp2_with fail
      refine (fieldNames_any (fun _ => True) [] ss (.slice none 0 0) _ _ (fun _ _ => trivial) ⟨none, 0, rfl, Nat.le_refl _, fun i k h => by simp at h⟩ ((HSx.out _ HB8.out).weaken fun _ _ _ => trivial) (by simp) (by omega)).mono ?_
      rintro e w9 ⟨v9, rfl, hv9, hb9⟩
      have hb9' := HB8.out.trans (hb9.mono hsz8)
      have hsz9 := hb9'.size
      have HB9 := hide hb9'
      clear hb9 hb9' HB8 hsz8
      obtain ⟨a9, c9, rfl, -, -⟩ := hv9
      cases hle : decide (((fieldNames [] ss).length : Int) ≤ 1)
      case false =>
        go_wp2_with fail
        go_meet
        exact ⟨HB9.out, Or.inl rfl⟩
      go_wp2_with fail
      go_meet
      exact ⟨HB9.out, Or.inr ⟨rfl, hsc1, hdis, hfit, hfl, by have := of_decide_eq_true hle; omega⟩⟩
  case rest =>
    obtain ⟨hb9, hc9⟩ := hcut
    have HB9 := hide hb9
    have hsz9 := hb9.size
    clear hb9 HB
    rcases hc9 with rfl | ⟨rfl, hsc1, hdis, hfit, hfl, hle1⟩
    · go_wp2_with fail
      go_returns
      exact ⟨rfl, B01.out.trans (HB9.out.mono B01.out.size)⟩
    have HLE : Hid ((fieldNames [] ss).length ≤ 1) := hide hle1
    have y0 : wc.cell? ⟨W.heap.size, 0, none⟩ = some (.int .i64 text.kind) := (by rw [cell_of_row wc _ 0 _ _ _ ((HB9.out.block _ (by omega)).trans hbx1.out)]; rfl)
    have y1 : wc.cell? ⟨W.heap.size, 1, none⟩ = some (.string text.text) := (by rw [cell_of_row wc _ 1 _ _ _ ((HB9.out.block _ (by omega)).trans hbx1.out)]; rfl)
    have y2 : wc.cell? ⟨W.heap.size, 2, none⟩ = some (.float .f64 text.num) := (by rw [cell_of_row wc _ 2 _ _ _ ((HB9.out.block _ (by omega)).trans hbx1.out)]; rfl)
    have y3 : wc.cell? ⟨W.heap.size, 3, none⟩ = some (.bool text.yes) := (by rw [cell_of_row wc _ 3 _ _ _ ((HB9.out.block _ (by omega)).trans hbx1.out)]; rfl)
    have y4 : wc.cell? ⟨W.heap.size, 4, none⟩ = some (.slice ka text.keys.length kc) := (by rw [cell_of_row wc _ 4 _ _ _ ((HB9.out.block _ (by omega)).trans hbx1.out)]; rfl)
    have y5 : wc.cell? ⟨W.heap.size, 5, none⟩ = some (.slice ta text.kids.length tc) := (by rw [cell_of_row wc _ 5 _ _ _ ((HB9.out.block _ (by omega)).trans hbx1.out)]; rfl)
    go_wp2_with fail
    refine (HH1.out hsc1 hfit hfl _ _ _ _ (B01.out.trans (HB9.out.mono B01.out.size)) (HTx.out _ HB9.out) (HFx.out _ HB9.out) (HSx.out _ HB9.out)).mono ?_
    rintro e wa ⟨va, ta1, rfl, hta, rfl, hba⟩
    have hba' := HB9.out.trans (hba.mono hsz9)
    have hsza := hba'.size
    have HBa := hide hba'
    have HTA := hide hta
    obtain ⟨ya, yac, za, zac, cca, rfl, -⟩ := hta.open
    clear hba hba' hta
    go_wp2_with fail
    have hbxa : (wa.alloc (.cells #[.int .i64 ta1.kind, .string ta1.text, .float .f64 ta1.num, .bool ta1.yes, .slice ya ta1.keys.length yac, .slice za ta1.kids.length zac] 26 (0, 0))).heap[W.heap.size]? = some (.cells #[.int .i64 text.kind, .string text.text, .float .f64 text.num, .bool text.yes, .slice ka text.keys.length kc, .slice ta text.kids.length tc] 26 (0, 0)) := ((HBa.out.alloc hsza _).block _ (by omega)).trans hbx1.out
    have z0 : (wa.alloc (.cells #[.int .i64 ta1.kind, .string ta1.text, .float .f64 ta1.num, .bool ta1.yes, .slice ya ta1.keys.length yac, .slice za ta1.kids.length zac] 26 (0, 0))).cell? ⟨W.heap.size, 0, none⟩ = some (.int .i64 text.kind) := (by rw [cell_of_row (wa.alloc (.cells #[.int .i64 ta1.kind, .string ta1.text, .float .f64 ta1.num, .bool ta1.yes, .slice ya ta1.keys.length yac, .slice za ta1.kids.length zac] 26 (0, 0))) _ 0 _ _ _ (hbxa)]; rfl); have z1 : (wa.alloc (.cells #[.int .i64 ta1.kind, .string ta1.text, .float .f64 ta1.num, .bool ta1.yes, .slice ya ta1.keys.length yac, .slice za ta1.kids.length zac] 26 (0, 0))).cell? ⟨W.heap.size, 1, none⟩ = some (.string text.text) := (by rw [cell_of_row (wa.alloc (.cells #[.int .i64 ta1.kind, .string ta1.text, .float .f64 ta1.num, .bool ta1.yes, .slice ya ta1.keys.length yac, .slice za ta1.kids.length zac] 26 (0, 0))) _ 1 _ _ _ (hbxa)]; rfl); have z2 : (wa.alloc (.cells #[.int .i64 ta1.kind, .string ta1.text, .float .f64 ta1.num, .bool ta1.yes, .slice ya ta1.keys.length yac, .slice za ta1.kids.length zac] 26 (0, 0))).cell? ⟨W.heap.size, 2, none⟩ = some (.float .f64 text.num) := (by rw [cell_of_row (wa.alloc (.cells #[.int .i64 ta1.kind, .string ta1.text, .float .f64 ta1.num, .bool ta1.yes, .slice ya ta1.keys.length yac, .slice za ta1.kids.length zac] 26 (0, 0))) _ 2 _ _ _ (hbxa)]; rfl); have z3 : (wa.alloc (.cells #[.int .i64 ta1.kind, .string ta1.text, .float .f64 ta1.num, .bool ta1.yes, .slice ya ta1.keys.length yac, .slice za ta1.kids.length zac] 26 (0, 0))).cell? ⟨W.heap.size, 3, none⟩ = some (.bool text.yes) := (by rw [cell_of_row (wa.alloc (.cells #[.int .i64 ta1.kind, .string ta1.text, .float .f64 ta1.num, .bool ta1.yes, .slice ya ta1.keys.length yac, .slice za ta1.kids.length zac] 26 (0, 0))) _ 3 _ _ _ (hbxa)]; rfl); have z4 : (wa.alloc (.cells #[.int .i64 ta1.kind, .string ta1.text, .float .f64 ta1.num, .bool ta1.yes, .slice ya ta1.keys.length yac, .slice za ta1.kids.length zac] 26 (0, 0))).cell? ⟨W.heap.size, 4, none⟩ = some (.slice ka text.keys.length kc) := (by rw [cell_of_row (wa.alloc (.cells #[.int .i64 ta1.kind, .string ta1.text, .float .f64 ta1.num, .bool ta1.yes, .slice ya ta1.keys.length yac, .slice za ta1.kids.length zac] 26 (0, 0))) _ 4 _ _ _ (hbxa)]; rfl); have z5 : (wa.alloc (.cells #[.int .i64 ta1.kind, .string ta1.text, .float .f64 ta1.num, .bool ta1.yes, .slice ya ta1.keys.length yac, .slice za ta1.kids.length zac] 26 (0, 0))).cell? ⟨W.heap.size, 5, none⟩ = some (.slice ta text.kids.length tc) := (by rw [cell_of_row (wa.alloc (.cells #[.int .i64 ta1.kind, .string ta1.text, .float .f64 ta1.num, .bool ta1.yes, .slice ya ta1.keys.length yac, .slice za ta1.kids.length zac] 26 (0, 0))) _ 5 _ _ _ (hbxa)]; rfl)
    have hlt6 : W.heap.size < wa.heap.size := by omega
    have HBal := hide (HBa.out.alloc hsza (.cells #[.int .i64 ta1.kind, .string ta1.text, .float .f64 ta1.num, .bool ta1.yes, .slice ya ta1.keys.length yac, .slice za ta1.kids.length zac] 26 (0, 0)))
    have hokw : ∀ k, (wa.alloc (.cells #[.int .i64 ta1.kind, .string ta1.text, .float .f64 ta1.num, .bool ta1.yes, .slice ya ta1.keys.length yac, .slice za ta1.kids.length zac] 26 (0, 0))).heap.size ≤ k → ok k := fun k hk => HOK.out k (by simp at hk; omega)
    have HOKW := hide hokw
    clear hbxa hokw
    have HTA3 : Hid (TreeAt wa (fun k => k < wa.heap.size) (.agg #[.int .i64 ta1.kind, .string ta1.text, .float .f64 ta1.num, .bool ta1.yes, .slice ya ta1.keys.length yac, .slice za ta1.kids.length zac]) ta1) := hide (HTA.out.weaken fun k _ h => h)
    go_cut [9, 10] from 63 to 70 (fun t9 t10 wx => Cut6 W1 wa.heap.size ta1 t9 t10 wx)
    case first =>
      go_region_law (first | (go_simp; go_at_call 17; refine Calls.mono (back_any ok ss _ _ (fun k hk => HOK.out k (by simp at hk; omega)) (HSx.out _ (by first | exact HBal.out.drew | exact (HBal.out.alloc HBal.out.size _).drew)) (by omega)) ?_; rintro e wb ⟨vb, rfl, hvb, hbb⟩; have HVB := hide hvb; have HBB : Hid (Below (wa.alloc (.cells #[.int .i64 ta1.kind, .string ta1.text, .float .f64 ta1.num, .bool ta1.yes, .slice ya ta1.keys.length yac, .slice za ta1.kids.length zac] 26 (0, 0))).heap.size (wa.alloc (.cells #[.int .i64 ta1.kind, .string ta1.text, .float .f64 ta1.num, .bool ta1.yes, .slice ya ta1.keys.length yac, .slice za ta1.kids.length zac] 26 (0, 0))) wb) := hide (by first | exact (Below.refl _ _).drew.trans hbb | exact ((Below.refl _ _).alloc (Nat.le_refl _) _).drew.trans (hbb.mono (by simp))); have HBb := hide (HBal.out.trans (HBB.out.mono HBal.out.size)); have hszb := HBb.out.size; have hszb2 := HBB.out.size; have q0 : wb.cell? ⟨W.heap.size, 0, none⟩ = some (.int .i64 text.kind) := (by rw [cell_of_row wb _ 0 _ _ _ ((HBb.out.block _ (by omega)).trans hbx1.out)]; rfl); have q1 : wb.cell? ⟨W.heap.size, 1, none⟩ = some (.string text.text) := (by rw [cell_of_row wb _ 1 _ _ _ ((HBb.out.block _ (by omega)).trans hbx1.out)]; rfl); have q2 : wb.cell? ⟨W.heap.size, 2, none⟩ = some (.float .f64 text.num) := (by rw [cell_of_row wb _ 2 _ _ _ ((HBb.out.block _ (by omega)).trans hbx1.out)]; rfl); have q3 : wb.cell? ⟨W.heap.size, 3, none⟩ = some (.bool text.yes) := (by rw [cell_of_row wb _ 3 _ _ _ ((HBb.out.block _ (by omega)).trans hbx1.out)]; rfl); have q4 : wb.cell? ⟨W.heap.size, 4, none⟩ = some (.slice ka text.keys.length kc) := (by rw [cell_of_row wb _ 4 _ _ _ ((HBb.out.block _ (by omega)).trans hbx1.out)]; rfl); have q5 : wb.cell? ⟨W.heap.size, 5, none⟩ = some (.slice ta text.kids.length tc) := (by rw [cell_of_row wb _ 5 _ _ _ ((HBb.out.block _ (by omega)).trans hbx1.out)]; rfl); have qa0 : ∀ o, (wb.alloc o).cell? ⟨W.heap.size, 0, none⟩ = some (.int .i64 text.kind) := fun o => (World.cell?_alloc_lt _ _ _ (World.block_lt_of_cell? _ _ q0)).trans q0; have qa1 : ∀ o, (wb.alloc o).cell? ⟨W.heap.size, 1, none⟩ = some (.string text.text) := fun o => (World.cell?_alloc_lt _ _ _ (World.block_lt_of_cell? _ _ q1)).trans q1; have qa2 : ∀ o, (wb.alloc o).cell? ⟨W.heap.size, 2, none⟩ = some (.float .f64 text.num) := fun o => (World.cell?_alloc_lt _ _ _ (World.block_lt_of_cell? _ _ q2)).trans q2; have qa3 : ∀ o, (wb.alloc o).cell? ⟨W.heap.size, 3, none⟩ = some (.bool text.yes) := fun o => (World.cell?_alloc_lt _ _ _ (World.block_lt_of_cell? _ _ q3)).trans q3; have qa4 : ∀ o, (wb.alloc o).cell? ⟨W.heap.size, 4, none⟩ = some (.slice ka text.keys.length kc) := fun o => (World.cell?_alloc_lt _ _ _ (World.block_lt_of_cell? _ _ q4)).trans q4; have qa5 : ∀ o, (wb.alloc o).cell? ⟨W.heap.size, 5, none⟩ = some (.slice ta text.kids.length tc) := fun o => (World.cell?_alloc_lt _ _ _ (World.block_lt_of_cell? _ _ q5)).trans q5; (first | (have hz9 : wb.heap[wa.heap.size + 1]? = some (.cells #[.int .i64 0, .string ⟨#[]⟩, .float .f64 0, .bool false, .slice none 0 0, .slice none 0 0] 26 (0, 0)) := (hbb.block _ (by simp)).trans (heap_alloc_two _ _ _); have HZ9 := hide hz9; clear hz9) | skip); clear hvb hbb) | (go_simp; go_at_call 16; refine Calls.mono (HH2.out hsc1 hfit hdis HLE.out hfl _ _ _ _ (B01.out.trans ((show Below W1.heap.size W1 _ by first | exact HBb.out | exact HBb.out.alloc hszb _).mono B01.out.size)) (HTx.out _ (by first | exact HBb.out | exact HBb.out.alloc hszb _)) (HFx.out _ (by first | exact HBb.out | exact HBb.out.alloc hszb _)) (by first | exact HVB.out | exact HVB.out.same (Same.of_below ((Below.refl _ _).alloc (Nat.le_refl _) _)))) ?_; rintro e wc ⟨vc, tb1, rfl, htb, htbe, hbc⟩; obtain ⟨ya2, yac2, za2, zac2, cca2, rfl, -⟩ := htb.open; have HTB := hide htb; have HTBE := hide htbe; have HBC : Hid (Below wb.heap.size wb wc) := hide (by first | exact hbc | exact ((Below.refl _ _).alloc (Nat.le_refl _) _).trans (hbc.mono (by simp))); have HBc := hide (HBb.out.trans (HBC.out.mono hszb)); have hszc := HBc.out.size; have hszc2 := HBC.out.size; have hone : Hid (wc.heap[wa.heap.size]? = some (.cells #[.int .i64 ta1.kind, .string ta1.text, .float .f64 ta1.num, .bool ta1.yes, .slice ya ta1.keys.length yac, .slice za ta1.kids.length zac] 26 (0, 0))) := hide ((HBC.out.block _ (by simp at hszb2; omega)).trans ((HBB.out.block _ (by simp)).trans (heap_alloc_new _ _))); (first | (have hz8 : wc.heap[wa.heap.size + 1]? = some (.cells #[.int .i64 0, .string ⟨#[]⟩, .float .f64 0, .bool false, .slice none 0 0, .slice none 0 0] 26 (0, 0)) := (HBC.out.block _ (lt_of_block HZ9.out)).trans HZ9.out; have hf8 : ∀ j, wc.frozen? ⟨wa.heap.size + 1, j, none⟩ = false := fun j => frozen_of_row wc _ j _ _ hz8; have u0 : wc.cell? ⟨wa.heap.size + 1, 0, none⟩ = some (.int .i64 0) := (by rw [cell_of_row wc _ 0 _ _ _ (hz8)]; rfl); have u1 : wc.cell? ⟨wa.heap.size + 1, 1, none⟩ = some (.string ⟨#[]⟩) := (by rw [cell_of_row wc _ 1 _ _ _ (hz8)]; rfl); have u2 : wc.cell? ⟨wa.heap.size + 1, 2, none⟩ = some (.float .f64 0) := (by rw [cell_of_row wc _ 2 _ _ _ (hz8)]; rfl); have u3 : wc.cell? ⟨wa.heap.size + 1, 3, none⟩ = some (.bool false) := (by rw [cell_of_row wc _ 3 _ _ _ (hz8)]; rfl); have u4 : wc.cell? ⟨wa.heap.size + 1, 4, none⟩ = some (.slice none 0 0) := (by rw [cell_of_row wc _ 4 _ _ _ (hz8)]; rfl); have u5 : wc.cell? ⟨wa.heap.size + 1, 5, none⟩ = some (.slice none 0 0) := (by rw [cell_of_row wc _ 5 _ _ _ (hz8)]; rfl); have HZ8 := hide hz8; clear hz8) | (have hz8 : wc.heap[wb.heap.size]? = some (.cells #[.int .i64 0, .string ⟨#[]⟩, .float .f64 0, .bool false, .slice none 0 0, .slice none 0 0] 26 (0, 0)) := (hbc.block _ (by simp)).trans (heap_alloc_new _ _); have hf8 : ∀ j, wc.frozen? ⟨wb.heap.size, j, none⟩ = false := fun j => frozen_of_row wc _ j _ _ hz8; have u0 : wc.cell? ⟨wb.heap.size, 0, none⟩ = some (.int .i64 0) := (by rw [cell_of_row wc _ 0 _ _ _ (hz8)]; rfl); have u1 : wc.cell? ⟨wb.heap.size, 1, none⟩ = some (.string ⟨#[]⟩) := (by rw [cell_of_row wc _ 1 _ _ _ (hz8)]; rfl); have u2 : wc.cell? ⟨wb.heap.size, 2, none⟩ = some (.float .f64 0) := (by rw [cell_of_row wc _ 2 _ _ _ (hz8)]; rfl); have u3 : wc.cell? ⟨wb.heap.size, 3, none⟩ = some (.bool false) := (by rw [cell_of_row wc _ 3 _ _ _ (hz8)]; rfl); have u4 : wc.cell? ⟨wb.heap.size, 4, none⟩ = some (.slice none 0 0) := (by rw [cell_of_row wc _ 4 _ _ _ (hz8)]; rfl); have u5 : wc.cell? ⟨wb.heap.size, 5, none⟩ = some (.slice none 0 0) := (by rw [cell_of_row wc _ 5 _ _ _ (hz8)]; rfl); have HZ8 := hide hz8; clear hz8) | skip); clear htb htbe hbc))
      all_goals
        have HBca : Hid (Below wa.heap.size wa wc) := hide ((((Below.refl _ _).alloc (Nat.le_refl _) _).trans (HBB.out.mono (by simp))).trans (HBC.out.mono (by simp at hszb2; omega)))
        first
          | have P := hide (two_ab HZ8.out HBc.out hsza hone.out HTA3.out HBca.out HTB.out HTBE.out (by first | omega | (simp at hszb2; omega) | (simp at hszb2 ⊢; omega)) (by first | exact lt_of_block HZ9.out | omega | (simp; done) | (simp at hszb2; omega) | (simp at hszb2 ⊢; omega)))
          | have P := hide (two_c HBc.out hone.out HTA3.out HBca.out HTB.out HTBE.out)
        try clear HZ8
        go_wp2_with fail
        go_meet
        with_reducible exact P.out
    case rest =>
      clear HBal HOKW
      obtain ⟨rfl, ⟨b2, rfl, ya2, yac2, za2, zac2, hz2, htb2⟩, ⟨ya1, yac1, za1, zac1, hz1, hta1⟩, hbx⟩ := hcut
      have m0 : wc.cell? ⟨wa.heap.size, 0, none⟩ = some (.int .i64 ta1.kind) := (by rw [cell_of_row wc _ 0 _ _ _ hz1]; rfl)
      have m1 : wc.cell? ⟨wa.heap.size, 1, none⟩ = some (.string ta1.text) := (by rw [cell_of_row wc _ 1 _ _ _ hz1]; rfl)
      have m2 : wc.cell? ⟨wa.heap.size, 2, none⟩ = some (.float .f64 ta1.num) := (by rw [cell_of_row wc _ 2 _ _ _ hz1]; rfl)
      have m3 : wc.cell? ⟨wa.heap.size, 3, none⟩ = some (.bool ta1.yes) := (by rw [cell_of_row wc _ 3 _ _ _ hz1]; rfl)
      have m4 : wc.cell? ⟨wa.heap.size, 4, none⟩ = some (.slice ya1 ta1.keys.length yac1) := (by rw [cell_of_row wc _ 4 _ _ _ hz1]; rfl)
      have m5 : wc.cell? ⟨wa.heap.size, 5, none⟩ = some (.slice za1 ta1.kids.length zac1) := (by rw [cell_of_row wc _ 5 _ _ _ hz1]; rfl)
      have n0 : wc.cell? ⟨b2, 0, none⟩ = some (.int .i64 ta1.kind) := (by rw [cell_of_row wc _ 0 _ _ _ hz2]; rfl)
      have n1 : wc.cell? ⟨b2, 1, none⟩ = some (.string ta1.text) := (by rw [cell_of_row wc _ 1 _ _ _ hz2]; rfl)
      have n2 : wc.cell? ⟨b2, 2, none⟩ = some (.float .f64 ta1.num) := (by rw [cell_of_row wc _ 2 _ _ _ hz2]; rfl)
      have n3 : wc.cell? ⟨b2, 3, none⟩ = some (.bool ta1.yes) := (by rw [cell_of_row wc _ 3 _ _ _ hz2]; rfl)
      have n4 : wc.cell? ⟨b2, 4, none⟩ = some (.slice ya2 ta1.keys.length yac2) := (by rw [cell_of_row wc _ 4 _ _ _ hz2]; rfl)
      have n5 : wc.cell? ⟨b2, 5, none⟩ = some (.slice za2 ta1.kids.length zac2) := (by rw [cell_of_row wc _ 5 _ _ _ hz2]; rfl)
      have HTA1 := hide hta1
      have HTB2 := hide htb2
      have HBX := hide hbx
      clear hz1 hz2 hta1 htb2 hbx
      go_wp2_with fail
      refine (same_any 1073741824 ta1 ta1 (Nat.le_refl _) hw _ _ _ _ _ HTA1.out HTB2.out).mono ?_
      rw [HSS.out]
      rintro e w' ⟨rfl, hb'⟩
      go_wp2_with fail
      go_returns
      exact ⟨rfl, (B01.out.trans (HBX.out.mono B01.out.size)).trans (hb'.mono (by have := HBX.out.size; have := B01.out.size; omega))⟩
end Go.Proofs.YtbcnhcpgloncdaaGreatDoor
