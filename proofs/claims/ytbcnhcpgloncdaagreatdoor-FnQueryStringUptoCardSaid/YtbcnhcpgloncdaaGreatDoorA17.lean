/-
  spec.ReadFields.
-/
import Derived.Test.YtbcnhcpgloncdaaGreatDoorA15
import Derived.Test.YtbcnhcpgloncdaaGreatDoorA16
namespace Go.Proofs.YtbcnhcpgloncdaaGreatDoor
open Go.RowKit Go.Sort Go.ChangeMaps Go.MapKept Go.Lib

/-- What ReadFields makes of the entries. -/
noncomputable def readE (E : List (ByteArray × T)) (fs : List ByteArray) (B : List (ByteArray × Nat)) : List (ByteArray × T) := besE [bs nFields] (mapTree E) ++ (if fs = [] then [] else [(bs nFields, fieldsT (fs.map (readOne B)))])

theorem within_one (kind : List UInt8) {X : T} (h : X.kind = 5) : withinT (mapTree [(bs kind, X)]) (bs kind) = some X := by
  unfold withinT
  rw [atT_map, lookL_one, if_pos ((eqB_iff _ _).2 rfl), Option.bind_some]
  rw [if_pos]
  refine ⟨?_, h⟩
  have h1 : (mapTree [(bs kind, X)]).keys.length ≤ 1 := by rw [mapTree_len]; exact Nat.le_trans (mapTree_le _) (by simp)
  have h2 : kind ∈ mapKeys [(bs kind, X)] := by rw [mapKeys_mem, lookL_one, if_pos ((eqB_iff _ _).2 rfl)]; rfl
  have h3 : (mapTree [(bs kind, X)]).keys.length = (mapKeys [(bs kind, X)]).length := by rw [mapTree_keys, List.length_map]
  have := List.length_pos_of_mem h2
  omega
theorem entry_of {E : List (ByteArray × T)} {i : Nat} {key : ByteArray} {y : T} (h1 : (mapTree E).keys[i]? = some key) (h2 : (mapTree E).kids[i]? = some y) : lookL E key = some y := by
  rw [mapTree_keys, List.getElem?_map] at h1
  rw [mapTree_kids, List.getElem?_map] at h2
  cases hi : (mapKeys E)[i]? with
  | none => rw [hi] at h1; cases h1
  | some l =>
    rw [hi] at h1 h2
    have hm := (mapKeys_mem E l).1 (List.mem_of_getElem? hi)
    simp only [Option.map_some, Option.some.injEq] at h1 h2
    subst h1
    cases hq : lookL E (bs l) with
    | none => rw [hq] at hm; cases hm
    | some t => rw [hq] at h2; rw [← h2]; rfl
theorem bes_kids {E : List (ByteArray × T)} {fs : List ByteArray} {B : List (ByteArray × Nat)} (hE : ∀ p ∈ E, (p.2.kind == 0) = false ∧ (p.2.kind == 5) = false ∧ p.2.text.size < 35184372088832 ∧ p.1.size ≤ 9223372036854775807)
    (hf : (fs = [] ∧ (lookL E (bs nFields) = none ∨ lookL E (bs nFields) = some (tList []))) ∨ (fs ≠ [] ∧ lookL E (bs nFields) = some (tList (fs.map (fieldText bText B))))) :
    ∀ (i : Nat) key y, (mapTree E).keys[i]? = some key → (mapTree E).kids[i]? = some y → (y.kind == 0) = false ∧ (hasB [bs nFields] key = true → (y.kind == 4) = true) := by
  intro i key y h1 h2
  have hl := entry_of h1 h2
  refine ⟨(hE _ (lookL_mem hl)).1, fun h => ?_⟩
  have hk : bs nFields = key := by
    have : eqB (bs nFields) key = true := by simpa [hasB] using h
    exact (eqB_iff _ _).1 this
  subst hk
  rw [hl] at hf
  rcases hf with ⟨-, h | h⟩ | ⟨-, h⟩
  · cases h
  · cases h; rfl
  · cases h; rfl
theorem bes_len (ls : List ByteArray) (E : List (ByteArray × T)) : (besE ls (mapTree E)).length ≤ E.length := by
  unfold besE
  refine Nat.le_trans (List.length_filter_le _ _) ?_
  rw [List.length_zip, mapTree_len, Nat.min_self]
  exact mapTree_le E
theorem at_fields {E : List (ByteArray × T)} {fs : List ByteArray} {B : List (ByteArray × Nat)} (hf : (fs = [] ∧ (lookL E (bs nFields) = none ∨ lookL E (bs nFields) = some (tList []))) ∨ (fs ≠ [] ∧ lookL E (bs nFields) = some (tList (fs.map (fieldText bText B))))) :
    atT (mapTree (besE [bs nFields] (mapTree E))) (bs nFields) = if fs = [] then none else some (tList (fs.map (fieldText bText B))) := by
  have hh : hasB [bs nFields] (bs nFields) = true := by unfold hasB; rw [List.any_cons, (eqB_iff _ _).2 rfl]; rfl
  rw [atT_map, lookL_bes, hh]
  rcases hf with ⟨h, h1 | h1⟩ | ⟨h, h1⟩
  · rw [h1, if_pos h]; rfl
  · rw [h1, if_pos h]; rfl
  · rw [h1, if_neg h]
    have : (((tList (fs.map (fieldText bText B))).kids.length : Int) == 0) = false := by
      show ((((fs.map (fieldText bText B)).map tText).length : Int) == 0) = false
      rw [List.length_map, List.length_map]
      have : fs.length ≠ 0 := fun e => h (List.eq_nil_of_length_eq_zero e)
      simpa using h
    simp [Option.filter, this]
theorem bes_entry {ls : List ByteArray} {E : List (ByteArray × T)} {p : ByteArray × T} (h : p ∈ besE ls (mapTree E)) : p ∈ E := by
  unfold besE at h
  have h1 := (List.mem_filter.1 h).1
  obtain ⟨i, hi⟩ := List.getElem?_of_mem h1
  obtain ⟨k, y⟩ := p
  obtain ⟨h2, h3⟩ := (List.getElem?_zip_eq_some (z := (k, y))).1 hi
  exact lookL_mem (entry_of h2 h3)
theorem read_ok {E : List (ByteArray × T)} {fs : List ByteArray} {B : List (ByteArray × Nat)} (hE : ∀ p ∈ E, (p.2.kind == 0) = false ∧ (p.2.kind == 5) = false ∧ p.2.text.size < 35184372088832 ∧ p.1.size ≤ 9223372036854775807) :
    ∀ p ∈ readE E fs B, (p.2.kind == 5) = false ∧ p.2.text.size < 35184372088832 ∧ p.1.size ≤ 9223372036854775807 := by
  intro p hp
  unfold readE at hp
  rcases List.mem_append.1 hp with h | h
  · exact (hE p (bes_entry h)).2
  · split at h
    · cases h
    · obtain rfl : p = _ := by simpa using h
      exact ⟨rfl, by show (⟨#[]⟩ : ByteArray).size < _; decide, by show (bs nFields).size ≤ _; rw [bs_size]; decide⟩
theorem readE_len (E : List (ByteArray × T)) (fs : List ByteArray) (B : List (ByteArray × Nat)) : (readE E fs B).length ≤ E.length + 1 := by
  unfold readE
  rw [List.length_append]
  have := bes_len [bs nFields] E
  split <;> simp <;> omega
theorem caret_is (f : ByteArray) (t : List UInt8) : f ++ ⟨#[94]⟩ ++ bs t = bs (f.data.toList ++ 94 :: t) := by
  apply list_ext
  rw [ByteArray.data_append, ByteArray.data_append, Array.toList_append, Array.toList_append]
  show f.data.toList ++ [94] ++ t = f.data.toList ++ 94 :: t
  rw [List.append_assoc]; rfl
theorem caret_facts {f : ByteArray} {t : List UInt8} (h : placeN f.data.toList 94 = f.size) :
    placeN (f ++ ⟨#[94]⟩ ++ bs t).data.toList 94 = f.size ∧ (f ++ ⟨#[94]⟩ ++ bs t).size = f.size + 1 + t.length ∧ (f ++ ⟨#[94]⟩ ++ bs t).extract 0 f.size = f ∧ (f ++ ⟨#[94]⟩ ++ bs t).extract (f.size + 1) (f.size + 1 + t.length) = bs t := by
  have hl : f.data.toList.length = f.size := by simp
  rw [caret_is]
  refine ⟨?_, ?_, ?_, ?_⟩
  · show List.findIdx _ (f.data.toList ++ 94 :: t) = _
    unfold placeN at h
    rw [List.findIdx_append, h, hl, if_neg (Nat.lt_irrefl _), List.findIdx_cons]
    simp
  · rw [bs_size, List.length_append, List.length_cons, hl]; omega
  · rw [bs_extract, ← hl, List.take_left, List.drop_zero, bs_data]
  · rw [bs_extract, List.take_of_length_le (by rw [List.length_append, List.length_cons, hl]; omega), ← hl, show f.data.toList.length + 1 = f.data.toList.length + 1 from rfl, ← List.drop_drop, List.drop_left]
    rfl

set_option maxHeartbeats 8000000 in
set_option maxRecDepth 100000 in
theorem readFields_any (mm : Bool) (kind : List UInt8) (hK : KindedOK mm kind) (ok : Nat → Prop) (W : World) (v : Value) (E : List (ByteArray × T)) (fs : List ByteArray) (B : List (ByteArray × Nat)) (hok : ∀ k, W.heap.size ≤ k → ok k) (hG : Glob W) (hGP : GlobP W) (hv : TreeAt W ok v (mapTree [(bs kind, mapTree E)]))
    (hk : kind.length ≤ 1000) (hl : fs.length ≤ 2097152) (hEl : E.length ≤ 1000) (hEk : ∀ p ∈ E, (p.2.kind == 0) = false ∧ (p.2.kind == 5) = false ∧ p.2.text.size < 35184372088832 ∧ p.1.size ≤ 9223372036854775807)
    (hf : (fs = [] ∧ (lookL E (bs nFields) = none ∨ lookL E (bs nFields) = some (tList []))) ∨ (fs ≠ [] ∧ lookL E (bs nFields) = some (tList (fs.map (fieldText bText B)))))
    (hfs : ∀ f ∈ fs, placeN f.data.toList 94 = f.size ∧ f.size ≤ 1099511627776) (hB : ∀ p ∈ B, okB p.2) :
    Calls Tryz.prog 20 #[.string (bs kind), v] W (RetTree ok W (mapTree [(bs kind, mapTree (finE mm (readE E fs B)))])) := by
  obtain ⟨t, ht⟩ : ∃ z, z = mapTree [(bs kind, mapTree E)] := ⟨_, rfl⟩
  rw [← ht] at hv
  have HTE := hide ht
  have hv' := hv.weaken (ok' := fun j => ok j ∧ j < W.heap.size) fun k h0 h => ⟨h0, h⟩
  obtain ⟨ka, kac, ta, tac, c, rfl, -⟩ := hv'.open
  have HV := hide hv'
  have HOK := hide hok
  have HG := hide hG
  have HGP := hide hGP
  have HK := hide hK
  have HEK := hide hEk
  have HF := hide hf
  have HFS := hide hfs
  have HBB := hide hB
  obtain ⟨ok1, hok1⟩ : ∃ p : Nat → Prop, p = fun j => ok j ∧ j ≠ W.heap.size + 1 := ⟨_, rfl⟩
  have HOK1 : Hid (∀ k, W.heap.size + 2 ≤ k → ok1 k) := hide (by rw [hok1]; intro k hk; exact ⟨HOK.out k (by omega), by omega⟩)
  have HN1 : Hid (¬ ok1 (W.heap.size + 1)) := hide (by rw [hok1]; intro h; exact h.2 rfl)
  have HOO1 : Hid (∀ k, ok1 k → ok k) := hide (by rw [hok1]; intro k h; exact h.1)
  have HO0 : Hid (∀ k, ok k ∧ k < W.heap.size → ok1 k) := hide (by rw [hok1]; intro k h; exact ⟨h.1, by omega⟩)
  clear hv hv' hok hG hGP hK hEk hf hfs hB hok1 ht
  have HIN : Hid (withinT t (bs kind) = some (mapTree E)) := hide (by rw [HTE.out]; exact within_one kind (mapTree_kind E))
  have HT5 : Hid (t.kind = 5 ∧ t.keys.length = t.kids.length ∧ t.kids.length ≤ 1) := hide (by rw [HTE.out]; exact ⟨mapTree_kind _, mapTree_len _, Nat.le_trans (mapTree_le _) (by simp)⟩)
  go_enter Tryz.func20, Tryz.ntmps20
  go_wp2_with fail
  obtain ⟨Wa, hWa⟩ : ∃ z, z = (W.alloc (.cells #[.int .i64 t.kind, .string t.text, .float .f64 t.num, .bool t.yes, .slice ka t.keys.length kac, .slice ta t.kids.length tac] 26 (0, 0))).alloc (.cells #[.int .i64 0, .string ⟨#[]⟩, .float .f64 0, .bool false, .slice none 0 0, .slice none 0 0] 26 (0, 0)) := ⟨_, rfl⟩
  have hz : Wa.heap.size = W.heap.size + 2 := by rw [hWa]; simp
  have HBa : Hid (Below W.heap.size W Wa) := hide (by rw [hWa]; go_grown)
  have HR0 : Hid (Wa.heap[W.heap.size + 1]? = some (.cells #[.int .i64 0, .string ⟨#[]⟩, .float .f64 0, .bool false, .slice none 0 0, .slice none 0 0] 26 (0, 0))) := hide (by rw [hWa]; exact heap_alloc_two _ _ _)
  rw [← hWa]
  clear hWa
  have HSO : Hid (StrsAt (Wa.alloc (.cells #[.string (bs nFields)] 9 (0, 0))) ok1 (.slice (some ⟨Wa.heap.size, 0, none⟩) 1 1) [bs nFields]) := hide (strs_one (heap_alloc_new Wa _) (HOK1.out _ (by omega)))
  rw [show W.heap.size + 1 + 1 = Wa.heap.size by omega]
  refine (beside_any ok1 (Wa.alloc (.cells #[.string (bs nFields)] 9 (0, 0))) _ _ t (mapTree E) (bs kind) [bs nFields] (fun k hk => HOK1.out k (by simp at hk; omega)) ((HV.out.weaken fun k h _ => HO0.out k h).same (Same.of_below (HBa.out.trans (by go_grown)))) HSO.out (by simp) HT5.out.1 HT5.out.2.1 (by have := HT5.out.2.2; omega) HIN.out (mapTree_len E) (Nat.le_trans (mapTree_le E) (by omega)) (bes_kids HEK.out HF.out)).mono ?_
  rintro e w1 ⟨v1, rfl, ht1, hb1⟩
  obtain ⟨rd, hrd⟩ : ∃ z, z = mapTree [(bs kind, mapTree (besE [bs nFields] (mapTree E)))] := ⟨_, rfl⟩
  rw [← hrd] at ht1
  obtain ⟨r1, r2, r3, r4, c1, rfl, -⟩ := ht1.open
  have HRD := hide hrd
  have HT1 := hide ht1
  have hs1 : W.heap.size + 3 ≤ w1.heap.size := by have := hb1.size; simp at this; omega
  have HB1 : Hid (Below Wa.heap.size Wa w1) := hide (Below.trans (by go_grown) (hb1.mono (by simp)))
  clear hrd ht1 hb1
  have HRD5 : Hid (rd.kind = 5 ∧ rd.keys.length = rd.kids.length ∧ rd.kids.length ≤ 1) := hide (by rw [HRD.out]; exact ⟨mapTree_kind _, mapTree_len _, Nat.le_trans (mapTree_le _) (by simp)⟩)
  have HAT : Hid (atT rd (bs kind) = some (mapTree (besE [bs nFields] (mapTree E)))) := hide (by rw [HRD.out, atT_map, lookL_one, if_pos ((eqB_iff _ _).2 rfl)])
  go_wp2_with fail
  refine (at_any ok1 rd _ (bs kind) _ (HT1.out.same (Same.of_below (by go_grown))) HRD5.out.1 HRD5.out.2.1 (by have := HRD5.out.2.2; omega)).mono ?_
  rintro e w2 ⟨v2, x1, rfl, ht2, hx2, hb2⟩
  rw [HAT.out, show (some (mapTree (besE [bs nFields] (mapTree E)))).isSome = true from rfl]
  obtain rfl : x1 = mapTree (besE [bs nFields] (mapTree E)) := hx2 _ HAT.out
  obtain ⟨x1, hx1⟩ : ∃ z, z = mapTree (besE [bs nFields] (mapTree E)) := ⟨_, rfl⟩
  rw [← hx1] at ht2
  obtain ⟨x2, x3, x4, x5, c2, rfl, -⟩ := ht2.open
  have HX1 := hide hx1
  have HT2 := hide ht2
  have hs2 : w1.heap.size + 1 ≤ w2.heap.size := by have := hb2.size; simpa using this
  have HB2 : Hid (Below Wa.heap.size Wa w2) := hide (HB1.out.trans (Below.trans (show Below Wa.heap.size w1 (w1.alloc _) from (Below.refl _ _).alloc (by omega) _) (hb2.mono (by simp; omega))))
  have HX5 : Hid (x1.kind = 5 ∧ x1.keys.length = x1.kids.length ∧ x1.kids.length ≤ 1000) := hide (by rw [hx1]; exact ⟨mapTree_kind _, mapTree_len _, Nat.le_trans (mapTree_le _) (Nat.le_trans (bes_len _ E) hEl)⟩)
  clear hx1 ht2 hx2 hb2
  go_wp2_with fail
  refine (at_any ok1 x1 _ (bs nFields) _ (HT2.out.same (Same.of_below (by go_grown))) HX5.out.1 HX5.out.2.1 (by have := HX5.out.2.2; omega)).mono ?_
  rintro e w3 ⟨v3, ls, rfl, ht3, hx3, hb3⟩
  obtain ⟨l1, l2, l3, l4, c3, rfl, -⟩ := ht3.open
  obtain ⟨B6, hB6⟩ : ∃ b, b = w2.heap.size := ⟨_, rfl⟩
  obtain ⟨B8, hB8⟩ : ∃ b, b = w3.heap.size := ⟨_, rfl⟩
  obtain ⟨ok2, hok2⟩ : ∃ p : Nat → Prop, p = fun j => ok1 j ∧ j ≠ B6 := ⟨_, rfl⟩
  have hs3 : B6 + 1 ≤ B8 := by rw [hB6, hB8]; have := hb3.size; simpa using this
  have hs2' : w1.heap.size + 1 ≤ B6 := by omega
  have HOK2 : Hid (∀ k, B6 + 1 ≤ k → ok2 k) := hide (by rw [hok2]; intro k hk; exact ⟨HOK1.out k (by omega), by omega⟩)
  have HN6 : Hid (¬ ok2 B6) := hide (by rw [hok2]; intro h; exact h.2 rfl)
  have HO21 : Hid (∀ k, ok2 k → ok1 k) := hide (by rw [hok2]; intro k h; exact h.1)
  have HT2' : Hid (TreeAt w2 ok2 (.agg #[.int .i64 x1.kind, .string x1.text, .float .f64 x1.num, .bool x1.yes, .slice x2 x1.keys.length x3, .slice x4 x1.kids.length x5]) x1) := hide (by rw [hok2]; exact HT2.out.weaken fun k h hl => ⟨h, by omega⟩)
  have HB6 : Hid (w3.heap[B6]? = some (.cells #[.int .i64 x1.kind, .string x1.text, .float .f64 x1.num, .bool x1.yes, .slice x2 x1.keys.length x3, .slice x4 x1.kids.length x5] 26 (0, 0))) := hide ((hb3.block _ (by rw [hB6]; simp)).trans (by rw [hB6]; exact heap_alloc_new _ _))
  have HB3 : Hid (Below Wa.heap.size Wa w3 ∧ Below B6 w2 w3) := hide (by
    have h1 : Below B6 w2 w3 := Below.trans (show Below B6 w2 (w2.alloc _) from (Below.refl _ _).alloc (by omega) _) (hb3.mono (by simp; omega))
    exact ⟨HB2.out.trans (h1.mono (by omega)), h1⟩)
  have HT3 := hide ht3
  have HX3 := hide hx3
  have HAF : Hid (atT x1 (bs nFields) = if fs = [] then none else some (tList (fs.map (fieldText bText B)))) := hide (by rw [HX1.out]; exact at_fields HF.out)
  rw [← hB6]
  have hq1 : B6 ≤ w2.heap.size := by omega
  have hq2 : w2.heap.size ≤ B6 := by omega
  have hq3 : B8 ≤ w3.heap.size := by omega
  have hq4 : w3.heap.size ≤ B8 := by omega
  clear hB6 hB8
  clear ht3 hx3 hb3 hok2
  by_cases hfs : fs = []
  case' pos =>
    rw [HAF.out, if_pos hfs, show (none : Option T).isSome = false from rfl]
    have HRE : Hid (readE E fs B = besE [bs nFields] (mapTree E)) := hide (by unfold readE; rw [if_pos hfs, List.append_nil])
    clear hfs
    go_upto_region 18 with fail
    obtain ⟨wE, hwE⟩ : ∃ z, z = w3.alloc (.cells #[.int .i64 ls.kind, .string ls.text, .float .f64 ls.num, .bool ls.yes, .slice l1 ls.keys.length l2, .slice l3 ls.kids.length l4] 26 (0, 0)) := ⟨_, rfl⟩
    rw [← hwE]
    have HBE : Hid (Below Wa.heap.size Wa wE ∧ Below w3.heap.size w3 wE) := hide (by
      have h1 : Below w3.heap.size w3 wE := by rw [hwE]; go_grown
      exact ⟨HB3.out.1.trans (h1.mono (by omega)), h1⟩)
    obtain ⟨z, hz'⟩ : ∃ y, y = x1 := ⟨_, rfl⟩
    have HZ9 : Hid (z = mapTree (readE E fs B)) := hide (by rw [hz', HRE.out]; exact HX1.out)
    subst hz'
    have HTE9 : Hid (TreeAt wE ok2 (.agg #[.int .i64 z.kind, .string z.text, .float .f64 z.num, .bool z.yes, .slice x2 z.keys.length x3, .slice x4 z.kids.length x5]) z) := hide ((HT2'.out.same (Same.of_below (HB3.out.2.mono (by omega)))).same (Same.of_below HBE.out.2))
    have hzb : wE.heap[B6]? = some (.cells #[.int .i64 z.kind, .string z.text, .float .f64 z.num, .bool z.yes, .slice x2 z.keys.length x3, .slice x4 z.kids.length x5] 26 (0, 0)) := (HBE.out.2.block _ (by omega)).trans HB6.out
    have hsE : w3.heap.size ≤ wE.heap.size := HBE.out.2.size
    clear hwE HT2'
    have c0 : wE.cell? ⟨B6, 0, none⟩ = some (.int .i64 z.kind) := (by rw [cell_of_row wE _ 0 _ _ _ hzb]; rfl)
    have c1 : wE.cell? ⟨B6, 1, none⟩ = some (.string z.text) := (by rw [cell_of_row wE _ 1 _ _ _ hzb]; rfl)
    have c2 : wE.cell? ⟨B6, 2, none⟩ = some (.float .f64 z.num) := (by rw [cell_of_row wE _ 2 _ _ _ hzb]; rfl)
    have c3 : wE.cell? ⟨B6, 3, none⟩ = some (.bool z.yes) := (by rw [cell_of_row wE _ 3 _ _ _ hzb]; rfl)
    have c4 : wE.cell? ⟨B6, 4, none⟩ = some (.slice x2 z.keys.length x3) := (by rw [cell_of_row wE _ 4 _ _ _ hzb]; rfl)
    have c5 : wE.cell? ⟨B6, 5, none⟩ = some (.slice x4 z.kids.length x5) := (by rw [cell_of_row wE _ 5 _ _ _ hzb]; rfl)
    clear hzb
    go_wp2_with fail
    refine (map_any ok2 _ _ [⟨bs kind, z⟩] (fun k hk => HOK2.out k (by simp at hk; omega)) (sets_one (g := wE.heap.size) (heap_alloc_new wE _) (HOK2.out _ (by omega)) (HTE9.out.same (Same.of_below (by go_grown)))) (by simp)).mono ?_
    rintro e w7 ⟨v7, rfl, ht7, hb7⟩
    have HT7 : Hid (TreeAt w7 ok2 v7 (mapTree [(bs kind, mapTree (readE E fs B))])) := hide (by rw [← HZ9.out]; exact ht7)
    have hs7 : wE.heap.size + 1 ≤ w7.heap.size := by have := hb7.size; simpa using this
    have HB7 : Hid (Below Wa.heap.size Wa w7) := hide (HBE.out.1.trans (Below.trans (show Below Wa.heap.size wE (wE.alloc _) from (Below.refl _ _).alloc (by omega) _) (hb7.mono (by simp; omega))))
    clear ht7 hb7
    go_wp2_with fail
    refine (fold2_any kind (readE E fs B) ok2 w7 v7 (fun k hk => HOK2.out k (by omega)) (HG.out.below (HBa.out.trans (HB7.out.mono (by omega)))) HT7.out (read_ok HEK.out) hk (Nat.le_trans (readE_len E fs B) (by omega))).mono ?_
    rintro e w8 ⟨v8, rfl, ht8, hb8⟩
    have HT8 := hide ht8
    have HB8 := hide hb8
    have hs8 := hb8.size
    clear ht8 hb8
    go_wp2_with fail
    refine (HK.out _ ok2 w8 v8 (fun k hk => HOK2.out k (by omega)) HT8.out (Nat.le_trans (foldEE_len _) (Nat.le_trans (readE_len E fs B) (by omega)))).mono ?_
    rintro e w9 ⟨v9, rfl, ht9, hb9⟩
    obtain ⟨y, hy⟩ : ∃ z, z = mapTree [(bs kind, mapTree (finE mm (readE E fs B)))] := ⟨_, rfl⟩
    have HYE := hide hy
    have ht9' : TreeAt w9 ok2 v9 y := by rw [hy]; exact ht9
    obtain ⟨ra, rc, rb, rd9, c9, rfl, -⟩ := ht9'.open
    have HY := hide ht9'
    have HB9 : Hid (Below Wa.heap.size Wa w9) := hide (HB7.out.trans ((HB8.out.mono (by omega)).trans (hb9.mono (by omega))))
    have hr : w9.heap[W.heap.size + 1]? = some (.cells #[.int .i64 0, .string ⟨#[]⟩, .float .f64 0, .bool false, .slice none 0 0, .slice none 0 0] 26 (0, 0)) := (HB9.out.block _ (by omega)).trans HR0.out
    have HR9 := hide hr
    clear hy ht9 hb9 ht9'
    have z0 : w9.cell? ⟨W.heap.size + 1, 0, none⟩ = some (.int .i64 0) := (by rw [cell_of_row w9 _ 0 _ _ _ hr]; rfl)
    have z1 : w9.cell? ⟨W.heap.size + 1, 1, none⟩ = some (.string ⟨#[]⟩) := (by rw [cell_of_row w9 _ 1 _ _ _ hr]; rfl)
    have z2 : w9.cell? ⟨W.heap.size + 1, 2, none⟩ = some (.float .f64 0) := (by rw [cell_of_row w9 _ 2 _ _ _ hr]; rfl)
    have z3 : w9.cell? ⟨W.heap.size + 1, 3, none⟩ = some (.bool false) := (by rw [cell_of_row w9 _ 3 _ _ _ hr]; rfl)
    have z4 : w9.cell? ⟨W.heap.size + 1, 4, none⟩ = some (.slice none 0 0) := (by rw [cell_of_row w9 _ 4 _ _ _ hr]; rfl)
    have z5 : w9.cell? ⟨W.heap.size + 1, 5, none⟩ = some (.slice none 0 0) := (by rw [cell_of_row w9 _ 5 _ _ _ hr]; rfl)
    have fr : ∀ j, w9.frozen? ⟨W.heap.size + 1, j, none⟩ = false := fun j => frozen_of_row w9 _ j _ _ hr
    clear hr
    go_wp2_with fail
    have HZ := hide (set6 HR9.out (.int .i64 y.kind) (.string y.text) (.float .f64 y.num) (.bool y.yes) (.slice ra y.keys.length rc) (.slice rb y.kids.length rd9))
    have HS := hide (same6 (ok := ok2) (w1 := w9) (b := W.heap.size + 1) (fun h => HN1.out (HO21.out _ h)) (.int .i64 y.kind) (.string y.text) (.float .f64 y.num) (.bool y.yes) (.slice ra y.keys.length rc) (.slice rb y.kids.length rd9))
    have HL6 := hide (below6 (n := W.heap.size) (w1 := w9) (b := W.heap.size + 1) (by omega) (.int .i64 y.kind) (.string y.text) (.float .f64 y.num) (.bool y.yes) (.slice ra y.keys.length rc) (.slice rb y.kids.length rd9))
    generalize ((((((w9.setCell ⟨W.heap.size + 1, 0, none⟩ (.int .i64 y.kind)).setCell ⟨W.heap.size + 1, 1, none⟩ (.string y.text)).setCell ⟨W.heap.size + 1, 2, none⟩ (.float .f64 y.num)).setCell ⟨W.heap.size + 1, 3, none⟩ (.bool y.yes)).setCell ⟨W.heap.size + 1, 4, none⟩ (.slice ra y.keys.length rc)).setCell ⟨W.heap.size + 1, 5, none⟩ (.slice rb y.kids.length rd9)) = wz at *
    have e0 : wz.cell? ⟨W.heap.size + 1, 0, none⟩ = some (.int .i64 y.kind) := by rw [cell_of_row wz _ 0 _ _ _ HZ.out]; rfl
    have e1 : wz.cell? ⟨W.heap.size + 1, 1, none⟩ = some (.string y.text) := by rw [cell_of_row wz _ 1 _ _ _ HZ.out]; rfl
    have e2 : wz.cell? ⟨W.heap.size + 1, 2, none⟩ = some (.float .f64 y.num) := by rw [cell_of_row wz _ 2 _ _ _ HZ.out]; rfl
    have e3 : wz.cell? ⟨W.heap.size + 1, 3, none⟩ = some (.bool y.yes) := by rw [cell_of_row wz _ 3 _ _ _ HZ.out]; rfl
    have e4 : wz.cell? ⟨W.heap.size + 1, 4, none⟩ = some (.slice ra y.keys.length rc) := by rw [cell_of_row wz _ 4 _ _ _ HZ.out]; rfl
    have e5 : wz.cell? ⟨W.heap.size + 1, 5, none⟩ = some (.slice rb y.kids.length rd9) := by rw [cell_of_row wz _ 5 _ _ _ HZ.out]; rfl
    refine bodyPost_ret (by simp [results, Tryz.results20, go_sem, e0, e1, e2, e3, e4, e5]; try rfl) rfl ?_
    refine ⟨_, rfl, ?_, ?_⟩
    · rw [← HYE.out]
      exact (HY.out.same HS.out).weaken fun k hk _ => HOO1.out k (HO21.out k hk)
    · exact (HBa.out.trans (HB9.out.mono (by omega))).trans HL6.out
  case' neg =>
    have hls : ls = tList (fs.map (fieldText bText B)) := HX3.out _ (by rw [HAF.out, if_neg hfs])
    have HLS := hide hls
    rw [HAF.out, if_neg hfs, show (some (tList (fs.map (fieldText bText B)))).isSome = true from rfl]
    have hkl : ls.kids.length = fs.length := by rw [hls]; show ((fs.map (fieldText bText B)).map tText).length = _; simp
    have HKL := hide hkl
    have HRE : Hid (readE E fs B = besE [bs nFields] (mapTree E) ++ [(bs nFields, fieldsT (fs.map (readOne B)))]) := hide (by unfold readE; rw [if_neg hfs])
    obtain ⟨l1', l2', l3', l4', cl, hv6, -, -, -, hcl, htl⟩ := HT3.out.open
    simp only [Value.agg.injEq, Array.mk.injEq, List.cons.injEq, Value.slice.injEq, and_true, true_and] at hv6
    obtain ⟨⟨rfl, rfl⟩, rfl, rfl⟩ := hv6
    have HCL := hide hcl
    have HTL := hide htl
    clear hfs hls hkl hcl htl
    go_wp2_with fail
    obtain ⟨w4, hw4⟩ : ∃ z, z = w3.alloc (.cells #[.int .i64 ls.kind, .string ls.text, .float .f64 ls.num, .bool ls.yes, .slice l1 ls.keys.length l2, .slice l3 ls.kids.length l4] 26 (0, 0)) := ⟨_, rfl⟩
    rw [← hw4]
    have HB4 : Hid (Below w3.heap.size w3 w4) := hide (by rw [hw4]; go_grown)
    have HB8 : Hid (w4.heap[B8]? = some (.cells #[.int .i64 ls.kind, .string ls.text, .float .f64 ls.num, .bool ls.yes, .slice l1 ls.keys.length l2, .slice l3 ls.kids.length l4] 26 (0, 0))) := hide (by rw [hw4, show B8 = w3.heap.size by omega]; exact heap_alloc_new _ _)
    have hs4 : B8 + 1 ≤ w4.heap.size := by rw [hw4]; simp; omega
    have hB8 : Hid (w3.heap.size = B8) := hide (by omega)
    rw [hB8.out]
    clear hw4
    refine (list_empty _).mono ?_
    rintro e w5 ⟨rfl, hb5⟩
    have hs5 := hb5.size
    have HB5 := hide hb5
    clear hb5
    go_wp2_with fail
    obtain ⟨B10, hB10⟩ : ∃ b, b = w5.heap.size := ⟨_, rfl⟩
    obtain ⟨w6, hw6⟩ : ∃ z, z = w5.alloc (.cells #[.int .i64 4, .string ⟨#[]⟩, .float .f64 0, .bool false, .slice none 0 0, .slice none 0 0] 26 (0, 0)) := ⟨_, rfl⟩
    rw [← hB10, ← hw6]
    have HL0 : Hid (ListAt w6 B10 B10 (.slice none 0 0) [] []) := hide (by
      rw [hw6, hB10]
      exact ⟨heap_alloc_new _ _, KidsAt.nil _ _, Nat.le_refl _, by simp⟩)
    have HB56 : Hid (Below w5.heap.size w5 w6) := hide (by rw [hw6]; go_grown)
    have hq5 : w5.heap.size ≤ B10 := by omega
    have hq6 : B10 ≤ w5.heap.size := by omega
    have hs6 : B10 + 1 ≤ w6.heap.size := HL0.out.2.2.2
    have HLO : Hid (Below w4.heap.size w4 w6) := hide (HB5.out.trans (HB56.out.mono hs5))
    clear hw6 hB10
    go_loopw [11] (fun i wr => ∃ (k : Nat) (vK : Value) (kids : List Value), k ≤ fs.length ∧ i = .int .i64 k ∧ Below B10 w6 wr ∧ ListAt wr B10 B10 vK kids ((fs.take k).map (readOne B))) (fun i _ => fs.length - (intOf i).toNat)
    case atStart => exact ⟨0, _, [], Nat.zero_le _, rfl, Below.refl _ _, HL0.out⟩
    case round =>
      obtain ⟨k, vK, kids, hk9, rfl, hbw, hla⟩ := hrel
      have HBW := hide hbw
      have HLA := hide hla
      obtain ⟨c5, f5⟩ := hla.facts
      have hsz := hla.2.2.2
      have hlen : ((fs.take k).map (readOne B)).length = k := by simp; omega
      have HLEN := hide hlen
      have hb8 : wr.heap[B8]? = some (.cells #[.int .i64 ls.kind, .string ls.text, .float .f64 ls.num, .bool ls.yes, .slice l1 ls.keys.length l2, .slice l3 ls.kids.length l4] 26 (0, 0)) := (HBW.out.block _ (by omega)).trans ((HLO.out.block _ (by omega)).trans HB8.out)
      have g5 : wr.cell? ⟨B8, 5, none⟩ = some (.slice l3 ls.kids.length l4) := by rw [cell_of_row wr _ 5 _ _ _ hb8]; rfl
      have h8 : B8 < wr.heap.size := by omega
      clear hbw hla hlen hb8
      by_cases hlt : k < fs.length
      · have hlt2 : k < ls.kids.length := by rw [HKL.out]; exact hlt
        have hki : ls.kids[k]? = some (tText (fieldText bText B fs[k])) := by rw [HLS.out]; show ((fs.map (fieldText bText B)).map tText)[k]? = _; simp only [List.getElem?_map, List.getElem?_eq_getElem hlt, Option.map_some]
        obtain ⟨b, q, rfl, hbok, hcell⟩ := HCL.out k hlt2
        have htr := HTL.out k _ hki
        obtain ⟨fk, hfk⟩ : ∃ f, f = fs[k] := ⟨_, rfl⟩
        obtain ⟨nm, hnm⟩ : ∃ n, n = fieldText bText B fk := ⟨_, rfl⟩
        rw [← hfk, ← hnm] at htr
        obtain ⟨ma, mc, mb, md, cc, hv6, -⟩ := htr.open
        simp only [Value.agg.injEq, Array.mk.injEq, List.cons.injEq, and_true] at hv6
        obtain ⟨v1, v2, v3, v4, v5, v6⟩ := hv6
        have hcw : ∀ j, j < 6 → wr.cell? ⟨b, q + k * 6 + j, none⟩ = some (cl k j) ∧ b < wr.heap.size := fun j hj => by
          have h1 := hcell j hj
          have h2 := World.block_lt_of_cell? w3 _ h1
          exact ⟨(HBW.out.cell (p := ⟨b, q + k * 6 + j, none⟩) (show b < B10 by have : b < w3.heap.size := h2; omega)).trans ((HLO.out.cell (p := ⟨b, q + k * 6 + j, none⟩) (show b < w4.heap.size by have : b < w3.heap.size := h2; omega)).trans ((HB4.out.cell (p := ⟨b, q + k * 6 + j, none⟩) h2).trans h1)), by have : b < w3.heap.size := h2; omega⟩
        have e0 := (hcw 0 (by omega)).1
        have e1 := (hcw 1 (by omega)).1
        have e2 := (hcw 2 (by omega)).1
        have e3 := (hcw 3 (by omega)).1
        have e4 := (hcw 4 (by omega)).1
        have e5 := (hcw 5 (by omega)).1
        have hbl := (hcw 0 (by omega)).2
        rw [show cl k 0 = .int .i64 1 from v1] at e0; rw [show cl k 1 = .string nm from v2] at e1; rw [show cl k 2 = .float .f64 0 from v3] at e2; rw [show cl k 3 = .bool false from v4] at e3; rw [show cl k 4 = .slice ma 0 mc from v5] at e4; rw [show cl k 5 = .slice mb 0 md from v6] at e5
        simp only [Nat.add_zero] at e0
        have i1 : (0 : Int) ≤ (k : Int) := by omega
        have i3 : (k : Int) < (ls.kids.length : Int) := by omega
        have hfm : fk ∈ fs := by rw [hfk]; exact List.getElem_mem hlt
        obtain ⟨hpl, hfz⟩ := HFS.out fk hfm
        have HPL := hide hpl
        have HNM := hide hnm
        have HFK := hide hfk
        have HE9 : Hid ((fs.take (k + 1)).map (readOne B) = (fs.take k).map (readOne B) ++ [readOne B fk]) := hide (by rw [List.take_succ_eq_append_getElem hlt, List.map_append, ← hfk]; rfl)
        clear hcell htr hcw v1 v2 v3 v4 v5 v6 hki hpl hfm
        cases hlk : lookL B fk with
        | none =>
          have HRO : Hid (readOne B fk = tText fk) := hide (by unfold readOne; rw [hlk])
          obtain rfl : nm = fk := by rw [hnm]; unfold fieldText; rw [hlk]
          clear hlk hnm hfk
          have hq : ((nm.size : Int) == (nm.size : Int)) = true := by simp
          go_wp2_with fail
          refine (place_any nm 94 _ (by unfold maxLen; omega)).mono ?_
          rintro e w7 ⟨rfl, rfl⟩
          rw [HPL.out]
          go_upto_region 12 with fail
          have c5a : ∀ o, (w7.alloc o).cell? ⟨B10, 5, none⟩ = some vK := fun o => (World.cell?_alloc_lt _ _ _ (World.block_lt_of_cell? _ _ c5)).trans c5
          go_region_law (refine step_append_one _ (by rfl) (.tmp 53) (.tmp 59) 24 (by rfl) (B10 + 1) 26 _ 6 88 Tryz.underlying24 Tryz.info26 rfl (by decide) vK _ (cellsOf kids) (by rfl) (HLA.out.2.1.below (by go_grown)).1 w7.heap.size 1 _ 26 (by rfl) (by first | exact heap_alloc_new _ _ | exact (heap_alloc_new w7 _)) rfl (by intro u hu; simp at hu; rcases hu with rfl | rfl | rfl | rfl | rfl | rfl <;> rfl) (by rw [HLEN.out]; omega) (by rw [HLEN.out]; omega) (by first | omega | (simp; omega)) ?_; intro g cp w8 hown8 hgrow8 hat8; have HO8 := hide hown8; have HG8 := hide hgrow8; have HA8 := hide hat8; obtain ⟨c58, f58⟩ := HLA.out.far (hg := hgrow8) (hb := by go_grown); clear hown8 hgrow8 hat8)
          all_goals
            go_wp2_with fail
            go_round
            case rel =>
              obtain ⟨r1, r2⟩ := ListAt.push HLA.out HLEN.out.symm (by go_grown) (TreeAt.leaf _ _ 1 nm 0 false ma mb mc md) (by have := HO8.out; rw [HLEN.out] at this; exact this) HG8.out HA8.out
              rw [show T.mk 1 nm 0 false [] [] = tText nm from rfl, ← HRO.out, ← HE9.out] at r1
              exact ⟨k + 1, _, _, by omega, by go_num, HBW.out.trans r2, r1⟩
            case measure => simp [intOf]; omega
        | some x =>
          have HRO : Hid (readOne B fk = tBoost fk x) := hide (by unfold readOne; rw [hlk])
          have HNM2 : Hid (nm = fk ++ ⟨#[94]⟩ ++ bs (bText x)) := hide (by rw [hnm]; unfold fieldText; rw [hlk])
          have HOB : Hid (okB x) := hide (HBB.out _ (lookL_mem hlk))
          have HCF := hide (caret_facts (t := bText x) HPL.out)
          have hbl9 := bText_len HOB.out.1
          have hns : nm.size = fk.size + 1 + (bText x).length := by rw [HNM2.out]; exact HCF.out.2.1
          have hx1 : nm.extract 0 fk.size = fk := by rw [HNM2.out]; exact HCF.out.2.2.1
          have hx2 : nm.extract (fk.size + 1) nm.size = bs (bText x) := by rw [hns, HNM2.out]; exact HCF.out.2.2.2
          have hbn : 0 < (bText x).length := by
            rcases Nat.eq_zero_or_pos (bText x).length with h | h
            · exact absurd (List.eq_nil_of_length_eq_zero h) (fText_ne _)
            · exact h
          have hq : ((fk.size : Int) == (nm.size : Int)) = false := int_ne (by omega)
          have j1 : (0 : Int) ≤ (fk.size : Int) := by omega
          have j3 : (fk.size : Int) + 1 ≤ (nm.size : Int) := by omega
          have j4 : IntKind.i64.wrap ((fk.size : Int) + 1) = (fk.size : Int) + 1 := IntWalk.i64_in _ ⟨by omega, by omega⟩
          have j5 : ((fk.size : Int) + 1).toNat = fk.size + 1 := by omega
          have j6 : (0 : Int) ≤ (fk.size : Int) + 1 := by omega
          have j7 : (fk.size : Int) ≤ (nm.size : Int) := by omega
          have hnz : nm.size ≤ maxLen := by unfold maxLen; omega
          have HWR : Hid (Below W.heap.size W wr) := hide (HBa.out.trans ((HB3.out.1.mono (by omega)).trans ((HB4.out.mono (by omega)).trans ((HLO.out.mono (by omega)).trans (HBW.out.mono (by omega))))))
          clear hlk hnm hfk hns
          go_wp2_with fail
          refine (place_any nm 94 _ hnz).mono ?_
          rintro e w7 ⟨rfl, rfl⟩
          rw [show placeN nm.data.toList 94 = fk.size by rw [HNM2.out]; exact HCF.out.1]
          go_wp2_with fail
          refine (parse_boost HOB.out _ (HGP.out.below HWR.out)).mono ?_
          rintro e w10 ⟨rfl, rfl⟩
          go_upto_region 16 with fail
          go_region_law (first
            | ((refine step_append_one _ (by rfl) (.tmp 74) (.tmp 83) 24 (by rfl) (B10 + 1) 26 _ 6 88 Tryz.underlying24 Tryz.info26 rfl (by decide) vK _ (cellsOf kids) (by rfl) ((HLA.out.2.1.below HBw16.out).below (by go_grown)).1 w16.heap.size 1 _ 26 (by rfl) (by first | exact heap_alloc_new _ _ | exact (heap_alloc_new w16 _)) rfl (by intro u hu; simp at hu; rcases hu with rfl | rfl | rfl | rfl | rfl | rfl <;> rfl) (by rw [HLEN.out]; omega) (by rw [HLEN.out]; omega) (by have := HBw16.out.size; simp at *; omega) ?_; intro g cp w8 hown8 hgrow8 hat8; have HO8 := hide hown8; have HG8 := hide hgrow8; have HA8 := hide hat8; obtain ⟨c58, f58⟩ := HLA.out.far (HBw16.out.alloc HBw16.out.size _) hgrow8; clear hown8 hgrow8 hat8))
            | (go_simp; go_at_call 23; refine (text_val _ _).mono ?_; rintro e w13 ⟨rfl, hb9⟩; have HBw13 : Hid (Below w10.heap.size w10 w13) := hide (by first | exact Below.trans (by go_grown) (hb9.mono (by first | exact Nat.le_refl _ | (simp; done) | (simp; omega))) | exact HBw15.out.trans (Below.trans (by go_grown) (hb9.mono (by first | exact HBw15.out.size | (have := HBw15.out.size; simp; omega))))); clear hb9; have c5w13 : w13.cell? ⟨B10, 5, none⟩ = some vK := (HBw13.out.cell (p := ⟨B10, 5, none⟩) (show B10 < w10.heap.size by omega)).trans c5; have f5w13 : w13.frozen? ⟨B10, 5, none⟩ = false := (HBw13.out.frozen (p := ⟨B10, 5, none⟩) (show B10 < w10.heap.size by omega)).trans (f5 5); have c5aw13 : ∀ o, (w13.alloc o).cell? ⟨B10, 5, none⟩ = some vK := fun o => (World.cell?_alloc_lt _ _ _ (World.block_lt_of_cell? _ _ c5w13)).trans c5w13)
            | (go_simp; go_at_call 67; refine (number_val _ _).mono ?_; rintro e w15 ⟨rfl, hb9⟩; have HBw15 : Hid (Below w10.heap.size w10 w15) := hide (by first | exact Below.trans (by go_grown) (hb9.mono (by first | exact Nat.le_refl _ | (simp; done) | (simp; omega))) | exact HBw13.out.trans (Below.trans (by go_grown) (hb9.mono (by first | exact HBw13.out.size | (have := HBw13.out.size; simp; omega))))); clear hb9; have c5w15 : w15.cell? ⟨B10, 5, none⟩ = some vK := (HBw15.out.cell (p := ⟨B10, 5, none⟩) (show B10 < w10.heap.size by omega)).trans c5; have f5w15 : w15.frozen? ⟨B10, 5, none⟩ = false := (HBw15.out.frozen (p := ⟨B10, 5, none⟩) (show B10 < w10.heap.size by omega)).trans (f5 5); have c5aw15 : ∀ o, (w15.alloc o).cell? ⟨B10, 5, none⟩ = some vK := fun o => (World.cell?_alloc_lt _ _ _ (World.block_lt_of_cell? _ _ c5w15)).trans c5w15)
            | (go_simp; go_at_call 64; first
                | (refine (list_any (newB w10.heap.size) _ [tText fk, tNum x] _ (two_kids (g := w15.heap.size) (heap_alloc_new w15 _) HBw15.out.size)).mono ?_; rintro e w16 ⟨v6, rfl, ht6, hb9⟩; have HBw16 : Hid (Below w10.heap.size w10 w16) := hide ((HBw15.out.alloc HBw15.out.size _).trans (hb9.mono (by have := HBw15.out.size; simp; omega))))
                | (refine (list_any (newB w10.heap.size) _ [tText fk, tNum x] _ (two_kids (g := w13.heap.size) (heap_alloc_new w13 _) HBw13.out.size)).mono ?_; rintro e w16 ⟨v6, rfl, ht6, hb9⟩; have HBw16 : Hid (Below w10.heap.size w10 w16) := hide ((HBw13.out.alloc HBw13.out.size _).trans (hb9.mono (by have := HBw13.out.size; simp; omega))));
               obtain ⟨t6, ht6e⟩ : ∃ z, z = T.mk 4 ⟨#[]⟩ 0 false [] [tText fk, tNum x] := ⟨_, rfl⟩; rw [← ht6e] at ht6; have HT6E := hide ht6e; obtain ⟨a61, cap61, a62, cap62, cc6, rfl, -⟩ := ht6.open; have HT6 := hide ht6; clear hb9 ht6 ht6e; have c5w16 : w16.cell? ⟨B10, 5, none⟩ = some vK := (HBw16.out.cell (p := ⟨B10, 5, none⟩) (show B10 < w10.heap.size by omega)).trans c5; have f5w16 : w16.frozen? ⟨B10, 5, none⟩ = false := (HBw16.out.frozen (p := ⟨B10, 5, none⟩) (show B10 < w10.heap.size by omega)).trans (f5 5); have c5aw16 : ∀ o, (w16.alloc o).cell? ⟨B10, 5, none⟩ = some vK := fun o => (World.cell?_alloc_lt _ _ _ (World.block_lt_of_cell? _ _ c5w16)).trans c5w16))
          all_goals
            go_wp2_with fail
            go_round
            case rel =>
              obtain ⟨r1, r2⟩ := ListAt.push HLA.out HLEN.out.symm (HBw16.out.alloc HBw16.out.size _) (HT6.out.same (Same.of_below (by go_grown))) (by have := HO8.out; rw [HLEN.out] at this; exact this) HG8.out HA8.out
              rw [HT6E.out, show T.mk 4 ⟨#[]⟩ 0 false [] [tText fk, tNum x] = tBoost fk x from rfl, ← HRO.out, ← HE9.out] at r1
              exact ⟨k + 1, _, _, by omega, by go_num, HBW.out.trans r2, r1⟩
            case measure => simp [intOf]; omega
      · have HLB : Hid (ListAt wr B10 B10 vK kids (fs.map (readOne B))) := hide (by
          have h := HLA.out
          rw [List.take_of_length_le (by omega)] at h
          exact h)
        obtain ⟨ao, cp, hvk, -⟩ := World.ownsRow.form HLB.out.2.1.1
        obtain ⟨u, hu⟩ : ∃ u, u = fieldsT (fs.map (readOne B)) := ⟨_, rfl⟩
        have HU := hide hu
        have hvk' : vK = .slice ao u.kids.length cp := by rw [hvk, hu]; rfl
        subst hvk'
        have hblk := HLB.out.1
        have HUT : Hid (TreeAt wr ok2 (.agg #[.int .i64 u.kind, .string u.text, .float .f64 u.num, .bool u.yes, .slice none u.keys.length 0, .slice ao u.kids.length cp]) u) := hide (by
          have := tree_of_own (t := fieldsT (fs.map (readOne B))) (ok := newB B10) (base := B10 + 1) (ownsRow_nil wr (B10 + 1)) HLB.out.2.1.1 (HLB.out.2.1.2.weaken fun k hk _ => by unfold newB; omega) (fun k hk => by cases hk) (fun k hk => by have := (own_lt HLB.out.2.1.1 hk).1; unfold newB; omega)
          rw [hu] at *
          exact this.weaken fun k hk _ => HOK2.out k (by unfold newB at hk; omega))
        have hu0 : u.kind = 4 ∧ u.text = ⟨#[]⟩ ∧ u.num = 0 ∧ u.yes = false ∧ u.keys.length = 0 := by rw [hu]; exact ⟨rfl, rfl, rfl, rfl, rfl⟩
        have d0 : wr.cell? ⟨B10, 0, none⟩ = some (.int .i64 u.kind) := by rw [cell_of_row wr _ 0 _ _ _ hblk, hu0.1]; rfl
        have d1 : wr.cell? ⟨B10, 1, none⟩ = some (.string u.text) := by rw [cell_of_row wr _ 1 _ _ _ hblk, hu0.2.1]; rfl
        have d2 : wr.cell? ⟨B10, 2, none⟩ = some (.float .f64 u.num) := by rw [cell_of_row wr _ 2 _ _ _ hblk, hu0.2.2.1]; rfl
        have d3 : wr.cell? ⟨B10, 3, none⟩ = some (.bool u.yes) := by rw [cell_of_row wr _ 3 _ _ _ hblk, hu0.2.2.2.1]; rfl
        have d4 : wr.cell? ⟨B10, 4, none⟩ = some (.slice none u.keys.length 0) := by rw [cell_of_row wr _ 4 _ _ _ hblk, hu0.2.2.2.2]; rfl
        have HBR : Hid (Below w3.heap.size w3 wr) := hide (HB4.out.trans ((HLO.out.mono (by omega)).trans (HBW.out.mono (by omega))))
        have hs9 : w3.heap.size ≤ wr.heap.size := HBR.out.size
        have hb6 : wr.heap[B6]? = some (.cells #[.int .i64 x1.kind, .string x1.text, .float .f64 x1.num, .bool x1.yes, .slice x2 x1.keys.length x3, .slice x4 x1.kids.length x5] 26 (0, 0)) := (HBR.out.block _ (by omega)).trans HB6.out
        have HB6r := hide hb6
        have n0 : wr.cell? ⟨B6, 0, none⟩ = some (.int .i64 x1.kind) := (by rw [cell_of_row wr _ 0 _ _ _ hb6]; rfl)
        have n1 : wr.cell? ⟨B6, 1, none⟩ = some (.string x1.text) := (by rw [cell_of_row wr _ 1 _ _ _ hb6]; rfl)
        have n2 : wr.cell? ⟨B6, 2, none⟩ = some (.float .f64 x1.num) := (by rw [cell_of_row wr _ 2 _ _ _ hb6]; rfl)
        have n3 : wr.cell? ⟨B6, 3, none⟩ = some (.bool x1.yes) := (by rw [cell_of_row wr _ 3 _ _ _ hb6]; rfl)
        have n4 : wr.cell? ⟨B6, 4, none⟩ = some (.slice x2 x1.keys.length x3) := (by rw [cell_of_row wr _ 4 _ _ _ hb6]; rfl)
        have n5 : wr.cell? ⟨B6, 5, none⟩ = some (.slice x4 x1.kids.length x5) := (by rw [cell_of_row wr _ 5 _ _ _ hb6]; rfl)
        have fr6 : ∀ j, wr.frozen? ⟨B6, j, none⟩ = false := fun j => frozen_of_row wr _ j _ _ hb6
        have HX1T : Hid (TreeAt wr ok2 (.agg #[.int .i64 x1.kind, .string x1.text, .float .f64 x1.num, .bool x1.yes, .slice x2 x1.keys.length x3, .slice x4 x1.kids.length x5]) x1) := hide ((HT2'.out.same (Same.of_below (HB3.out.2.mono (by omega)))).same (Same.of_below HBR.out))
        have hd9 : decide (k < ls.kids.length) = false := by rw [HKL.out]; simpa using hlt
        have hd8 : ls.kids.length ≤ k := by rw [HKL.out]; omega
        clear hvk hblk hb6 hu HLA HLEN f5 hu0
        go_wp2_with fail
        refine (with_any ok2 wr (bs nFields) (fun k hk => HOK2.out k (by omega)) HX1T.out HUT.out HX5.out.2.1 (by have := HX5.out; omega)).mono ?_
        rintro e w7 ⟨v7, rfl, ht7, hb7⟩
        obtain ⟨z, hz'⟩ : ∃ y, y = withL x1 (bs nFields) u := ⟨_, rfl⟩
        have HZ9 : Hid (z = mapTree (readE E fs B)) := hide (by rw [hz', HX1.out, with_map, HRE.out, HU.out])
        rw [← hz'] at ht7
        obtain ⟨y2, y3, y4, y5, c7, rfl, -⟩ := ht7.open
        have HT7 := hide ht7
        have HB7 := hide hb7
        have hs7 := hb7.size
        have HB6s : Hid (w7.heap[B6]? = some (.cells #[.int .i64 x1.kind, .string x1.text, .float .f64 x1.num, .bool x1.yes, .slice x2 x1.keys.length x3, .slice x4 x1.kids.length x5] 26 (0, 0))) := hide ((hb7.block _ (by omega)).trans HB6r.out)
        have fr7 : ∀ j, w7.frozen? ⟨B6, j, none⟩ = false := fun j => frozen_of_row w7 _ j _ _ HB6s.out
        have hb6' := HB6s.out
        have m0 : w7.cell? ⟨B6, 0, none⟩ = some (.int .i64 x1.kind) := (by rw [cell_of_row w7 _ 0 _ _ _ hb6']; rfl)
        have m1 : w7.cell? ⟨B6, 1, none⟩ = some (.string x1.text) := (by rw [cell_of_row w7 _ 1 _ _ _ hb6']; rfl)
        have m2 : w7.cell? ⟨B6, 2, none⟩ = some (.float .f64 x1.num) := (by rw [cell_of_row w7 _ 2 _ _ _ hb6']; rfl)
        have m3 : w7.cell? ⟨B6, 3, none⟩ = some (.bool x1.yes) := (by rw [cell_of_row w7 _ 3 _ _ _ hb6']; rfl)
        have m4 : w7.cell? ⟨B6, 4, none⟩ = some (.slice x2 x1.keys.length x3) := (by rw [cell_of_row w7 _ 4 _ _ _ hb6']; rfl)
        have m5 : w7.cell? ⟨B6, 5, none⟩ = some (.slice x4 x1.kids.length x5) := (by rw [cell_of_row w7 _ 5 _ _ _ hb6']; rfl)
        clear hz' ht7 hb7 hb6'
        go_upto_region 18 with fail
        have HBE : Hid (Below Wa.heap.size Wa (((((((w7.setCell ⟨B6, 0, none⟩ (.int .i64 z.kind)).setCell ⟨B6, 1, none⟩ (.string z.text)).setCell ⟨B6, 2, none⟩ (.float .f64 z.num)).setCell ⟨B6, 3, none⟩ (.bool z.yes)).setCell ⟨B6, 4, none⟩ (.slice y2 z.keys.length y3)).setCell ⟨B6, 5, none⟩ (.slice y4 z.kids.length y5))) ∧ True) := hide ⟨(HB3.out.1.trans ((HBR.out.mono (by omega)).trans (HB7.out.mono (by omega)))).trans (below6 (by omega) _ _ _ _ _ _), trivial⟩
        have HTE9 : Hid (TreeAt (((((((w7.setCell ⟨B6, 0, none⟩ (.int .i64 z.kind)).setCell ⟨B6, 1, none⟩ (.string z.text)).setCell ⟨B6, 2, none⟩ (.float .f64 z.num)).setCell ⟨B6, 3, none⟩ (.bool z.yes)).setCell ⟨B6, 4, none⟩ (.slice y2 z.keys.length y3)).setCell ⟨B6, 5, none⟩ (.slice y4 z.kids.length y5))) ok2 (.agg #[.int .i64 z.kind, .string z.text, .float .f64 z.num, .bool z.yes, .slice y2 z.keys.length y3, .slice y4 z.kids.length y5]) z) := hide (HT7.out.same (same6 HN6.out _ _ _ _ _ _))
        have hzb : (((((((w7.setCell ⟨B6, 0, none⟩ (.int .i64 z.kind)).setCell ⟨B6, 1, none⟩ (.string z.text)).setCell ⟨B6, 2, none⟩ (.float .f64 z.num)).setCell ⟨B6, 3, none⟩ (.bool z.yes)).setCell ⟨B6, 4, none⟩ (.slice y2 z.keys.length y3)).setCell ⟨B6, 5, none⟩ (.slice y4 z.kids.length y5))).heap[B6]? = some (.cells #[.int .i64 z.kind, .string z.text, .float .f64 z.num, .bool z.yes, .slice y2 z.keys.length y3, .slice y4 z.kids.length y5] 26 (0, 0)) := set6 HB6s.out _ _ _ _ _ _
        have hsE : w3.heap.size ≤ (((((((w7.setCell ⟨B6, 0, none⟩ (.int .i64 z.kind)).setCell ⟨B6, 1, none⟩ (.string z.text)).setCell ⟨B6, 2, none⟩ (.float .f64 z.num)).setCell ⟨B6, 3, none⟩ (.bool z.yes)).setCell ⟨B6, 4, none⟩ (.slice y2 z.keys.length y3)).setCell ⟨B6, 5, none⟩ (.slice y4 z.kids.length y5))).heap.size := by simp; omega
        generalize (((((((w7.setCell ⟨B6, 0, none⟩ (.int .i64 z.kind)).setCell ⟨B6, 1, none⟩ (.string z.text)).setCell ⟨B6, 2, none⟩ (.float .f64 z.num)).setCell ⟨B6, 3, none⟩ (.bool z.yes)).setCell ⟨B6, 4, none⟩ (.slice y2 z.keys.length y3)).setCell ⟨B6, 5, none⟩ (.slice y4 z.kids.length y5))) = wE at *
        have c0 : wE.cell? ⟨B6, 0, none⟩ = some (.int .i64 z.kind) := (by rw [cell_of_row wE _ 0 _ _ _ hzb]; rfl)
        have c1 : wE.cell? ⟨B6, 1, none⟩ = some (.string z.text) := (by rw [cell_of_row wE _ 1 _ _ _ hzb]; rfl)
        have c2 : wE.cell? ⟨B6, 2, none⟩ = some (.float .f64 z.num) := (by rw [cell_of_row wE _ 2 _ _ _ hzb]; rfl)
        have c3 : wE.cell? ⟨B6, 3, none⟩ = some (.bool z.yes) := (by rw [cell_of_row wE _ 3 _ _ _ hzb]; rfl)
        have c4 : wE.cell? ⟨B6, 4, none⟩ = some (.slice y2 z.keys.length y3) := (by rw [cell_of_row wE _ 4 _ _ _ hzb]; rfl)
        have c5 : wE.cell? ⟨B6, 5, none⟩ = some (.slice y4 z.kids.length y5) := (by rw [cell_of_row wE _ 5 _ _ _ hzb]; rfl)
        clear hzb
        go_wp2_with fail
        refine (map_any ok2 _ _ [⟨bs kind, z⟩] (fun k hk => HOK2.out k (by simp at hk; omega)) (sets_one (g := wE.heap.size) (heap_alloc_new wE _) (HOK2.out _ (by omega)) (HTE9.out.same (Same.of_below (by go_grown)))) (by simp)).mono ?_
        rintro e w7 ⟨v7, rfl, ht7, hb7⟩
        have HT7 : Hid (TreeAt w7 ok2 v7 (mapTree [(bs kind, mapTree (readE E fs B))])) := hide (by rw [← HZ9.out]; exact ht7)
        have hs7 : wE.heap.size + 1 ≤ w7.heap.size := by have := hb7.size; simpa using this
        have HB7 : Hid (Below Wa.heap.size Wa w7) := hide (HBE.out.1.trans (Below.trans (show Below Wa.heap.size wE (wE.alloc _) from (Below.refl _ _).alloc (by omega) _) (hb7.mono (by simp; omega))))
        clear ht7 hb7
        go_wp2_with fail
        refine (fold2_any kind (readE E fs B) ok2 w7 v7 (fun k hk => HOK2.out k (by omega)) (HG.out.below (HBa.out.trans (HB7.out.mono (by omega)))) HT7.out (read_ok HEK.out) hk (Nat.le_trans (readE_len E fs B) (by omega))).mono ?_
        rintro e w8 ⟨v8, rfl, ht8, hb8⟩
        have HT8 := hide ht8
        have HB8 := hide hb8
        have hs8 := hb8.size
        clear ht8 hb8
        go_wp2_with fail
        refine (HK.out _ ok2 w8 v8 (fun k hk => HOK2.out k (by omega)) HT8.out (Nat.le_trans (foldEE_len _) (Nat.le_trans (readE_len E fs B) (by omega)))).mono ?_
        rintro e w9 ⟨v9, rfl, ht9, hb9⟩
        obtain ⟨y, hy⟩ : ∃ z, z = mapTree [(bs kind, mapTree (finE mm (readE E fs B)))] := ⟨_, rfl⟩
        have HYE := hide hy
        have ht9' : TreeAt w9 ok2 v9 y := by rw [hy]; exact ht9
        obtain ⟨ra, rc, rb, rd9, c9, rfl, -⟩ := ht9'.open
        have HY := hide ht9'
        have HB9 : Hid (Below Wa.heap.size Wa w9) := hide (HB7.out.trans ((HB8.out.mono (by omega)).trans (hb9.mono (by omega))))
        have hr : w9.heap[W.heap.size + 1]? = some (.cells #[.int .i64 0, .string ⟨#[]⟩, .float .f64 0, .bool false, .slice none 0 0, .slice none 0 0] 26 (0, 0)) := (HB9.out.block _ (by omega)).trans HR0.out
        have HR9 := hide hr
        clear hy ht9 hb9 ht9'
        have z0 : w9.cell? ⟨W.heap.size + 1, 0, none⟩ = some (.int .i64 0) := (by rw [cell_of_row w9 _ 0 _ _ _ hr]; rfl)
        have z1 : w9.cell? ⟨W.heap.size + 1, 1, none⟩ = some (.string ⟨#[]⟩) := (by rw [cell_of_row w9 _ 1 _ _ _ hr]; rfl)
        have z2 : w9.cell? ⟨W.heap.size + 1, 2, none⟩ = some (.float .f64 0) := (by rw [cell_of_row w9 _ 2 _ _ _ hr]; rfl)
        have z3 : w9.cell? ⟨W.heap.size + 1, 3, none⟩ = some (.bool false) := (by rw [cell_of_row w9 _ 3 _ _ _ hr]; rfl)
        have z4 : w9.cell? ⟨W.heap.size + 1, 4, none⟩ = some (.slice none 0 0) := (by rw [cell_of_row w9 _ 4 _ _ _ hr]; rfl)
        have z5 : w9.cell? ⟨W.heap.size + 1, 5, none⟩ = some (.slice none 0 0) := (by rw [cell_of_row w9 _ 5 _ _ _ hr]; rfl)
        have fr : ∀ j, w9.frozen? ⟨W.heap.size + 1, j, none⟩ = false := fun j => frozen_of_row w9 _ j _ _ hr
        clear hr
        go_wp2_with fail
        have HZ := hide (set6 HR9.out (.int .i64 y.kind) (.string y.text) (.float .f64 y.num) (.bool y.yes) (.slice ra y.keys.length rc) (.slice rb y.kids.length rd9))
        have HS := hide (same6 (ok := ok2) (w1 := w9) (b := W.heap.size + 1) (fun h => HN1.out (HO21.out _ h)) (.int .i64 y.kind) (.string y.text) (.float .f64 y.num) (.bool y.yes) (.slice ra y.keys.length rc) (.slice rb y.kids.length rd9))
        have HL6 := hide (below6 (n := W.heap.size) (w1 := w9) (b := W.heap.size + 1) (by omega) (.int .i64 y.kind) (.string y.text) (.float .f64 y.num) (.bool y.yes) (.slice ra y.keys.length rc) (.slice rb y.kids.length rd9))
        generalize ((((((w9.setCell ⟨W.heap.size + 1, 0, none⟩ (.int .i64 y.kind)).setCell ⟨W.heap.size + 1, 1, none⟩ (.string y.text)).setCell ⟨W.heap.size + 1, 2, none⟩ (.float .f64 y.num)).setCell ⟨W.heap.size + 1, 3, none⟩ (.bool y.yes)).setCell ⟨W.heap.size + 1, 4, none⟩ (.slice ra y.keys.length rc)).setCell ⟨W.heap.size + 1, 5, none⟩ (.slice rb y.kids.length rd9)) = wz at *
        have e0 : wz.cell? ⟨W.heap.size + 1, 0, none⟩ = some (.int .i64 y.kind) := by rw [cell_of_row wz _ 0 _ _ _ HZ.out]; rfl
        have e1 : wz.cell? ⟨W.heap.size + 1, 1, none⟩ = some (.string y.text) := by rw [cell_of_row wz _ 1 _ _ _ HZ.out]; rfl
        have e2 : wz.cell? ⟨W.heap.size + 1, 2, none⟩ = some (.float .f64 y.num) := by rw [cell_of_row wz _ 2 _ _ _ HZ.out]; rfl
        have e3 : wz.cell? ⟨W.heap.size + 1, 3, none⟩ = some (.bool y.yes) := by rw [cell_of_row wz _ 3 _ _ _ HZ.out]; rfl
        have e4 : wz.cell? ⟨W.heap.size + 1, 4, none⟩ = some (.slice ra y.keys.length rc) := by rw [cell_of_row wz _ 4 _ _ _ HZ.out]; rfl
        have e5 : wz.cell? ⟨W.heap.size + 1, 5, none⟩ = some (.slice rb y.kids.length rd9) := by rw [cell_of_row wz _ 5 _ _ _ HZ.out]; rfl
        refine bodyPost_ret (by simp [results, Tryz.results20, go_sem, e0, e1, e2, e3, e4, e5]; try rfl) rfl ?_
        refine ⟨_, rfl, ?_, ?_⟩
        · rw [← HYE.out]
          exact (HY.out.same HS.out).weaken fun k hk _ => HOO1.out k (HO21.out k hk)
        · exact (HBa.out.trans (HB9.out.mono (by omega))).trans HL6.out
end Go.Proofs.YtbcnhcpgloncdaaGreatDoor
