/-
  A multi_match QUERY: what is read off it, and what it should be, are Same.
-/
import Derived.Test.YtbcnhcpgloncdaaGreatDoorD1
import Derived.Test.YtbcnhcpgloncdaaGreatDoorD2
import Derived.Test.YtbcnhcpgloncdaaGreatDoorD4
import Derived.Test.YtbcnhcpgloncdaaGreatDoorD6
namespace Go.Proofs.YtbcnhcpgloncdaaGreatDoor
open Go.RowKit Go.Sort

def tabLMM : List (List UInt8 × Nat) := [([116, 121, 112, 101], 3), ([111, 112, 101, 114, 97, 116, 111, 114], 4), ([97, 110, 97, 108, 121, 122, 101, 114], 5), ([98, 111, 111, 115, 116], 6), ([115, 108, 111, 112], 7), ([102, 117, 122, 122, 105, 110, 101, 115, 115], 8), ([112, 114, 101, 102, 105, 120, 95, 108, 101, 110, 103, 116, 104], 9), ([109, 97, 120, 95, 101, 120, 112, 97, 110, 115, 105, 111, 110, 115], 10), ([109, 105, 110, 105, 109, 117, 109, 95, 115, 104, 111, 117, 108, 100, 95, 109, 97, 116, 99, 104], 11), ([114, 101, 119, 114, 105, 116, 101], 12), ([102, 117, 122, 122, 121, 95, 114, 101, 119, 114, 105, 116, 101], 13), ([116, 105, 101, 95, 98, 114, 101, 97, 107, 101, 114], 14), ([108, 101, 110, 105, 101, 110, 116], 15), ([99, 117, 116, 111, 102, 102, 95, 102, 114, 101, 113, 117, 101, 110, 99, 121], 16), ([122, 101, 114, 111, 95, 116, 101, 114, 109, 115, 95, 113, 117, 101, 114, 121], 17), ([95, 110, 97, 109, 101], 18)]
theorem entsMM_eq (bt : Nat → List UInt8) (t0 : T) (q : Q) : entsMM bt t0 q = [(bs nQuery, t0)] ++ ent nFields (some (tList (fieldTexts bt q))) ++ tabLMM.flatMap fun r => ent r.1 (fvT (q.f r.2)) := by
  simp only [entsMM, tabLMM, List.flatMap_cons, List.flatMap_nil, List.append_nil, List.append_assoc]
  rfl
theorem look_MM (t0 : T) (q : Q) (k : ByteArray) : lookL (entsMM bText t0 q) k = three t0 (some (tList (fieldTexts bText q))) (setsL tabLMM q) k := by
  rw [entsMM_eq, lookL_src (by decide +kernel) (by decide +kernel) t0 _ (fun r => fvT (q.f r.2)) k]
  rfl

/-- The two trees of the law. -/
noncomputable def leftMM (text : T) (q : Q) : T := mapTree [(bs nMulti, mapTree (finE true (readE (entsMM bText (leafT text) q) q.fields q.boosts)))]
noncomputable def rightMM (text : T) (fields : List ByteArray) (ss : List S) : T := mapTree [(bs nMulti, mapTree (finE true (pE (sevS MM.rows text (fieldKids fields ss) ss))))]
/-- Each of the kinds is the type that the query takes from it. -/
theorem kinds_typed : kindsL.all (fun c => eqB (typeOf (lowerB c)) c) = true := by decide +kernel
theorem type_fits {ss : List S} (hk : kindsB ss = true) : ∀ s ∈ ss, s.name = bs nType → typeOf (lowerB s.value.text) = s.value.text := by
  intro s hs hn
  obtain ⟨i, hi⟩ := List.getElem?_of_mem hs
  have hlt := (List.getElem?_eq_some_iff.1 hi).1
  have h1 := List.all_eq_true.1 hk i (List.mem_range.2 hlt)
  unfold kindOkAt at h1
  rw [hi] at h1
  have he : eqB s.name kType = true := by rw [hn]; exact (eqB_iff _ _).2 rfl
  simp only [Option.getD_some, he, Bool.true_and, Bool.not_eq_true', Bool.or_eq_false_iff, Bool.not_eq_false'] at h1
  obtain ⟨c, hc, hce⟩ := List.any_eq_true.1 h1.2
  rw [eqB_iff] at hce
  have := List.all_eq_true.1 kinds_typed c hc
  rw [eqB_iff] at this
  rw [← hce, this]
theorem same_MM {text : T} {fields : List ByteArray} {ss : List S} (hk : kindsB ss = true) (hsc : scalarT text = true) (hfit : fitsB MM ss = true) (hfl : fieldsB (fieldNames fields ss) = true) (hn : ∀ s ∈ ss, s.value.num < 18446744073709551616) :
    sameB (leftMM text (runQ qtMM (q0MM text fields) ss)) (rightMM text fields ss) = true := by
  have hfa := fits_all hfit
  have hbo := boosts_run compatMM ss (q0MM text fields) (fun p hp => by cases hp) hfa hn
  refine law_same (B := MM) (tab := qtMM) (q0 := q0MM text fields) (by rw [rowsMM_is]; decide +kernel) (by rw [rowsMM_is]; decide +kernel) (by rw [rowsMM_is]; decide +kernel) rfl hfa hfl (boosts_feq hbo) (leaf_is hsc) (look_MM _ _)
    (fun k => opt_fold (tabs_same (B := MM) (tab := qtMM) (by decide +kernel) (by decide +kernel) (by decide +kernel) (by rw [rowsMM_is]; decide +kernel) (q0 := q0MM text fields) (fun a ha => ?_) hfa (fun r hr h4 s hs hn => type_fits hk s hs (by rw [hn, (by decide +kernel : ∀ r ∈ qtMM, r.2.2 = 4 → r.1 = nType) r hr h4])) k)) ?_
  · simp only [tabLMM, List.mem_cons, List.not_mem_nil, or_false] at ha
    rcases ha with rfl | rfl | rfl | rfl | rfl | rfl | rfl | rfl | rfl | rfl | rfl | rfl | rfl | rfl | rfl | rfl <;> first | rfl | exact fvT_empty
  · cases hq : (runQ qtMM (q0MM text fields) ss).fields with
    | nil => exact Or.inl ⟨rfl, Or.inr (by unfold fieldTexts; rw [hq]; rfl)⟩
    | cons f fs => exact Or.inr ⟨by simp, by unfold fieldTexts; rw [hq]⟩

theorem initMM_texts (text : T) (fields : List ByteArray) : Texts 20 (q0MM text fields) := by
  intro i s hs
  have h : fvOf ((cMM (plainV text))[i]?.getD .nilIface) = .val (.string s) := hs
  obtain ⟨k, x, e⟩ := plain_iface text
  rw [e] at h
  rcases Nat.lt_or_ge i 19 with hi | hi
  · have : i = 0 ∨ i = 1 ∨ i = 2 ∨ i = 3 ∨ i = 4 ∨ i = 5 ∨ i = 6 ∨ i = 7 ∨ i = 8 ∨ i = 9 ∨ i = 10 ∨ i = 11 ∨ i = 12 ∨ i = 13 ∨ i = 14 ∨ i = 15 ∨ i = 16 ∨ i = 17 ∨ i = 18 := by omega
    rcases this with rfl | rfl | rfl | rfl | rfl | rfl | rfl | rfl | rfl | rfl | rfl | rfl | rfl | rfl | rfl | rfl | rfl | rfl | rfl
    all_goals first | (cases h; done) | (cases h; decide)
  · rw [Array.getElem?_eq_none hi] at h
    cases h

theorem kindT_w {E : List (ByteArray × T)} {M : Nat} (hM : 1 ≤ M) (h : ∀ p ∈ E, wT p.2 ≤ M) : wT (kindT E) ≤ M := by
  unfold kindT
  cases hl : lookL E (bs nType) with
  | none => rw [Option.getD_none, wT_text]; exact hM
  | some v => exact h _ (lookL_mem hl)
theorem kinded_w {E : List (ByteArray × T)} {M : Nat} (hM : 1 ≤ M) (h : ∀ p ∈ E, wT p.2 ≤ M) : ∀ p ∈ kindedE E, wT p.2 ≤ M := by
  intro p hp
  unfold kindedE at hp
  split at hp
  · rcases List.mem_append.1 hp with hp | hp
    · exact h p hp
    · obtain rfl : p = _ := by simpa using hp
      exact kindT_w hM h
  · rcases List.mem_append.1 hp with hp | hp
    · rcases List.mem_append.1 hp with hp | hp
      · exact h p hp
      · obtain rfl : p = _ := by simpa using hp
        exact kindT_w hM h
    · obtain rfl : p = _ := by simpa using hp
      show wT (tNum _) ≤ M
      rw [wT_num]; exact hM
theorem kinded_len (E : List (ByteArray × T)) : (kindedE E).length ≤ E.length + 2 := by
  unfold kindedE
  split <;> simp

/-- All parts of the law. -/
theorem lawOk_MM {W : World} {text : T} {fields : List ByteArray} {ss : List S} (hk : kindsB ss = true) (hG : Glob W) (hGP : GlobP W) (h0 : text.text.size ≤ 1048576) (h2 : fields.length ≤ 1048576) (h3 : ss.length ≤ 1048576) (h4 : ∀ f ∈ fields, f.size ≤ 1048576) (h5 : ∀ s ∈ ss, s.value.text.size ≤ 1048576) (h6 : ∀ s ∈ ss, s.value.num < 18446744073709551616) :
    LawOk W 16 MM nMulti text fields ss (treeMM text (runQ qtMM (q0MM text fields) ss)) (leftMM text (runQ qtMM (q0MM text fields) ss)) (rightMM text fields ss) := by
  intro hsc hfit hfl
  have hfa := fits_all hfit
  have hbo := boosts_run compatMM ss (q0MM text fields) (fun p hp => by cases hp) hfa h6
  have hq := run_q (text := text) h2 h3 hfa
  have htx := texts_run (n := 1048576) (by decide) (tab := qtMM) ss (q := q0MM text fields) (fun i s hs => Nat.le_trans (initMM_texts text fields i s hs) (by decide)) h5
  have hrf : (runQ qtMM (q0MM text fields) ss).fields = fields ++ ss.filterMap nameOf := (run_fields qtMM ss (q0MM text fields)).1
  have hfn : (runQ qtMM (q0MM text fields) ss).fields.length ≤ 2097152 := by
    rw [hrf, List.length_append]
    have := List.length_filterMap_le nameOf ss
    omega
  have hlike : ∀ p ∈ entsMM bText (leafT text) (runQ qtMM (q0MM text fields) ss), (p.2.kind == 0) = false ∧ (p.2.kind == 5) = false ∧ p.2.text.size < 35184372088832 ∧ p.1.size ≤ 9223372036854775807 := by
    rw [entsMM_eq]
    have hl := leaf_like hsc
    refine ents_all ⟨hl.1, hl.2.1, by have := hl.2.2.1; show (leafT text).text.size < _; omega, by rw [bs_size]; decide⟩ (fun t ht => ?_) fun r hr t ht => ?_
    · cases ht; exact ⟨rfl, rfl, by show (⟨#[]⟩ : ByteArray).size < _; decide, by rw [bs_size]; decide⟩
    · obtain ⟨a1, a2, a3, a4⟩ := fvT_like (n := 1048576) (htx r.2) ht
      exact ⟨a1, a2, Nat.lt_of_le_of_lt a3 (by decide), by rw [bs_size]; simp only [tabLMM, List.mem_cons, List.not_mem_nil, or_false] at hr; rcases hr with rfl | rfl | rfl | rfl | rfl | rfl | rfl | rfl | rfl | rfl | rfl | rfl | rfl | rfl | rfl | rfl <;> decide⟩
  have hlen : (entsMM bText (leafT text) (runQ qtMM (q0MM text fields) ss)).length ≤ 18 := by
    unfold entsMM
    repeat (refine len_ent _ _ ?_)
    simp
  refine ⟨fun w vt vf vs hb ht hf hs => ?_, fun w v hb hv => ?_, fun w vt vf vs hb ht hf hs => ?_, same_MM hk hsc hfit hfl h6, ?_⟩
  · exact mm_any (hG.below hb) hsc h2 h3 h4 h5 h6 hfa ht hf hs
  · refine readFields_any true nMulti kinded_multi (fun _ => True) w v (entsMM bText (leafT text) (runQ qtMM (q0MM text fields) ss)) (runQ qtMM (q0MM text fields) ss).fields (runQ qtMM (q0MM text fields) ss).boosts (fun _ _ => trivial) (hG.below hb) (hGP.below hb) hv (by decide) hfn (by omega) hlike ?_ (fun f hf => ?_) hbo
    · rw [look_MM, three_fields]
      cases hq9 : (runQ qtMM (q0MM text fields) ss).fields with
      | nil => exact Or.inl ⟨rfl, Or.inr (by unfold fieldTexts; rw [hq9]; rfl)⟩
      | cons f fs => exact Or.inr ⟨by simp, by unfold fieldTexts; rw [hq9]⟩
    · have hfm : f ∈ fieldNames fields ss := by rw [hrf] at hf; exact hf
      exact ⟨field_plain ((fieldsB_all hfl).2 f hfm), Nat.le_trans (fields_run ss (q0MM text fields) h4 h5 f hf) (by decide)⟩
  · exact several_any MM true nMulti kinded_multi (fun _ => True) w vt vf vs text fields ss (fun _ _ => trivial) (hG.below hb) ht hf hs (by omega) (by omega) (by decide) (sev_ok hsc h0 h5 hfa (by rw [rowsMM_is]; decide +kernel))
  · refine tree_w (M := 1 + (runQ qtMM (q0MM text fields) ss).fields.length * 6) ?_ (by omega) ?_
    · refine kinded_w (by omega) (fold_w (by omega) (read_w ?_))
      rw [entsMM_eq]
      refine ents_all (by show wT (leafT text) ≤ _; rw [(leaf_like hsc).2.2.2]; omega) (fun t ht => ?_) fun r hr t ht => ?_
      · cases ht
        have := wT_list (fieldTexts bText (runQ qtMM (q0MM text fields) ss))
        have e : (fieldTexts bText (runQ qtMM (q0MM text fields) ss)).length = (runQ qtMM (q0MM text fields) ss).fields.length := by simp [fieldTexts]
        rw [e] at this
        show wT (tList _) ≤ _
        omega
      · have := (fvT_like (n := 1048576) (htx r.2) ht).2.2.2
        show wT t ≤ _
        omega
    · refine Nat.le_trans (kinded_len _) ?_
      show (foldEE (readE _ _ _)).length + 2 ≤ 40
      have h1 := foldEE_len (readE (entsMM bText (leafT text) (runQ qtMM (q0MM text fields) ss)) (runQ qtMM (q0MM text fields) ss).fields (runQ qtMM (q0MM text fields) ss).boosts)
      have h2 := readE_len (entsMM bText (leafT text) (runQ qtMM (q0MM text fields) ss)) (runQ qtMM (q0MM text fields) ss).fields (runQ qtMM (q0MM text fields) ss).boosts
      omega
end Go.Proofs.YtbcnhcpgloncdaaGreatDoor
