/-
  impl.SimpleQueryString: WHAT IT TELLS.
-/
import Derived.Test.YtbcnhcpgloncdaaGreatDoorD1
import Derived.Test.YtbcnhcpgloncdaaGreatDoorE1
import Derived.Test.YtbcnhcpgloncdaaGreatDoorE2
import Derived.Test.YtbcnhcpgloncdaaGreatDoorE4
import Derived.Test.YtbcnhcpgloncdaaGreatDoorE3
namespace Go.Proofs.YtbcnhcpgloncdaaGreatDoor
open Go.RowKit Go.Sort

theorem compatSQ : Compat qtSQ SQ := ⟨by rw [rowsSQ_is]; decide +kernel, by rw [rowsSQ_is]; decide +kernel⟩
theorem pairSQ : qtSQ.Pairwise (fun a b => a.2.1 ≠ b.2.1) := by decide +kernel
theorem shapedSQ (u : Value) (ks : List ByteArray) : Shaped qtSQ (initQ (cSQ u) ks) := by
  intro r hr
  simp only [qtSQ, List.mem_cons, List.not_mem_nil, or_false] at hr
  rcases hr with rfl | rfl | rfl | rfl | rfl | rfl | rfl | rfl | rfl | rfl | rfl | rfl | rfl
  all_goals first | exact Or.inl rfl | exact ⟨_, rfl⟩
theorem initSQ_ok (s : ByteArray) (ks : List ByteArray) : ∀ i, FVok ((initQ (cSQ (.string s)) ks).f i) := by
  intro i
  show FVok (fvOf ((cSQ (.string s))[i]?.getD .nilIface))
  rcases Nat.lt_or_ge i 18 with h | h
  · have : i = 0 ∨ i = 1 ∨ i = 2 ∨ i = 3 ∨ i = 4 ∨ i = 5 ∨ i = 6 ∨ i = 7 ∨ i = 8 ∨ i = 9 ∨ i = 10 ∨ i = 11 ∨ i = 12 ∨ i = 13 ∨ i = 14 ∨ i = 15 ∨ i = 16 ∨ i = 17 := by omega
    rcases this with rfl | rfl | rfl | rfl | rfl | rfl | rfl | rfl | rfl | rfl | rfl | rfl | rfl | rfl | rfl | rfl | rfl | rfl
    all_goals first | exact fvok_text _ | (intro t h; exact absurd h (by decide)) | exact fun t h => by cases h
  · have e : (cSQ (.string s))[i]? = none := Array.getElem?_eq_none h
    rw [e]
    exact fun t h => by cases h
theorem len_ent {a : List (ByteArray × T)} {n : Nat} (k : List UInt8) (o : Option T) (h : a.length ≤ n) : (a ++ ent k o).length ≤ n + 1 := by
  rw [List.length_append]
  have := ent_le k o
  omega
def q0SQ (text : ByteArray) : Q := initQ (cSQ (.string text)) []
noncomputable def treeSQ (text : ByteArray) (q : Q) : T := mapTree [(bs [115, 105, 109, 112, 108, 101, 95, 113, 117, 101, 114, 121, 95, 115, 116, 114, 105, 110, 103], mapTree (entsSQ bText (tText text) q))]
theorem all_append {α : Type} {P : α → Prop} {a b : List α} (h1 : ∀ p ∈ a, P p) (h2 : ∀ p ∈ b, P p) : ∀ p ∈ a ++ b, P p := fun p hp => (List.mem_append.1 hp).elim (h1 p) (h2 p)

theorem initSQ_texts {text : ByteArray} {n : Nat} (h : text.size ≤ n) : Texts n (q0SQ text) := by
  intro i s hs
  have h : fvOf ((cSQ (.string text))[i]?.getD .nilIface) = .val (.string s) := hs
  rcases Nat.lt_or_ge i 18 with hi | hi
  · have : i = 0 ∨ i = 1 ∨ i = 2 ∨ i = 3 ∨ i = 4 ∨ i = 5 ∨ i = 6 ∨ i = 7 ∨ i = 8 ∨ i = 9 ∨ i = 10 ∨ i = 11 ∨ i = 12 ∨ i = 13 ∨ i = 14 ∨ i = 15 ∨ i = 16 ∨ i = 17 := by omega
    rcases this with rfl | rfl | rfl | rfl | rfl | rfl | rfl | rfl | rfl | rfl | rfl | rfl | rfl | rfl | rfl | rfl | rfl | rfl
    all_goals first | (cases h; done) | (cases h; assumption) | (cases h; exact Nat.zero_le _)
  · rw [Array.getElem?_eq_none hi] at h
    cases h
theorem run_q {text : ByteArray} {ss : List S} (h3 : ss.length ≤ 1048576) (hfit : ∀ s ∈ ss, fitsAt SQ s = true) :
    (∀ i, FVok ((runQ qtSQ (q0SQ text) ss).f i)) ∧ (runQ qtSQ (q0SQ text) ss).fields.length ≤ 4194304 := by
  refine ⟨fvok_run compatSQ ss _ (initSQ_ok _ []) hfit, ?_⟩
  have := (runQ_len qtSQ ss (q0SQ text)).1
  have e : (q0SQ text).fields = [] := rfl
  rw [e] at this
  simp at this
  omega

/-- impl.SimpleQueryString's contract, whole. -/
theorem sq_any {w : World} {ok : Nat → Prop} {vs : Value} {text : ByteArray} {ss : List S} (hG : Glob w) (h0 : text.size ≤ 1048576) (h3 : ss.length ≤ 1048576) (h5 : ∀ s ∈ ss, s.value.text.size ≤ 1048576)
    (h6 : ∀ s ∈ ss, s.value.num < 18446744073709551616) (hfit : ∀ s ∈ ss, fitsAt SQ s = true) (hs : SetsAt w ok vs ss) :
    Calls Tryz.prog 22 #[.string text, vs] w (RetTold w fun t => t = treeSQ text (runQ qtSQ (q0SQ text) ss)) := by
  refine impl_22 hs hfit (fun s hs => by have := h5 s hs; omega) (by omega) hG (fun q t => t = treeSQ text q) ?_
  intro w1 lo bq hb hlo hq
  have hr := run_q (text := text) h3 hfit
  refine source_92 bText (okx := okB) (fun x w h hg => formatFloat_any x w h hg) bText_small hq (hG.below hb) (shaped_run pairSQ ss (shapedSQ _ [])) text ?_ ?_ ?_ ?_ ?_ ?_ hr.2
  · rw [run_other (by decide +kernel)]
    rfl
  · rw [run_other (by decide +kernel)]
    rfl
  · rw [run_other (by decide +kernel)]
    rfl
  · intro s he
    exact Nat.lt_of_le_of_lt (texts_run (n := 1048576) (by decide) ss (initSQ_texts h0) h5 3 s he) (by decide)
  · exact boosts_run compatSQ ss _ (fun p hp => by cases hp) hfit h6
  · exact fun f hf => Nat.le_trans (fields_run ss _ (fun f hf => by cases hf) h5 f hf) (by decide)
end Go.Proofs.YtbcnhcpgloncdaaGreatDoor

/-
  A simple_query_string QUERY: what is read off it, and what it should be, are Same.
-/
namespace Go.Proofs.YtbcnhcpgloncdaaGreatDoor
open Go.RowKit Go.Sort

def nDefOp : List UInt8 := [100, 101, 102, 97, 117, 108, 116, 95, 111, 112, 101, 114, 97, 116, 111, 114]
def tabLSQ : List (List UInt8 × Nat) := [([102, 108, 97, 103, 115], 7), ([97, 110, 97, 108, 121, 122, 101, 114], 1), ([100, 101, 102, 97, 117, 108, 116, 95, 111, 112, 101, 114, 97, 116, 111, 114], 3), ([108, 111, 119, 101, 114, 99, 97, 115, 101, 95, 101, 120, 112, 97, 110, 100, 101, 100, 95, 116, 101, 114, 109, 115], 9), ([108, 101, 110, 105, 101, 110, 116], 10), ([97, 110, 97, 108, 121, 122, 101, 95, 119, 105, 108, 100, 99, 97, 114, 100], 11), ([108, 111, 99, 97, 108, 101], 12), ([95, 110, 97, 109, 101], 13), ([109, 105, 110, 105, 109, 117, 109, 95, 115, 104, 111, 117, 108, 100, 95, 109, 97, 116, 99, 104], 6), ([113, 117, 111, 116, 101, 95, 102, 105, 101, 108, 100, 95, 115, 117, 102, 102, 105, 120], 2), ([98, 111, 111, 115, 116], 8), ([97, 117, 116, 111, 95, 103, 101, 110, 101, 114, 97, 116, 101, 95, 115, 121, 110, 111, 110, 121, 109, 115, 95, 112, 104, 114, 97, 115, 101, 95, 113, 117, 101, 114, 121], 14), ([102, 117, 122, 122, 121, 95, 112, 114, 101, 102, 105, 120, 95, 108, 101, 110, 103, 116, 104], 15), ([102, 117, 122, 122, 121, 95, 109, 97, 120, 95, 101, 120, 112, 97, 110, 115, 105, 111, 110, 115], 16), ([102, 117, 122, 122, 121, 95, 116, 114, 97, 110, 115, 112, 111, 115, 105, 116, 105, 111, 110, 115], 17)]
/-- A setting's entry; the default operator is lower-cased. -/
def entSQ (q : Q) (r : List UInt8 × Nat) : Option T := if r.1 = nDefOp then lowO (fvT (q.f r.2)) else fvT (q.f r.2)
def optF (ks : List ByteArray) : Option T := if ks = [] then none else some (tList ks)
theorem entF_eq (ks : List ByteArray) : entF ks = ent nFields (optF ks) := by
  unfold entF optF
  split <;> rfl
theorem entsSQ_eq (bt : Nat → List UInt8) (t0 : T) (q : Q) : entsSQ bt t0 q = [(bs nQuery, t0)] ++ ent nFields (optF (fieldTexts bt q)) ++ tabLSQ.flatMap fun r => ent r.1 (entSQ q r) := by
  simp only [entsSQ, tabLSQ, List.flatMap_cons, List.flatMap_nil, List.append_nil, List.append_assoc, entF_eq]
  rfl
def tabESQ (q : Q) (k : ByteArray) : Option T := (tabLSQ.find? fun r => r.1 == k.data.toList).bind (entSQ q)
theorem look_SQ (t0 : T) (q : Q) (k : ByteArray) : lookL (entsSQ bText t0 q) k = three t0 (optF (fieldTexts bText q)) (tabESQ q) k := by
  rw [entsSQ_eq, lookL_src (by decide +kernel) (by decide +kernel) t0 _ (entSQ q) k]
  rfl
theorem fold_low {k : ByteArray} (hk : k.data.toList = nDefOp) (s : ByteArray) : (lowO (some (tText s))).map (foldOne k) = (some (tText s)).map (foldOne k) := by
  have hs : (Lib.hasSuffix k.data.toList lOperator || k.toList == lModifier) = true := by rw [hk, show Lib.hasSuffix nDefOp lOperator = true by decide +kernel]; rfl
  have e : ∀ u : ByteArray, foldOne k (tText u) = tText (lowerB u) := fun u => by
    unfold foldOne
    rw [hs]
    rfl
  show some (foldOne k (tText (lowerB s))) = some (foldOne k (tText s))
  rw [e, e, lower_idem]
/-- Folded, the lower-casing makes no odds. -/
theorem tabSQ_fold {q : Q} (h3 : ∃ s, q.f 3 = .val (.string s)) (k : ByteArray) : (tabESQ q k).map (foldOne k) = (setsL tabLSQ q k).map (foldOne k) := by
  unfold tabESQ setsL
  cases hf : tabLSQ.find? (fun r => r.1 == k.data.toList) with
  | none => rfl
  | some r =>
    rw [Option.bind_some, Option.bind_some]
    have hk : r.1 = k.data.toList := by simpa using List.find?_some hf
    have hm := List.mem_of_find?_eq_some hf
    unfold entSQ
    split
    · rename_i hd
      have h9 : r.2 = 3 := (by decide +kernel : ∀ r ∈ tabLSQ, r.1 = nDefOp → r.2 = 3) r hm hd
      obtain ⟨s, hs⟩ := h3
      rw [h9, hs]
      show (lowO (if s.toList.isEmpty then none else some (tText s))).map _ = (if s.toList.isEmpty then none else some (tText s)).map _
      split
      · rfl
      · exact fold_low (by rw [← hk, hd]) s
    · rfl

/-- The two trees of the law. -/
noncomputable def leftSQ (text : ByteArray) (q : Q) : T := mapTree [(bs nSQ, mapTree (finE false (readE (entsSQ bText (tText text) q) q.fields q.boosts)))]
noncomputable def rightSQ (text : ByteArray) (ss : List S) : T := mapTree [(bs nSQ, mapTree (finE false (pE (sevS SQ.rows (tText text) (fieldKids [] ss) ss))))]
theorem shape3 (text : ByteArray) (ss : List S) : ∃ s, (runQ qtSQ (q0SQ text) ss).f 3 = .val (.string s) := shape_at 0 3 (by decide) (shaped_run pairSQ ss (shapedSQ _ []))
theorem nofields {q : Q} : (q.fields = [] ∧ (optF (fieldTexts bText q) = none ∨ optF (fieldTexts bText q) = some (tList []))) ∨ (q.fields ≠ [] ∧ optF (fieldTexts bText q) = some (tList (q.fields.map (fieldText bText q.boosts)))) := by
  cases hq : q.fields with
  | nil => exact Or.inl ⟨rfl, Or.inl (by unfold optF fieldTexts; rw [hq]; rfl)⟩
  | cons f fs => exact Or.inr ⟨by simp, by unfold optF fieldTexts; rw [hq]; rfl⟩

theorem same_SQ {text : ByteArray} {ss : List S} (hfit : fitsB SQ ss = true) (hfl : fieldsB (fieldNames [] ss) = true) (hn : ∀ s ∈ ss, s.value.num < 18446744073709551616) :
    sameB (leftSQ text (runQ qtSQ (q0SQ text) ss)) (rightSQ text ss) = true := by
  have hfa := fits_all hfit
  have hbo := boosts_run compatSQ ss (q0SQ text) (fun p hp => by cases hp) hfa hn
  refine law_same (B := SQ) (tab := qtSQ) (q0 := q0SQ text) (by rw [rowsSQ_is]; decide +kernel) (by rw [rowsSQ_is]; decide +kernel) (by rw [rowsSQ_is]; decide +kernel) rfl hfa hfl (boosts_feq hbo) (same_text text) (look_SQ _ _) (fun k => ?_) nofields
  rw [tabSQ_fold (shape3 text ss)]
  refine opt_fold (tabs_same (B := SQ) (tab := qtSQ) (by decide +kernel) (by decide +kernel) (by decide +kernel) (by rw [rowsSQ_is]; decide +kernel) (q0 := q0SQ text) (fun a ha => ?_) hfa (fun r hr h4 => ?_) k)
  · simp only [tabLSQ, List.mem_cons, List.not_mem_nil, or_false] at ha
    rcases ha with rfl | rfl | rfl | rfl | rfl | rfl | rfl | rfl | rfl | rfl | rfl | rfl | rfl | rfl | rfl <;> first | rfl | exact fvT_empty
  · exact absurd h4 (by revert r; decide +kernel)

theorem lowerD_len : ∀ (n : Nat) (l : List UInt8), l.length ≤ n → (Lib.toLowerD l).length ≤ 4 * l.length
  | 0, l, h => by
    obtain rfl := List.eq_nil_of_length_eq_zero (Nat.le_zero.1 h)
    exact Nat.le_refl _
  | n + 1, l, h => by
    by_cases hne : l = []
    · subst hne; exact Nat.le_refl _
    · have hw := Lib.decodeL_width l
      have hl : 0 < l.length := List.length_pos_iff.2 hne
      have ih := lowerD_len n (l.drop (Lib.decodeL l).2) (by rw [List.length_drop]; omega)
      have hd := Lib.decodeL_le l hne
      have h8 := (Lib.runeCells_le (Lib.toLowerU (Lib.decodeL l).1)).2
      rw [Lib.runeCells_length] at h8
      have e : Lib.toLowerD l = Lib.encodeRune (Lib.toLowerU (Lib.decodeL l).1) ++ Lib.toLowerD (l.drop (Lib.decodeL l).2) := by
        show Lib.mapD Lib.toLowerU l = _
        rw [Lib.mapD_step _ _ hne, if_pos (lower_ok _).1]
        rfl
      rw [e, List.length_append]
      rw [List.length_drop] at ih
      omega
theorem lowerB_len (s : ByteArray) : (lowerB s).size ≤ 4 * s.size := by
  have := lowerD_len _ s.data.toList (Nat.le_refl _)
  show (Lib.toLowerD s.data.toList).toArray.size ≤ _
  rw [List.size_toArray]
  exact this
/-- What an entry is like. -/
theorem entSQ_like {q : Q} {r : List UInt8 × Nat} {t : T} {n : Nat} (hs : Texts n q) (h : entSQ q r = some t) : (t.kind == 0) = false ∧ (t.kind == 5) = false ∧ t.text.size ≤ 4 * n ∧ wT t = 1 := by
  unfold entSQ at h
  split at h
  · unfold lowO at h
    obtain ⟨u, hu, rfl⟩ := Option.map_eq_some_iff.1 h
    have hl := fvT_like (n := n) (hs r.2) hu
    refine ⟨rfl, rfl, ?_, wT_text _⟩
    have := lowerB_len u.text
    show (lowerB u.text).size ≤ _
    omega
  · have hl := fvT_like (n := n) (hs r.2) h
    exact ⟨hl.1, hl.2.1, by omega, hl.2.2.2⟩
theorem sev_ok2 {B : Builder} {text : T} {ss : List S} {fs : List T} (hk5 : (text.kind == 5) = false) (ht : text.text.size ≤ 1048576) (h5 : ∀ s ∈ ss, s.value.text.size ≤ 1048576) (hfit : ∀ s ∈ ss, fitsAt B s = true) (hrow : B.rows.all (fun r => decide (r.1.length ≤ 100)) = true) :
    ∀ p ∈ pE (sevS B.rows text fs ss), (p.2.kind == 5) = false ∧ p.2.text.size < 35184372088832 ∧ p.1.size ≤ 9223372036854775807 := by
  intro p hp
  unfold sevS at hp
  rw [pE_app, pE_app] at hp
  rcases List.mem_append.1 hp with hp | hp
  · rcases List.mem_append.1 hp with hp | hp
    · obtain ⟨s, hs, rfl⟩ := List.mem_map.1 hp
      have hs2 := (List.mem_filter.1 hs).1
      obtain ⟨r, hr, hp2⟩ := List.mem_flatMap.1 hs2
      have hr9 := of_decide_eq_true (List.all_eq_true.1 hrow r hr)
      unfold paramOf at hp2
      cases hl : lastS ss (bs r.1) with
      | none => rw [hl] at hp2; cases hp2
      | some v =>
        rw [hl] at hp2
        dsimp only at hp2
        split at hp2
        · obtain rfl : s = ⟨bs r.1, v⟩ := by simpa using hp2
          obtain ⟨u, hu, hun, rfl⟩ := lastS_mem hl
          have hf := hfit u hu
          have hk : u.value.kind = 1 ∨ u.value.kind = 2 ∨ u.value.kind = 3 := by
            obtain ⟨r', -, -, hf'⟩ := fits_kind hf
            unfold fitB at hf'
            split at hf'
            · simp at hf'; exact Or.inl hf'.1
            · split at hf'
              · simp at hf'; exact Or.inr (Or.inl hf'.1)
              · split at hf'
                · simp at hf'; exact Or.inr (Or.inl hf'.1)
                · split at hf'
                  · simp at hf'; exact Or.inr (Or.inr hf'.1)
                  · split at hf'
                    · simp at hf'; exact Or.inl hf'.1
                    · cases hf'
          refine ⟨by rcases hk with h | h | h <;> (show (u.value.kind == 5) = false; rw [h]; rfl), by have := h5 u hu; show u.value.text.size < _; omega, ?_⟩
          show (bs r.1).size ≤ _
          rw [bs_size]; omega
        · cases hp2
    · unfold fieldsS at hp
      split at hp
      · cases hp
      · obtain rfl : p = _ := by simpa [pE] using hp
        exact ⟨rfl, by show (⟨#[]⟩ : ByteArray).size < _; decide, by show (bs nFields).size ≤ _; rw [bs_size]; decide⟩
  · obtain rfl : p = (bs nQuery, text) := by simpa [pE] using hp
    refine ⟨?_, by show text.text.size < _; omega, by show (bs nQuery).size ≤ _; rw [bs_size]; decide⟩
    exact hk5

/-- All parts of the law. -/
theorem lawOk_SQ {W : World} {text : ByteArray} {ss : List S} (hG : Glob W) (hGP : GlobP W) (h0 : text.size ≤ 1048576) (h3 : ss.length ≤ 1048576) (h5 : ∀ s ∈ ss, s.value.text.size ≤ 1048576) (h6 : ∀ s ∈ ss, s.value.num < 18446744073709551616) :
    LawOk2 W 22 SQ nSQ text ss (treeSQ text (runQ qtSQ (q0SQ text) ss)) (leftSQ text (runQ qtSQ (q0SQ text) ss)) (rightSQ text ss) := by
  intro hfit hfl
  have hfa := fits_all hfit
  have hbo := boosts_run compatSQ ss (q0SQ text) (fun p hp => by cases hp) hfa h6
  have htx := texts_run (n := 1048576) (by decide) (tab := qtSQ) ss (q := q0SQ text) (initSQ_texts h0) h5
  have hrf : (runQ qtSQ (q0SQ text) ss).fields = [] ++ ss.filterMap nameOf := (run_fields qtSQ ss (q0SQ text)).1
  have hfn : (runQ qtSQ (q0SQ text) ss).fields.length ≤ 2097152 := by
    rw [hrf, List.nil_append]
    have := List.length_filterMap_le nameOf ss
    omega
  have hlike : ∀ p ∈ entsSQ bText (tText text) (runQ qtSQ (q0SQ text) ss), (p.2.kind == 0) = false ∧ (p.2.kind == 5) = false ∧ p.2.text.size < 35184372088832 ∧ p.1.size ≤ 9223372036854775807 := by
    rw [entsSQ_eq]
    refine ents_all ⟨rfl, rfl, by show text.size < _; omega, by rw [bs_size]; decide⟩ (fun t ht => ?_) fun r hr t ht => ?_
    · unfold optF at ht
      split at ht
      · cases ht
      · cases ht; exact ⟨rfl, rfl, by show (⟨#[]⟩ : ByteArray).size < _; decide, by rw [bs_size]; decide⟩
    · obtain ⟨a1, a2, a3, a4⟩ := entSQ_like (n := 1048576) htx ht
      exact ⟨a1, a2, Nat.lt_of_le_of_lt a3 (by decide), by rw [bs_size]; simp only [tabLSQ, List.mem_cons, List.not_mem_nil, or_false] at hr; rcases hr with rfl | rfl | rfl | rfl | rfl | rfl | rfl | rfl | rfl | rfl | rfl | rfl | rfl | rfl | rfl <;> decide⟩
  have hlen : (entsSQ bText (tText text) (runQ qtSQ (q0SQ text) ss)).length ≤ 18 := by
    unfold entsSQ
    repeat (refine len_ent _ _ ?_)
    rw [List.length_append]
    have := entF_le (fieldTexts bText (runQ qtSQ (q0SQ text) ss))
    simp
    omega
  refine ⟨fun w vs hb hs => ?_, fun w v hb hv => ?_, fun w vt vf vs hb ht hf hs => ?_, same_SQ hfit hfl h6, ?_⟩
  · exact sq_any (hG.below hb) h0 h3 h5 h6 hfa hs
  · refine readFields_any false nSQ (kinded_no (by decide)) (fun _ => True) w v (entsSQ bText (tText text) (runQ qtSQ (q0SQ text) ss)) (runQ qtSQ (q0SQ text) ss).fields (runQ qtSQ (q0SQ text) ss).boosts (fun _ _ => trivial) (hG.below hb) (hGP.below hb) hv (by decide) hfn (by omega) hlike ?_ (fun f hf => ?_) hbo
    · rw [look_SQ, three_fields]
      exact nofields
    · have hfm : f ∈ fieldNames [] ss := by rw [hrf] at hf; exact hf
      exact ⟨field_plain ((fieldsB_all hfl).2 f hfm), Nat.le_trans (fields_run ss (q0SQ text) (fun f hf => by cases hf) h5 f hf) (by decide)⟩
  · exact several_any SQ false nSQ (kinded_no (by decide)) (fun _ => True) w vt vf vs (tText text) [] ss (fun _ _ => trivial) (hG.below hb) ht hf hs (by simp) (by omega) (by decide) (sev_ok2 rfl h0 h5 hfa (by rw [rowsSQ_is]; decide +kernel))
  · refine tree_w (M := 1 + (runQ qtSQ (q0SQ text) ss).fields.length * 6) ?_ (by omega) ?_
    · refine fold_w (by omega) (read_w ?_)
      rw [entsSQ_eq]
      refine ents_all (by show wT (tText text) ≤ _; rw [wT_text]; omega) (fun t ht => ?_) fun r hr t ht => ?_
      · unfold optF at ht
        split at ht
        · cases ht
        · cases ht
          have := wT_list (fieldTexts bText (runQ qtSQ (q0SQ text) ss))
          have e : (fieldTexts bText (runQ qtSQ (q0SQ text) ss)).length = (runQ qtSQ (q0SQ text) ss).fields.length := by simp [fieldTexts]
          rw [e] at this
          show wT (tList _) ≤ _
          omega
      · have := (entSQ_like (n := 1048576) htx ht).2.2.2
        show wT t ≤ _
        omega
    · show (foldEE (readE _ _ _)).length ≤ 40
      have h1 := foldEE_len (readE (entsSQ bText (tText text) (runQ qtSQ (q0SQ text) ss)) (runQ qtSQ (q0SQ text) ss).fields (runQ qtSQ (q0SQ text) ss).boosts)
      have h2 := readE_len (entsSQ bText (tText text) (runQ qtSQ (q0SQ text) ss)) (runQ qtSQ (q0SQ text) ss).fields (runQ qtSQ (q0SQ text) ss).boosts
      omega
end Go.Proofs.YtbcnhcpgloncdaaGreatDoor
