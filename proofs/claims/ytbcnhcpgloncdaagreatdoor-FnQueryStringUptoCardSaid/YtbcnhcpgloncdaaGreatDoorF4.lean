/-
  impl.QueryString: WHAT IT TELLS.
-/
import Derived.Test.YtbcnhcpgloncdaaGreatDoorD1
import Derived.Test.YtbcnhcpgloncdaaGreatDoorF1
import Derived.Test.YtbcnhcpgloncdaaGreatDoorF2
import Derived.Test.YtbcnhcpgloncdaaGreatDoorF3
namespace Go.Proofs.YtbcnhcpgloncdaaGreatDoor
open Go.RowKit Go.Sort

theorem compatQS : Compat qtQS QS := ⟨by rw [rowsQS_is]; decide +kernel, by rw [rowsQS_is]; decide +kernel⟩
theorem pairQS : qtQS.Pairwise (fun a b => a.2.1 ≠ b.2.1) := by decide +kernel
theorem shapedQS (u : Value) (ks : List ByteArray) : Shaped qtQS (initQ (cQS u) ks) := by
  intro r hr
  simp only [qtQS, List.mem_cons, List.not_mem_nil, or_false] at hr
  rcases hr with rfl | rfl | rfl | rfl | rfl | rfl | rfl | rfl | rfl | rfl | rfl | rfl | rfl | rfl | rfl | rfl | rfl | rfl | rfl | rfl | rfl | rfl | rfl
  all_goals first | exact Or.inl rfl | exact ⟨_, rfl⟩
theorem initQS_ok (s : ByteArray) (ks : List ByteArray) : ∀ i, FVok ((initQ (cQS (.string s)) ks).f i) := by
  intro i
  show FVok (fvOf ((cQS (.string s))[i]?.getD .nilIface))
  rcases Nat.lt_or_ge i 28 with h | h
  · have : i = 0 ∨ i = 1 ∨ i = 2 ∨ i = 3 ∨ i = 4 ∨ i = 5 ∨ i = 6 ∨ i = 7 ∨ i = 8 ∨ i = 9 ∨ i = 10 ∨ i = 11 ∨ i = 12 ∨ i = 13 ∨ i = 14 ∨ i = 15 ∨ i = 16 ∨ i = 17 ∨ i = 18 ∨ i = 19 ∨ i = 20 ∨ i = 21 ∨ i = 22 ∨ i = 23 ∨ i = 24 ∨ i = 25 ∨ i = 26 ∨ i = 27 := by omega
    rcases this with rfl | rfl | rfl | rfl | rfl | rfl | rfl | rfl | rfl | rfl | rfl | rfl | rfl | rfl | rfl | rfl | rfl | rfl | rfl | rfl | rfl | rfl | rfl | rfl | rfl | rfl | rfl | rfl
    all_goals first | exact fvok_text _ | (intro t h; exact absurd h (by decide)) | exact fun t h => by cases h
  · have e : (cQS (.string s))[i]? = none := Array.getElem?_eq_none h
    rw [e]
    exact fun t h => by cases h
theorem len_ent {a : List (ByteArray × T)} {n : Nat} (k : List UInt8) (o : Option T) (h : a.length ≤ n) : (a ++ ent k o).length ≤ n + 1 := by
  rw [List.length_append]
  have := ent_le k o
  omega
def q0QS (text : ByteArray) : Q := initQ (cQS (.string text)) []
noncomputable def treeQS (text : ByteArray) (q : Q) : T := mapTree [(bs [113, 117, 101, 114, 121, 95, 115, 116, 114, 105, 110, 103], mapTree (entsQS bText (tText text) q))]
theorem all_append {α : Type} {P : α → Prop} {a b : List α} (h1 : ∀ p ∈ a, P p) (h2 : ∀ p ∈ b, P p) : ∀ p ∈ a ++ b, P p := fun p hp => (List.mem_append.1 hp).elim (h1 p) (h2 p)

theorem initQS_texts {text : ByteArray} {n : Nat} (h : text.size ≤ n) : Texts n (q0QS text) := by
  intro i s hs
  have h : fvOf ((cQS (.string text))[i]?.getD .nilIface) = .val (.string s) := hs
  rcases Nat.lt_or_ge i 28 with hi | hi
  · have : i = 0 ∨ i = 1 ∨ i = 2 ∨ i = 3 ∨ i = 4 ∨ i = 5 ∨ i = 6 ∨ i = 7 ∨ i = 8 ∨ i = 9 ∨ i = 10 ∨ i = 11 ∨ i = 12 ∨ i = 13 ∨ i = 14 ∨ i = 15 ∨ i = 16 ∨ i = 17 ∨ i = 18 ∨ i = 19 ∨ i = 20 ∨ i = 21 ∨ i = 22 ∨ i = 23 ∨ i = 24 ∨ i = 25 ∨ i = 26 ∨ i = 27 := by omega
    rcases this with rfl | rfl | rfl | rfl | rfl | rfl | rfl | rfl | rfl | rfl | rfl | rfl | rfl | rfl | rfl | rfl | rfl | rfl | rfl | rfl | rfl | rfl | rfl | rfl | rfl | rfl | rfl | rfl
    all_goals first | (cases h; done) | (cases h; assumption) | (cases h; exact Nat.zero_le _)
  · rw [Array.getElem?_eq_none hi] at h
    cases h
theorem run_q {text : ByteArray} {ss : List S} (h3 : ss.length ≤ 1048576) (hfit : ∀ s ∈ ss, fitsAt QS s = true) :
    (∀ i, FVok ((runQ qtQS (q0QS text) ss).f i)) ∧ (runQ qtQS (q0QS text) ss).fields.length ≤ 4194304 := by
  refine ⟨fvok_run compatQS ss _ (initQS_ok _ []) hfit, ?_⟩
  have := (runQ_len qtQS ss (q0QS text)).1
  have e : (q0QS text).fields = [] := rfl
  rw [e] at this
  simp at this
  omega

/-- impl.QueryString's contract, whole. -/
theorem qs_any {w : World} {ok : Nat → Prop} {vs : Value} {text : ByteArray} {ss : List S} (hG : Glob w) (_h0 : text.size ≤ 1048576) (h3 : ss.length ≤ 1048576) (h5 : ∀ s ∈ ss, s.value.text.size ≤ 1048576)
    (h6 : ∀ s ∈ ss, s.value.num < 18446744073709551616) (hfit : ∀ s ∈ ss, fitsAt QS s = true) (hs : SetsAt w ok vs ss) :
    Calls Tryz.prog 25 #[.string text, vs] w (RetTold w fun t => t = treeQS text (runQ qtQS (q0QS text) ss)) := by
  refine impl_25 hs hfit (fun s hs => by have := h5 s hs; omega) (by omega) hG (fun q t => t = treeQS text q) ?_
  intro w1 lo bq hb hlo hq
  have hr := run_q (text := text) h3 hfit
  refine source_120 bText (okx := okB) (fun x w h hg => formatFloat_any x w h hg) bText_small hq (hG.below hb) (shaped_run pairQS ss (shapedQS _ [])) text ?_ ?_ ?_ ?_ ?_ hr.2
  · rw [run_other (by decide +kernel)]
    rfl
  · rw [run_other (by decide +kernel)]
    rfl
  · rw [run_other (by decide +kernel)]
    rfl
  · exact boosts_run compatQS ss _ (fun p hp => by cases hp) hfit h6
  · exact fun f hf => Nat.le_trans (fields_run ss _ (fun f hf => by cases hf) h5 f hf) (by decide)
end Go.Proofs.YtbcnhcpgloncdaaGreatDoor

/-
  A query_string QUERY: what is read off it, and what it should be, are Same.
-/
namespace Go.Proofs.YtbcnhcpgloncdaaGreatDoor
open Go.RowKit Go.Sort

def nDF : List UInt8 := [100, 101, 102, 97, 117, 108, 116, 95, 102, 105, 101, 108, 100]
def tabRQS : List (List UInt8 × Nat) := [([116, 105, 101, 95, 98, 114, 101, 97, 107, 101, 114], 19), ([100, 101, 102, 97, 117, 108, 116, 95, 111, 112, 101, 114, 97, 116, 111, 114], 2), ([97, 110, 97, 108, 121, 122, 101, 114], 3), ([113, 117, 111, 116, 101, 95, 97, 110, 97, 108, 121, 122, 101, 114], 4), ([109, 97, 120, 95, 100, 101, 116, 101, 114, 109, 105, 110, 105, 122, 101, 100, 95, 115, 116, 97, 116, 101, 115], 25), ([97, 108, 108, 111, 119, 95, 108, 101, 97, 100, 105, 110, 103, 95, 119, 105, 108, 100, 99, 97, 114, 100], 6), ([108, 111, 119, 101, 114, 99, 97, 115, 101, 95, 101, 120, 112, 97, 110, 100, 101, 100, 95, 116, 101, 114, 109, 115], 7), ([101, 110, 97, 98, 108, 101, 95, 112, 111, 115, 105, 116, 105, 111, 110, 95, 105, 110, 99, 114, 101, 109, 101, 110, 116, 115], 8), ([102, 117, 122, 122, 105, 110, 101, 115, 115], 12), ([98, 111, 111, 115, 116], 11), ([102, 117, 122, 122, 121, 95, 112, 114, 101, 102, 105, 120, 95, 108, 101, 110, 103, 116, 104], 13), ([102, 117, 122, 122, 121, 95, 109, 97, 120, 95, 101, 120, 112, 97, 110, 115, 105, 111, 110, 115], 14), ([102, 117, 122, 122, 121, 95, 114, 101, 119, 114, 105, 116, 101], 15), ([112, 104, 114, 97, 115, 101, 95, 115, 108, 111, 112], 16), ([97, 110, 97, 108, 121, 122, 101, 95, 119, 105, 108, 100, 99, 97, 114, 100], 9), ([114, 101, 119, 114, 105, 116, 101], 20), ([109, 105, 110, 105, 109, 117, 109, 95, 115, 104, 111, 117, 108, 100, 95, 109, 97, 116, 99, 104], 21), ([113, 117, 111, 116, 101, 95, 102, 105, 101, 108, 100, 95, 115, 117, 102, 102, 105, 120], 5), ([108, 101, 110, 105, 101, 110, 116], 22), ([95, 110, 97, 109, 101], 23), ([108, 111, 99, 97, 108, 101], 10), ([116, 105, 109, 101, 95, 122, 111, 110, 101], 24), ([101, 115, 99, 97, 112, 101], 26), ([116, 121, 112, 101], 27)]
def tabLQS : List (List UInt8 × Nat) := (nDF, 1) :: tabRQS
def optF (ks : List ByteArray) : Option T := if ks = [] then none else some (tList ks)
theorem entF_eq (ks : List ByteArray) : entF ks = ent nFields (optF ks) := by
  unfold entF optF
  split <;> rfl
set_option maxHeartbeats 4000000 in
set_option maxRecDepth 100000 in
theorem entsQS_eq (bt : Nat → List UInt8) (t0 : T) (q : Q) : entsQS bt t0 q = [(bs nQuery, t0)] ++ ent nDF (fvT (q.f 1)) ++ ent nFields (optF (fieldTexts bt q)) ++ tabRQS.flatMap fun r => ent r.1 (fvT (q.f r.2)) := by
  unfold entsQS tabRQS nDF nQuery
  simp only [List.flatMap_cons, List.flatMap_nil, List.append_nil, List.append_assoc, entF_eq]
theorem look_swap {a b : List UInt8} (hab : a ≠ b) (x y : Option T) (k : ByteArray) : (lookL (ent b y) k).or (lookL (ent a x) k) = (lookL (ent a x) k).or (lookL (ent b y) k) := by
  rw [lookL_ent, lookL_ent]
  by_cases h1 : eqB (bs a) k = true
  · by_cases h2 : eqB (bs b) k = true
    · exact absurd (((name_eq a k).1 h1).symm.trans ((name_eq b k).1 h2)) hab
    · rw [if_pos h1, if_neg h2]; simp
  · rw [if_neg h1]; simp
theorem or_four (a f d q : Option T) (h : f.or d = d.or f) : a.or (f.or (d.or q)) = (a.or d).or (f.or q) := by
  cases a with
  | some a => rfl
  | none =>
    show f.or (d.or q) = d.or (f.or q)
    rw [← Option.or_assoc, ← Option.or_assoc, h]
theorem look_QS (t0 : T) (q : Q) (k : ByteArray) : lookL (entsQS bText t0 q) k = three t0 (optF (fieldTexts bText q)) (setsL tabLQS q) k := by
  have h := lookL_src (tabL := tabLQS) (by decide +kernel) (by decide +kernel) t0 (optF (fieldTexts bText q)) (fun r => fvT (q.f r.2)) k
  refine Eq.trans ?_ (h.trans rfl)
  rw [entsQS_eq]
  show lookL ([(bs nQuery, t0)] ++ ent nDF (fvT (q.f 1)) ++ ent nFields (optF (fieldTexts bText q)) ++ tabRQS.flatMap fun r => ent r.1 (fvT (q.f r.2))) k = lookL ([(bs nQuery, t0)] ++ ent nFields (optF (fieldTexts bText q)) ++ (ent nDF (fvT (q.f 1)) ++ tabRQS.flatMap fun r => ent r.1 (fvT (q.f r.2)))) k
  rw [lookL_app, lookL_app, lookL_app, lookL_app, lookL_app, lookL_app]
  exact or_four _ _ _ _ (look_swap (by decide) _ _ k)

/-- The two trees of the law. -/
noncomputable def leftQS (text : ByteArray) (q : Q) : T := mapTree [(bs nQS, mapTree (finE false (readE (entsQS bText (tText text) q) q.fields q.boosts)))]
noncomputable def rightQS (text : ByteArray) (ss : List S) : T := mapTree [(bs nQS, mapTree (finE false (pE (sevS QS.rows (tText text) (fieldKids [] ss) ss))))]
theorem nofields {q : Q} : (q.fields = [] ∧ (optF (fieldTexts bText q) = none ∨ optF (fieldTexts bText q) = some (tList []))) ∨ (q.fields ≠ [] ∧ optF (fieldTexts bText q) = some (tList (q.fields.map (fieldText bText q.boosts)))) := by
  cases hq : q.fields with
  | nil => exact Or.inl ⟨rfl, Or.inl (by unfold optF fieldTexts; rw [hq]; rfl)⟩
  | cons f fs => exact Or.inr ⟨by simp, by unfold optF fieldTexts; rw [hq]; rfl⟩

theorem same_QS {text : ByteArray} {ss : List S} (hfit : fitsB QS ss = true) (hfl : fieldsB (fieldNames [] ss) = true) (hn : ∀ s ∈ ss, s.value.num < 18446744073709551616) :
    sameB (leftQS text (runQ qtQS (q0QS text) ss)) (rightQS text ss) = true := by
  have hfa := fits_all hfit
  have hbo := boosts_run compatQS ss (q0QS text) (fun p hp => by cases hp) hfa hn
  refine law_same (B := QS) (tab := qtQS) (q0 := q0QS text) (by rw [rowsQS_is]; decide +kernel) (by rw [rowsQS_is]; decide +kernel) (by rw [rowsQS_is]; decide +kernel) rfl hfa hfl (boosts_feq hbo) (same_text text) (look_QS _ _) (fun k => ?_) nofields
  refine opt_fold (tabs_same (tabL := tabLQS) (B := QS) (tab := qtQS) (by decide +kernel) (by decide +kernel) (by decide +kernel) (by rw [rowsQS_is]; decide +kernel) (q0 := q0QS text) (fun a ha => ?_) hfa (fun r hr h4 => ?_) k)
  · simp only [tabLQS, tabRQS, List.mem_cons, List.not_mem_nil, or_false] at ha
    rcases ha with rfl | rfl | rfl | rfl | rfl | rfl | rfl | rfl | rfl | rfl | rfl | rfl | rfl | rfl | rfl | rfl | rfl | rfl | rfl | rfl | rfl | rfl | rfl | rfl | rfl <;> first | rfl | exact fvT_empty
  · exact absurd h4 (by revert r; decide +kernel)

theorem sev_ok2 {B : Builder} {text : T} {ss : List S} {fs : List T} (hk5 : (text.kind == 5) = false) (ht : text.text.size ≤ 1048576) (h5 : ∀ s ∈ ss, s.value.text.size ≤ 1048576) (hfit : ∀ s ∈ ss, fitsAt B s = true) (hrow : B.rows.all (fun r => decide (r.1.length ≤ 100)) = true) :
    ∀ p ∈ pE (sevS B.rows text fs ss), (p.2.kind == 5) = false ∧ p.2.text.size < 35184372088832 ∧ p.1.size ≤ 9223372036854775807 := by
  intro p hp
  unfold sevS at hp
  rw [pE_app, pE_app] at hp
  rcases List.mem_append.1 hp with hp | hp
  · rcases List.mem_append.1 hp with hp | hp
    · obtain ⟨s, hs, rfl⟩ := List.mem_map.1 hp
      have hs2 := (List.mem_filter.1 hs).1
      obtain ⟨r, hr, hp2⟩ := List.mem_flatMap.1 hs2
      have hr9 := of_decide_eq_true (List.all_eq_true.1 hrow r hr)
      unfold paramOf at hp2
      cases hl : lastS ss (bs r.1) with
      | none => rw [hl] at hp2; cases hp2
      | some v =>
        rw [hl] at hp2
        dsimp only at hp2
        split at hp2
        · obtain rfl : s = ⟨bs r.1, v⟩ := by simpa using hp2
          obtain ⟨u, hu, hun, rfl⟩ := lastS_mem hl
          have hf := hfit u hu
          have hk : u.value.kind = 1 ∨ u.value.kind = 2 ∨ u.value.kind = 3 := by
            obtain ⟨r', -, -, hf'⟩ := fits_kind hf
            unfold fitB at hf'
            split at hf'
            · simp at hf'; exact Or.inl hf'.1
            · split at hf'
              · simp at hf'; exact Or.inr (Or.inl hf'.1)
              · split at hf'
                · simp at hf'; exact Or.inr (Or.inl hf'.1)
                · split at hf'
                  · simp at hf'; exact Or.inr (Or.inr hf'.1)
                  · split at hf'
                    · simp at hf'; exact Or.inl hf'.1
                    · cases hf'
          refine ⟨by rcases hk with h | h | h <;> (show (u.value.kind == 5) = false; rw [h]; rfl), by have := h5 u hu; show u.value.text.size < _; omega, ?_⟩
          show (bs r.1).size ≤ _
          rw [bs_size]; omega
        · cases hp2
    · unfold fieldsS at hp
      split at hp
      · cases hp
      · obtain rfl : p = _ := by simpa [pE] using hp
        exact ⟨rfl, by show (⟨#[]⟩ : ByteArray).size < _; decide, by show (bs nFields).size ≤ _; rw [bs_size]; decide⟩
  · obtain rfl : p = (bs nQuery, text) := by simpa [pE] using hp
    refine ⟨?_, by show text.text.size < _; omega, by show (bs nQuery).size ≤ _; rw [bs_size]; decide⟩
    exact hk5

theorem ents_all4 {t0 : T} {D F : Option T} {tabL : List (List UInt8 × Nat)} {g : List UInt8 × Nat → Option T} {P : ByteArray × T → Prop} (h0 : P (bs nQuery, t0)) (hD : ∀ t, D = some t → P (bs nDF, t)) (hF : ∀ t, F = some t → P (bs nFields, t)) (hg : ∀ r ∈ tabL, ∀ t, g r = some t → P (bs r.1, t)) :
    ∀ p ∈ [(bs nQuery, t0)] ++ ent nDF D ++ ent nFields F ++ tabL.flatMap (fun r => ent r.1 (g r)), P p := by
  intro p hp
  rcases List.mem_append.1 hp with hp | hp
  · rcases List.mem_append.1 hp with hp | hp
    · rcases List.mem_append.1 hp with hp | hp
      · obtain rfl : p = _ := by simpa using hp
        exact h0
      · exact ent_all hD p hp
    · exact ent_all hF p hp
  · obtain ⟨r, hr, hp⟩ := List.mem_flatMap.1 hp
    exact ent_all (hg r hr) p hp
/-- All parts of the law. -/
theorem lawOk_QS {W : World} {text : ByteArray} {ss : List S} (hG : Glob W) (hGP : GlobP W) (h0 : text.size ≤ 1048576) (h3 : ss.length ≤ 1048576) (h5 : ∀ s ∈ ss, s.value.text.size ≤ 1048576) (h6 : ∀ s ∈ ss, s.value.num < 18446744073709551616) :
    LawOk2 W 25 QS nQS text ss (treeQS text (runQ qtQS (q0QS text) ss)) (leftQS text (runQ qtQS (q0QS text) ss)) (rightQS text ss) := by
  intro hfit hfl
  have hfa := fits_all hfit
  have hbo := boosts_run compatQS ss (q0QS text) (fun p hp => by cases hp) hfa h6
  have htx := texts_run (n := 1048576) (by decide) (tab := qtQS) ss (q := q0QS text) (initQS_texts h0) h5
  have hrf : (runQ qtQS (q0QS text) ss).fields = [] ++ ss.filterMap nameOf := (run_fields qtQS ss (q0QS text)).1
  have hfn : (runQ qtQS (q0QS text) ss).fields.length ≤ 2097152 := by
    rw [hrf, List.nil_append]
    have := List.length_filterMap_le nameOf ss
    omega
  have hlike : ∀ p ∈ entsQS bText (tText text) (runQ qtQS (q0QS text) ss), (p.2.kind == 0) = false ∧ (p.2.kind == 5) = false ∧ p.2.text.size < 35184372088832 ∧ p.1.size ≤ 9223372036854775807 := by
    rw [entsQS_eq]
    refine ents_all4 ⟨rfl, rfl, by show text.size < _; omega, by rw [bs_size]; decide⟩ (fun t ht => ?_) (fun t ht => ?_) fun r hr t ht => ?_
    · obtain ⟨a1, a2, a3, a4⟩ := fvT_like (n := 1048576) (htx 1) ht
      exact ⟨a1, a2, Nat.lt_of_le_of_lt a3 (by decide), by rw [bs_size]; decide⟩
    · unfold optF at ht
      split at ht
      · cases ht
      · cases ht; exact ⟨rfl, rfl, by show (⟨#[]⟩ : ByteArray).size < _; decide, by rw [bs_size]; decide⟩
    · obtain ⟨a1, a2, a3, a4⟩ := fvT_like (n := 1048576) (htx r.2) ht
      exact ⟨a1, a2, Nat.lt_of_le_of_lt a3 (by decide), by rw [bs_size]; simp only [tabRQS, List.mem_cons, List.not_mem_nil, or_false] at hr; rcases hr with rfl | rfl | rfl | rfl | rfl | rfl | rfl | rfl | rfl | rfl | rfl | rfl | rfl | rfl | rfl | rfl | rfl | rfl | rfl | rfl | rfl | rfl | rfl | rfl <;> decide⟩
  have hlen : (entsQS bText (tText text) (runQ qtQS (q0QS text) ss)).length ≤ 30 := by
    unfold entsQS
    repeat (refine len_ent _ _ ?_)
    rw [List.length_append, List.length_append]
    have := ent_le [100, 101, 102, 97, 117, 108, 116, 95, 102, 105, 101, 108, 100] (fvT ((runQ qtQS (q0QS text) ss).f 1))
    have := entF_le (fieldTexts bText (runQ qtQS (q0QS text) ss))
    simp
    omega
  refine ⟨fun w vs hb hs => ?_, fun w v hb hv => ?_, fun w vt vf vs hb ht hf hs => ?_, same_QS hfit hfl h6, ?_⟩
  · exact qs_any (hG.below hb) h0 h3 h5 h6 hfa hs
  · refine readFields_any false nQS (kinded_no (by decide)) (fun _ => True) w v (entsQS bText (tText text) (runQ qtQS (q0QS text) ss)) (runQ qtQS (q0QS text) ss).fields (runQ qtQS (q0QS text) ss).boosts (fun _ _ => trivial) (hG.below hb) (hGP.below hb) hv (by decide) hfn (by omega) hlike ?_ (fun f hf => ?_) hbo
    · rw [look_QS, three_fields]
      exact nofields
    · have hfm : f ∈ fieldNames [] ss := by rw [hrf] at hf; exact hf
      exact ⟨field_plain ((fieldsB_all hfl).2 f hfm), Nat.le_trans (fields_run ss (q0QS text) (fun f hf => by cases hf) h5 f hf) (by decide)⟩
  · exact several_any QS false nQS (kinded_no (by decide)) (fun _ => True) w vt vf vs (tText text) [] ss (fun _ _ => trivial) (hG.below hb) ht hf hs (by simp) (by omega) (by decide) (sev_ok2 rfl h0 h5 hfa (by rw [rowsQS_is]; decide +kernel))
  · refine tree_w (M := 1 + (runQ qtQS (q0QS text) ss).fields.length * 6) ?_ (by omega) ?_
    · refine fold_w (by omega) (read_w ?_)
      rw [entsQS_eq]
      refine ents_all4 (by show wT (tText text) ≤ _; rw [wT_text]; omega) (fun t ht => ?_) (fun t ht => ?_) fun r hr t ht => ?_
      · have := (fvT_like (n := 1048576) (htx 1) ht).2.2.2
        show wT t ≤ _
        omega
      · unfold optF at ht
        split at ht
        · cases ht
        · cases ht
          have := wT_list (fieldTexts bText (runQ qtQS (q0QS text) ss))
          have e : (fieldTexts bText (runQ qtQS (q0QS text) ss)).length = (runQ qtQS (q0QS text) ss).fields.length := by simp [fieldTexts]
          rw [e] at this
          show wT (tList _) ≤ _
          omega
      · have := (fvT_like (n := 1048576) (htx r.2) ht).2.2.2
        show wT t ≤ _
        omega
    · show (foldEE (readE _ _ _)).length ≤ 40
      have h1 := foldEE_len (readE (entsQS bText (tText text) (runQ qtQS (q0QS text) ss)) (runQ qtQS (q0QS text) ss).fields (runQ qtQS (q0QS text) ss).boosts)
      have h2 := readE_len (entsQS bText (tText text) (runQ qtQS (q0QS text) ss)) (runQ qtQS (q0QS text) ss).fields (runQ qtQS (q0QS text) ss).boosts
      omega
end Go.Proofs.YtbcnhcpgloncdaaGreatDoor
