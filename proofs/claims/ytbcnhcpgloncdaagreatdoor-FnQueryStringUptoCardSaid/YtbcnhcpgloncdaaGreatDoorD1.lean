/-
  THE TWO TREES OF A LAW: Same; how much they hold.
-/
import Derived.Test.YtbcnhcpgloncdaaGreatDoorA18
namespace Go.Proofs.YtbcnhcpgloncdaaGreatDoor
open Go.RowKit

theorem name_eq (n : List UInt8) (k : ByteArray) : eqB (bs n) k = true ↔ k.data.toList = n := by
  rw [eqB_iff]
  exact ⟨fun e => by rw [← e]; rfl, fun e => by rw [← e, bs_data]⟩
theorem has_one (n : List UInt8) (k : ByteArray) : hasB [bs n] k = eqB (bs n) k := by
  unfold hasB
  rw [List.any_cons, List.any_nil, Bool.or_false]
theorem three_fields (t0 : T) (F : Option T) (tab : ByteArray → Option T) : three t0 F tab (bs nFields) = F := by
  unfold three
  rw [if_neg (by show ¬ nFields = nQuery; decide), if_pos (show (bs nFields).data.toList = nFields from rfl)]
/-- What ReadFields leaves: the text, the fields read, the settings. -/
theorem look_read {E : List (ByteArray × T)} {fs : List ByteArray} {B : List (ByteArray × Nat)} {t0 : T} {F : Option T} {tab : ByteArray → Option T} (hE : ∀ k, lookL E k = three t0 F tab k)
    (hF : (fs = [] ∧ (F = none ∨ F = some (tList []))) ∨ (fs ≠ [] ∧ F = some (tList (fs.map (fieldText bText B))))) (k : ByteArray) :
    lookL (readE E fs B) k = three t0 (fieldsO (fs.map (readOne B))) tab k := by
  have hb : lookL (besE [bs nFields] (mapTree E)) k = (three t0 F tab k).filter fun y => !(eqB (bs nFields) k && ((y.kids.length : Int) == 0)) := by
    rw [lookL_bes, hE, has_one]
  unfold readE
  rw [lookL_app, hb]
  by_cases h1 : k.data.toList = nQuery
  · have h2 : ¬ k.data.toList = nFields := by rw [h1]; decide
    have h3 : eqB (bs nFields) k = false := by rw [← Bool.not_eq_true, name_eq]; exact h2
    have h4 : lookL (if fs = [] then [] else [(bs nFields, fieldsT (fs.map (readOne B)))]) k = none := by
      split
      · rfl
      · rw [lookL_one, if_neg (by rw [h3]; decide)]
    unfold three
    rw [h4, if_pos h1, if_pos h1, h3]
    simp [Option.filter]
  · by_cases h2 : k.data.toList = nFields
    · have h3 : eqB (bs nFields) k = true := (name_eq _ _).2 h2
      unfold three
      rw [if_neg h1, if_neg h1, if_pos h2, if_pos h2, h3]
      rcases hF with ⟨hf, hF | hF⟩ | ⟨hf, hF⟩
      · rw [if_pos hf, hF]
        unfold fieldsO
        rw [hf]
        rfl
      · rw [if_pos hf, hF]
        unfold fieldsO
        rw [hf]
        rfl
      · rw [if_neg hf, lookL_one, if_pos h3]
        unfold fieldsO
        rw [if_neg (by simpa using hf)]
        rfl
    · have h3 : eqB (bs nFields) k = false := by rw [← Bool.not_eq_true, name_eq]; exact h2
      have h4 : lookL (if fs = [] then [] else [(bs nFields, fieldsT (fs.map (readOne B)))]) k = none := by
        split
        · rfl
        · rw [lookL_one, if_neg (by rw [h3]; decide)]
      unfold three
      rw [h4, if_neg h1, if_neg h1, if_neg h2, if_neg h2, h3]
      cases tab k <;> simp [Option.filter]

/-- A setting's kind of its row. -/
theorem setsR_kind {B : Builder} {ss : List S} {k : ByteArray} {v : T} (hfit : ∀ s ∈ ss, fitsAt B s = true) (h : setsR B.rows ss k = some v) : ∃ r ∈ B.rows, r.1 = k.data.toList ∧ fitB r.2 v = true := by
  unfold setsR at h
  split at h
  · cases h
  · cases hR : B.rows.find? (fun r => r.1 == k.data.toList) with
    | none => rw [hR] at h; cases h
    | some r =>
      rw [hR, Option.bind_some] at h
      have hr1 := List.find?_some hR
      rw [beq_iff_eq] at hr1
      split at h
      · obtain ⟨s, hs, hsn, rfl⟩ := lastS_mem h
        have hfs := hfit s hs
        unfold fitsAt at hfs
        rw [hsn, show bs r.1 = k by rw [hr1, bs_data], kind_row hR] at hfs
        exact ⟨r, List.mem_of_find?_eq_some hR, hr1, hfs⟩
      · cases h

/-- The two trees are Same. -/
theorem law_same {B : Builder} {tab : QTab} {kind : List UInt8} {mm : Bool} (hrd : B.rows.Pairwise fun a b => a.1 ≠ b.1) (hrq : B.rows.all (fun r => r.1 != nQuery && r.1 != nFields) = true) (hty : B.rows.all (fun r => r.1 != nType || r.2 == [116]) = true)
    {q0 : Q} (hb0 : q0.boosts = []) {ss : List S} (hfit : ∀ s ∈ ss, fitsAt B s = true)
    (hfl : fieldsB (fieldNames q0.fields ss) = true) (hbo : ∀ p ∈ (runQ tab q0 ss).boosts, feq p.2 p.2 = true) {text t0 : T} (ht : sameB t0 text = true) {E : List (ByteArray × T)} {F : Option T} {tabE : ByteArray → Option T}
    (hE : ∀ k, lookL E k = three t0 F tabE k) (hTE : ∀ k, OptSame ((tabE k).map (foldOne k)) ((setsR B.rows ss k).map (foldOne k)))
    (hF : ((runQ tab q0 ss).fields = [] ∧ (F = none ∨ F = some (tList []))) ∨ ((runQ tab q0 ss).fields ≠ [] ∧ F = some (tList ((runQ tab q0 ss).fields.map (fieldText bText (runQ tab q0 ss).boosts))))) :
    sameB (mapTree [(bs kind, mapTree (finE mm (readE E (runQ tab q0 ss).fields (runQ tab q0 ss).boosts)))]) (mapTree [(bs kind, mapTree (finE mm (pE (sevS B.rows text (fieldKids q0.fields ss) ss))))]) = true := by
  have hkid : fieldKids q0.fields ss = (runQ tab q0 ss).fields.map (readOne (runQ tab q0 ss).boosts) := (read_fields hb0 (fieldsB_all hfl).1).symm
  refine fin_same (fun k => ?_) fun v hv => ?_
  · rw [look_read hE hF, lookL_sev hrd hrq, hkid]
    unfold three
    split
    · exact opt_fold (a := some t0) (b := some text) ht
    · split
      · exact opt_fold (same_read hbo)
      · exact hTE k
  · rw [lookL_sev hrd hrq] at hv
    unfold three at hv
    rw [if_neg (by show ¬ nType = nQuery; decide), if_neg (by show ¬ nType = nFields; decide)] at hv
    obtain ⟨r, hr, hr1, hf⟩ := setsR_kind hfit hv
    have := List.all_eq_true.1 hty r hr
    have hr1' : r.1 = nType := hr1
    rw [hr1'] at this
    have h2 : r.2 = [116] := by simpa using this
    rw [h2] at hf
    simp [fitB] at hf
    exact hf.1

/-! ### How much the tree holds -/
theorem fold_w {E : List (ByteArray × T)} {M : Nat} (hM : 1 ≤ M) (h : ∀ p ∈ E, wT p.2 ≤ M) : ∀ p ∈ foldEE E, wT p.2 ≤ M := by
  intro p hp
  unfold foldEE foldE at hp
  obtain ⟨x, hx, rfl⟩ := List.mem_map.1 hp
  obtain ⟨i, hi⟩ := List.getElem?_of_mem hx
  obtain ⟨a, b⟩ := x
  obtain ⟨h2, h3⟩ := (List.getElem?_zip_eq_some (z := (a, b))).1 hi
  have := h _ (lookL_mem (entry_of h2 h3))
  show wT (foldOne a b) ≤ M
  unfold foldOne
  split
  · rw [wT_text]; exact hM
  · exact this
theorem wT_boost (f : ByteArray) (x : Nat) : wT (tBoost f x) = 5 := by
  rw [wT_eq]
  show 1 + 0 + wL [tText f, tNum x] = 5
  simp [wL, wT_text, wT_num]
theorem wT_fields (q : List ByteArray) (B : List (ByteArray × Nat)) : wT (fieldsT (q.map (readOne B))) ≤ 1 + q.length * 6 := by
  rw [wT_eq]
  have h : wL (fieldsT (q.map (readOne B))).kids ≤ (fieldsT (q.map (readOne B))).kids.length * (5 + 1) := wL_le fun t ht => by
    obtain ⟨k, -, rfl⟩ := List.mem_map.1 (show t ∈ q.map (readOne B) from ht)
    unfold readOne
    split
    · rw [wT_boost]; exact Nat.le_refl _
    · rw [wT_text]; decide
  have e : (fieldsT (q.map (readOne B))).kids.length = q.length := by show (q.map (readOne B)).length = _; simp
  have e2 : (fieldsT (q.map (readOne B))).keys.length = 0 := rfl
  rw [e] at h
  omega
theorem tree_w {kind : List UInt8} {E : List (ByteArray × T)} {M : Nat} (h : ∀ p ∈ E, wT p.2 ≤ M) (hM : M ≤ 20000000) (hl : E.length ≤ 40) : wT (mapTree [(bs kind, mapTree E)]) ≤ 1073741824 := by
  have h1 := wT_map h
  have h2 : E.length * (M + 1) ≤ 40 * (M + 1) := Nat.mul_le_mul_right _ hl
  have h3 := wT_map (E := [(bs kind, mapTree E)]) (M := 1000000000) fun p hp => by
    obtain rfl : p = _ := by simpa using hp
    show wT (mapTree E) ≤ _
    omega
  simp only [List.length_singleton] at h3
  omega
theorem read_w {E : List (ByteArray × T)} {fs : List ByteArray} {B : List (ByteArray × Nat)} (h : ∀ p ∈ E, wT p.2 ≤ 1 + fs.length * 6) : ∀ p ∈ readE E fs B, wT p.2 ≤ 1 + fs.length * 6 := by
  intro p hp
  unfold readE at hp
  rcases List.mem_append.1 hp with hp | hp
  · exact h p (bes_entry hp)
  · split at hp
    · cases hp
    · obtain rfl : p = _ := by simpa using hp
      exact wT_fields fs B
end Go.Proofs.YtbcnhcpgloncdaaGreatDoor

/-
  WHAT IS LIKE IN ALL BUILDERS: entries, texts, settings.
-/
namespace Go.Proofs.YtbcnhcpgloncdaaGreatDoor
open Go.RowKit Go.Sort

theorem fvT_empty : fvT (.val (.string ⟨#[]⟩)) = none := by
  show (if (⟨#[]⟩ : ByteArray).toList.isEmpty then none else some (tText ⟨#[]⟩)) = none
  rw [if_pos (by rw [ByteArray.toList_eq]; rfl)]
theorem fits_all {B : Builder} {ss : List S} (h : fitsB B ss = true) : ∀ s ∈ ss, fitsAt B s = true := List.all_eq_true.1 h
theorem boosts_feq {q : Q} (h : ∀ p ∈ q.boosts, okB p.2) : ∀ p ∈ q.boosts, feq p.2 p.2 = true := fun p hp => boost_feq (h p hp).1

theorem name_plain {f : ByteArray} (h : fieldB f = true) : placeN f.data.toList 94 = f.size := field_plain h
theorem ent_all {a : List UInt8} {o : Option T} {P : ByteArray × T → Prop} (h : ∀ t, o = some t → P (bs a, t)) : ∀ p ∈ ent a o, P p := by
  intro p hp
  cases o with
  | none => cases hp
  | some t =>
    obtain rfl : p = (bs a, t) := by simpa [ent] using hp
    exact h t rfl
/-- Entries of Source, the text and the fields and the settings apart. -/
theorem ents_all {t0 : T} {F : Option T} {tabL : List (List UInt8 × Nat)} {g : List UInt8 × Nat → Option T} {P : ByteArray × T → Prop} (h0 : P (bs nQuery, t0)) (hF : ∀ t, F = some t → P (bs nFields, t)) (hg : ∀ r ∈ tabL, ∀ t, g r = some t → P (bs r.1, t)) :
    ∀ p ∈ [(bs nQuery, t0)] ++ ent nFields F ++ tabL.flatMap (fun r => ent r.1 (g r)), P p := by
  intro p hp
  rcases List.mem_append.1 hp with hp | hp
  · rcases List.mem_append.1 hp with hp | hp
    · obtain rfl : p = _ := by simpa using hp
      exact h0
    · exact ent_all hF p hp
  · obtain ⟨r, hr, hp⟩ := List.mem_flatMap.1 hp
    exact ent_all (hg r hr) p hp
/-- What a field's value is like in the tree. -/
theorem fvT_like {fv : FV} {t : T} {n : Nat} (hs : ∀ s, fv = .val (.string s) → s.size ≤ n) (h : fvT fv = some t) : (t.kind == 0) = false ∧ (t.kind == 5) = false ∧ t.text.size ≤ n ∧ wT t = 1 := by
  unfold fvT at h
  split at h
  · rename_i s
    split at h
    · cases h
    · cases h; exact ⟨rfl, rfl, hs s rfl, wT_text s⟩
  · cases h; exact ⟨rfl, rfl, Nat.zero_le _, wT_num _⟩
  · cases h; exact ⟨rfl, rfl, Nat.zero_le _, wT_num _⟩
  · cases h; exact ⟨rfl, rfl, Nat.zero_le _, wT_yes _⟩
  · split at h
    · cases h
    · cases h; exact ⟨rfl, rfl, Nat.zero_le _, wT_num _⟩
  · cases h
/-- Texts in a query's fields are those of settings, or typeOf's. -/
def Texts (n : Nat) (q : Q) : Prop := ∀ i s, q.f i = .val (.string s) → s.size ≤ n
theorem typeOf_size (u : ByteArray) : (typeOf u).size ≤ 20 := by
  unfold typeOf
  repeat (split; decide)
  decide
theorem texts_step {n : Nat} (hn : 20 ≤ n) {tab : QTab} {q : Q} {s : S} (h : Texts n q) (hs : s.value.text.size ≤ n) : Texts n (stepQ tab q s) := by
  unfold stepQ
  split
  · exact h
  · split
    · exact h
    · split
      · rename_i r hr
        intro i u hu
        have hu' : upd q.f r.2.1 (fvK r.2.2 s.value) i = .val (.string u) := hu
        unfold upd at hu'
        split at hu'
        · unfold fvK at hu'
          split at hu'
          · cases hu'; exact hs
          · cases hu'
          · cases hu'
          · cases hu'
          · cases hu'; exact Nat.le_trans (typeOf_size _) hn
          · cases hu'
        · exact h i u hu'
      · exact h
theorem texts_run {n : Nat} (hn : 20 ≤ n) {tab : QTab} : ∀ (ss : List S) {q : Q}, Texts n q → (∀ s ∈ ss, s.value.text.size ≤ n) → Texts n (runQ tab q ss)
  | [], _, h, _ => h
  | s :: ss, _, h, hs => texts_run hn ss (texts_step hn h (hs s (by simp))) fun u hu => hs u (List.mem_cons_of_mem _ hu)
theorem leaf_like {t : T} (h : scalarT t = true) : ((leafT t).kind == 0) = false ∧ ((leafT t).kind == 5) = false ∧ (leafT t).text.size ≤ t.text.size ∧ wT (leafT t) = 1 := by
  refine ⟨?_, ?_, ?_, (leaf_same h).2⟩ <;> unfold leafT
  · split
    · rfl
    · split <;> rfl
  · split
    · rfl
    · split <;> rfl
  · split
    · exact Nat.le_refl _
    · split <;> exact Nat.zero_le _
theorem sev_ok {B : Builder} {text : T} {ss : List S} {fs : List T} (hsc : scalarT text = true) (ht : text.text.size ≤ 1048576) (h5 : ∀ s ∈ ss, s.value.text.size ≤ 1048576) (hfit : ∀ s ∈ ss, fitsAt B s = true) (hrow : B.rows.all (fun r => decide (r.1.length ≤ 100)) = true) :
    ∀ p ∈ pE (sevS B.rows text fs ss), (p.2.kind == 5) = false ∧ p.2.text.size < 35184372088832 ∧ p.1.size ≤ 9223372036854775807 := by
  intro p hp
  unfold sevS at hp
  rw [pE_app, pE_app] at hp
  rcases List.mem_append.1 hp with hp | hp
  · rcases List.mem_append.1 hp with hp | hp
    · obtain ⟨s, hs, rfl⟩ := List.mem_map.1 hp
      have hs2 := (List.mem_filter.1 hs).1
      obtain ⟨r, hr, hp2⟩ := List.mem_flatMap.1 hs2
      have hr9 := of_decide_eq_true (List.all_eq_true.1 hrow r hr)
      unfold paramOf at hp2
      cases hl : lastS ss (bs r.1) with
      | none => rw [hl] at hp2; cases hp2
      | some v =>
        rw [hl] at hp2
        dsimp only at hp2
        split at hp2
        · obtain rfl : s = ⟨bs r.1, v⟩ := by simpa using hp2
          obtain ⟨u, hu, hun, rfl⟩ := lastS_mem hl
          have hf := hfit u hu
          have hk : u.value.kind = 1 ∨ u.value.kind = 2 ∨ u.value.kind = 3 := by
            obtain ⟨r', -, -, hf'⟩ := fits_kind hf
            unfold fitB at hf'
            split at hf'
            · simp at hf'; exact Or.inl hf'.1
            · split at hf'
              · simp at hf'; exact Or.inr (Or.inl hf'.1)
              · split at hf'
                · simp at hf'; exact Or.inr (Or.inl hf'.1)
                · split at hf'
                  · simp at hf'; exact Or.inr (Or.inr hf'.1)
                  · split at hf'
                    · simp at hf'; exact Or.inl hf'.1
                    · cases hf'
          refine ⟨by rcases hk with h | h | h <;> (show (u.value.kind == 5) = false; rw [h]; rfl), by have := h5 u hu; show u.value.text.size < _; omega, ?_⟩
          show (bs r.1).size ≤ _
          rw [bs_size]; omega
        · cases hp2
    · unfold fieldsS at hp
      split at hp
      · cases hp
      · obtain rfl : p = _ := by simpa [pE] using hp
        exact ⟨rfl, by show (⟨#[]⟩ : ByteArray).size < _; decide, by show (bs nFields).size ≤ _; rw [bs_size]; decide⟩
  · obtain rfl : p = (bs nQuery, text) := by simpa [pE] using hp
    refine ⟨?_, by show text.text.size < _; omega, by show (bs nQuery).size ≤ _; rw [bs_size]; decide⟩
    rcases (scalar_kind hsc).1 with h | h | h <;> (show (text.kind == 5) = false; rw [h]; rfl)

end Go.Proofs.YtbcnhcpgloncdaaGreatDoor
