/-
  THE ORDER OF SETTINGS MAKES NO ODDS: the plain law.
-/
import Derived.Test.YtbcnhcpgloncdaaGreatDoorQo
namespace Go.Proofs.YtbcnhcpgloncdaaGreatDoor
open Go.RowKit

theorem list_ext {a b : ByteArray} (h : a.data.toList = b.data.toList) : a = b := by
  cases a; cases b; simp_all
theorem nameOf_none {s : S} (h : nameOf s = none) : s.name.data.toList ≠ nField ∧ s.name.data.toList ≠ nBoost := by
  unfold nameOf at h
  split at h
  · cases h
  · rename_i hn
    rw [not_or] at hn
    refine ⟨fun e => hn.1 ((eqB_iff _ _).2 (list_ext e)), fun e => hn.2 ((eqB_iff _ _).2 (list_ext e))⟩

/-- A setting's place in the table. -/
def hit (tab : QTab) (s : S) : Option (List UInt8 × Nat × Nat) := tab.find? (fun r => r.1 == s.name.data.toList)
theorem hit_name {tab : QTab} {s : S} {r : List UInt8 × Nat × Nat} (h : hit tab s = some r) : r.1 = s.name.data.toList ∧ r ∈ tab := by
  have h1 := List.find?_some h
  exact ⟨by simpa using h1, List.mem_of_find?_eq_some h⟩

theorem stepQ_plain {tab : QTab} {q : Q} {s : S} (h : nameOf s = none) : stepQ tab q s = match hit tab s with
    | some r => { q with f := upd q.f r.2.1 (fvK r.2.2 s.value) }
    | none => q := by
  obtain ⟨h1, h2⟩ := nameOf_none h
  unfold stepQ
  rw [if_neg h1, if_neg h2]
  rfl

theorem upd_comm (f : Nat → FV) {i j : Nat} (h : i ≠ j) (u v : FV) : upd (upd f i u) j v = upd (upd f j v) i u := by
  funext k
  unfold upd
  by_cases e : k = j
  · subst e
    simp [Ne.symm h]
  · by_cases e' : k = i
    · subst e'; simp [e]
    · simp [e, e']

theorem step_comm1 {tab : QTab} {q : Q} {s s' : S} (hs : nameOf s = none) : stepQ tab (stepQ tab q s) s' = match hit tab s with
    | some r => (if nameOf s' = none then stepQ tab { q with f := upd q.f r.2.1 (fvK r.2.2 s.value) } s' else { stepQ tab q s' with f := upd (stepQ tab q s').f r.2.1 (fvK r.2.2 s.value) })
    | none => stepQ tab q s' := by
  rw [stepQ_plain hs]
  cases hit tab s with
  | none => rfl
  | some r =>
    dsimp only
    split
    · rfl
    · rename_i hn
      unfold stepQ
      split
      · rfl
      · split
        · rfl
        · rename_i h1 h2
          exfalso
          apply hn
          unfold nameOf
          rw [if_neg]
          rintro (h | h)
          · exact h1 (congrArg (fun x : ByteArray => x.data.toList) ((eqB_iff _ _).1 h))
          · exact h2 (congrArg (fun x : ByteArray => x.data.toList) ((eqB_iff _ _).1 h))

theorem step_comm {tab : QTab} (hd : tab.Pairwise (fun a b => a.2.1 ≠ b.2.1)) {q : Q} {s s' : S} (hn : s.name ≠ s'.name) (hf : nameOf s = none ∨ nameOf s' = none) : stepQ tab (stepQ tab q s) s' = stepQ tab (stepQ tab q s') s := by
  have two : ∀ {s s' : S}, s.name ≠ s'.name → nameOf s = none → stepQ tab (stepQ tab q s) s' = stepQ tab (stepQ tab q s') s := by
    intro s s' hn hs
    rw [step_comm1 hs, stepQ_plain (q := stepQ tab q s') hs]
    cases hh : hit tab s with
    | none => rfl
    | some r =>
      dsimp only
      split
      · rename_i hs'
        rw [stepQ_plain hs', stepQ_plain hs']
        cases hh' : hit tab s' with
        | none => rfl
        | some r' =>
          dsimp only
          have hne : r.2.1 ≠ r'.2.1 := by
            obtain ⟨n1, m1⟩ := hit_name hh
            obtain ⟨n2, m2⟩ := hit_name hh'
            obtain ⟨i, hi, e1⟩ := List.getElem_of_mem m1
            obtain ⟨j, hj, e2⟩ := List.getElem_of_mem m2
            have hp := List.pairwise_iff_getElem.1 hd
            rcases Nat.lt_trichotomy i j with h | h | h
            · rw [← e1, ← e2]; exact hp i j hi hj h
            · subst h
              rw [e1] at e2
              subst e2
              exact absurd (list_ext (n1.symm.trans n2)) hn
            · rw [← e1, ← e2]; exact Ne.symm (hp j i hj hi h)
          rw [upd_comm _ hne]
      · rfl
  rcases hf with h | h
  · exact two hn h
  · exact (two (Ne.symm hn) h).symm

theorem foldl_comm {α β : Type} {f : β → α → β} {s : α} : ∀ (ss : List α) (q : β), (∀ q, ∀ t ∈ ss, f (f q s) t = f (f q t) s) → f (ss.foldl f q) s = ss.foldl f (f q s)
  | [], _, _ => rfl
  | t :: ss, q, h => by
    simp only [List.foldl_cons]
    rw [foldl_comm ss (f q t) (fun q u hu => h q u (List.mem_cons_of_mem _ hu)), h q t (by simp)]
theorem foldl_reverse {α β : Type} {f : β → α → β} : ∀ (ss : List α) (q : β), ss.Pairwise (fun s t => ∀ q, f (f q s) t = f (f q t) s) → ss.reverse.foldl f q = ss.foldl f q
  | [], _, _ => rfl
  | s :: ss, q, h => by
    obtain ⟨h1, h2⟩ := List.pairwise_cons.1 h
    rw [List.reverse_cons, List.foldl_append, foldl_reverse ss q h2]
    show f (ss.foldl f q) s = ss.foldl f (f q s)
    exact foldl_comm ss q fun q t ht => h1 t ht q

theorem distinct_names {ss : List S} (h : distinctB ss = true) : ss.Pairwise (fun s t => s.name ≠ t.name) := by
  rw [List.pairwise_iff_getElem]
  intro i j hi hj hij e
  unfold distinctB at h
  rw [List.all_eq_true] at h
  have h1 := h j (by simpa using hj)
  simp only [Bool.not_eq_true', Option.isSome_eq_false_iff, List.getElem?_eq_getElem hj, Option.getD_some] at h1
  unfold lastS at h1
  simp only [Option.isNone_map, Option.isNone_iff_eq_none, List.find?_eq_none] at h1
  have := h1 ss[i] (by simp [List.mem_take_iff_getElem]; exact ⟨i, by omega, rfl⟩)
  exact this ((eqB_iff _ _).2 e)

theorem names_le_one {ss : List S} (h : (ss.filterMap nameOf).length ≤ 1) : ss.Pairwise (fun s t => nameOf s = none ∨ nameOf t = none) := by
  induction ss with
  | nil => exact List.Pairwise.nil
  | cons s ss ih =>
    refine List.pairwise_cons.2 ⟨fun t ht => ?_, ih ?_⟩
    · cases hs : nameOf s with
      | none => exact Or.inl rfl
      | some x =>
        right
        rw [List.filterMap_cons_some hs] at h
        have h0 : ss.filterMap nameOf = [] := List.eq_nil_of_length_eq_zero (by rw [List.length_cons] at h; omega)
        exact List.filterMap_eq_nil_iff.1 h0 t ht
    · cases hs : nameOf s with
      | none => rw [List.filterMap_cons_none hs] at h; exact h
      | some x => rw [List.filterMap_cons_some hs, List.length_cons] at h; omega

/-- Settings of other names, not two of them fields: turned round they do the same. -/
theorem runQ_reverse {tab : QTab} (hd : tab.Pairwise (fun a b => a.2.1 ≠ b.2.1)) {ss : List S} (h1 : distinctB ss = true) (h2 : (ss.filterMap nameOf).length ≤ 1) (q : Q) : runQ tab q ss.reverse = runQ tab q ss := by
  unfold runQ
  refine foldl_reverse ss q ?_
  exact ((distinct_names h1).and (names_le_one h2)).imp fun {s t} h q => step_comm hd h.1 h.2
end Go.Proofs.YtbcnhcpgloncdaaGreatDoor
