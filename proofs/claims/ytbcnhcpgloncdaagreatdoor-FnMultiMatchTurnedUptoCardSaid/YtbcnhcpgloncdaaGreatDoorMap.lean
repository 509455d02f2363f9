/-
  THE TREE OF A MAP OF ENTRIES, WRITTEN OUT; A TREE IS SAME WITH ITSELF.
-/
import Derived.Test.YtbcnhcpgloncdaaGreatDoorQo
import Derived.Test.YtbcnhcpgloncdaaGreatDoorSam
namespace Go.Proofs.YtbcnhcpgloncdaaGreatDoor
open Go.RowKit

def nub : List (List UInt8) → List (List UInt8)
  | [] => []
  | x :: xs => if x ∈ nub xs then nub xs else x :: nub xs
theorem nub_mem : ∀ {xs : List (List UInt8)} {l : List UInt8}, l ∈ nub xs ↔ l ∈ xs
  | [], l => by simp [nub]
  | x :: xs, l => by
    unfold nub
    split
    · rename_i h
      rw [nub_mem, List.mem_cons]
      exact ⟨Or.inr, fun h' => h'.elim (fun e => by subst e; exact nub_mem.1 h) id⟩
    · rw [List.mem_cons, List.mem_cons, nub_mem]
theorem nub_nodup : ∀ xs : List (List UInt8), (nub xs).Nodup
  | [] => List.nodup_nil
  | x :: xs => by
    unfold nub
    split
    · exact nub_nodup xs
    · rename_i h
      exact List.nodup_cons.2 ⟨h, nub_nodup xs⟩
theorem nub_length : ∀ xs : List (List UInt8), (nub xs).length ≤ xs.length
  | [] => Nat.le_refl _
  | x :: xs => by
    have := nub_length xs
    unfold nub
    split <;> simp <;> omega

theorem lookL_isSome {α : Type} (E : List (ByteArray × α)) (l : List UInt8) : (lookL E (bs l)).isSome = true ↔ l ∈ E.map (fun p => p.1.data.toList) := by
  unfold lookL
  simp only [Option.isSome_map, List.find?_isSome, List.mem_reverse, List.mem_map]
  constructor
  · rintro ⟨p, hp, he⟩
    exact ⟨p, hp, congrArg (fun x : ByteArray => x.data.toList) ((eqB_iff _ _).1 he)⟩
  · rintro ⟨p, hp, he⟩
    refine ⟨p, hp, (eqB_iff _ _).2 ?_⟩
    cases hq : p.1 with
    | mk d => rw [hq] at he; subst he; rfl

/-- The keys of a map of entries, rising. -/
def mapKeys (E : List (ByteArray × T)) : List (List UInt8) := (nub (E.map (fun p => p.1.data.toList))).mergeSort fun x y => decide (x ≤ y)
theorem mapKeys_length (E : List (ByteArray × T)) : (mapKeys E).length ≤ E.length := by
  unfold mapKeys
  rw [List.length_mergeSort]
  exact Nat.le_trans (nub_length _) (by simp)
theorem mapKeys_mem (E : List (ByteArray × T)) (l : List UInt8) : l ∈ mapKeys E ↔ (lookL E (bs l)).isSome = true := by
  unfold mapKeys
  rw [lookL_isSome, (List.mergeSort_perm _ _).mem_iff, nub_mem]
theorem mapKeys_rise (E : List (ByteArray × T)) : (mapKeys E).Pairwise (· < ·) := by
  unfold mapKeys
  have tr : ∀ a b c : List UInt8, decide (a ≤ b) = true → decide (b ≤ c) = true → decide (a ≤ c) = true := fun a b c h1 h2 => by simp only [decide_eq_true_eq] at *; exact List.le_trans h1 h2
  have tot : ∀ a b : List UInt8, (decide (a ≤ b) || decide (b ≤ a)) = true := fun a b => by simp only [Bool.or_eq_true, decide_eq_true_eq]; exact List.le_total a b
  have hnd := (List.mergeSort_perm (nub (E.map (fun p => p.1.data.toList))) (fun x y => decide (x ≤ y))).nodup_iff.2 (nub_nodup _)
  refine ((List.pairwise_mergeSort tr tot _).and hnd).imp fun {a b} h => ?_
  rcases List.le_iff_lt_or_eq.1 (by simpa using h.1) with h1 | h1
  · exact h1
  · exact absurd h1 h.2

theorem mapTree_eq (E : List (ByteArray × T)) : mapTree E = .mk 5 ⟨#[]⟩ 0 false ((mapKeys E).map bs) ((mapKeys E).map fun l => (lookL E (bs l)).getD default) :=
  (IsMapT.eq ⟨mapKeys E, mapKeys_rise E, mapKeys_mem E, rfl⟩).symm

/-- Each kid is an entry's. -/
theorem mapTree_kid {E : List (ByteArray × T)} {u : T} (h : u ∈ (mapTree E).kids) : ∃ p ∈ E, u = p.2 := by
  rw [mapTree_eq] at h
  obtain ⟨l, hl, rfl⟩ := List.mem_map.1 (show u ∈ (mapKeys E).map fun l => (lookL E (bs l)).getD default from h)
  have h1 := (mapKeys_mem E l).1 hl
  cases hq : lookL E (bs l) with
  | none => rw [hq] at h1; cases h1
  | some t => exact ⟨_, lookL_mem hq, rfl⟩

/-! ### Same with itself -/
theorem keysB_self (ks : List ByteArray) : keysB ks ks = true := by
  rw [keysB_iff rfl]
  intro i k l h1 h2
  rw [h1] at h2; cases h2
  exact (eqB_iff _ _).2 rfl
theorem same_node {t : T} (h1 : t.kind ≠ 1) (h2 : t.kind ≠ 2) (h3 : t.kind ≠ 3) (h6 : t.kind ≠ 6) (hk : ∀ u ∈ t.kids, sameB u u = true) : sameB t t = true := by
  rw [sameB_eq]
  have e : sameL t.kids t.kids = true := by
    rw [sameL_iff rfl]
    intro i k l e1 e2
    rw [e1] at e2; cases e2
    exact hk k (List.mem_of_getElem? e1)
  simp [h1, h2, h3, h6, keysB_self, e]
theorem same_text (s : ByteArray) : sameB (tText s) (tText s) = true := by
  rw [sameB_eq]; simp [tText, T.kind, T.kids, T.keys, T.text, eqB]
theorem same_yes (y : Bool) : sameB (tYes y) (tYes y) = true := by
  rw [sameB_eq]; simp [tYes, T.kind, T.kids, T.keys, T.yes]
theorem same_num {x : Nat} (h : feq x x = true) : sameB (tNum x) (tNum x) = true := by
  rw [sameB_eq]
  have : feq (tNum x).num (tNum x).num = true := h
  simp only [this]
  simp [tNum, T.kind, T.kids, T.keys]
theorem same_list (ks : List ByteArray) : sameB (tList ks) (tList ks) = true :=
  same_node (by simp [tList, T.kind]) (by simp [tList, T.kind]) (by simp [tList, T.kind]) (by simp [tList, T.kind]) fun u hu => by
    obtain ⟨k, -, rfl⟩ := List.mem_map.1 (show u ∈ ks.map tText from hu)
    exact same_text k
theorem same_map {E : List (ByteArray × T)} (h : ∀ p ∈ E, sameB p.2 p.2 = true) : sameB (mapTree E) (mapTree E) = true := by
  have e : (mapTree E).kind = 5 := by rw [mapTree_eq]; rfl
  refine same_node (by rw [e]; decide) (by rw [e]; decide) (by rw [e]; decide) (by rw [e]; decide) fun u hu => ?_
  obtain ⟨p, hp, rfl⟩ := mapTree_kid hu
  exact h p hp

/-! ### How much it holds -/
theorem wL_le {M : Nat} : ∀ {ts : List T}, (∀ t ∈ ts, wT t ≤ M) → wL ts ≤ ts.length * (M + 1)
  | [], _ => by simp [wL]
  | t :: ts, h => by
    have h1 := h t (by simp)
    have h2 := wL_le (ts := ts) fun u hu => h u (List.mem_cons_of_mem _ hu)
    simp only [wL, List.length_cons, Nat.add_mul, Nat.one_mul]
    omega
theorem wT_map {E : List (ByteArray × T)} {M : Nat} (h : ∀ p ∈ E, wT p.2 ≤ M) : wT (mapTree E) ≤ 1 + E.length + E.length * (M + 1) := by
  rw [wT_eq]
  have h1 : (mapTree E).keys.length ≤ E.length := by rw [mapTree_eq]; show ((mapKeys E).map bs).length ≤ _; rw [List.length_map]; exact mapKeys_length E
  have h2 : (mapTree E).kids.length ≤ E.length := by rw [mapTree_eq]; show ((mapKeys E).map fun l => (lookL E (bs l)).getD default).length ≤ _; rw [List.length_map]; exact mapKeys_length E
  have h3 : wL (mapTree E).kids ≤ (mapTree E).kids.length * (M + 1) := wL_le fun t ht => by
    obtain ⟨p, hp, rfl⟩ := mapTree_kid ht
    exact h p hp
  have h4 : (mapTree E).kids.length * (M + 1) ≤ E.length * (M + 1) := Nat.mul_le_mul_right _ h2
  omega
theorem wT_text (s : ByteArray) : wT (tText s) = 1 := by rw [wT_eq]; rfl
theorem wT_num (x : Nat) : wT (tNum x) = 1 := by rw [wT_eq]; rfl
theorem wT_yes (y : Bool) : wT (tYes y) = 1 := by rw [wT_eq]; rfl
theorem wT_list (ks : List ByteArray) : wT (tList ks) ≤ 1 + ks.length * 2 := by
  rw [wT_eq]
  have h : wL (tList ks).kids ≤ (tList ks).kids.length * (1 + 1) := wL_le fun t ht => by
    obtain ⟨k, -, rfl⟩ := List.mem_map.1 (show t ∈ ks.map tText from ht)
    rw [wT_text]; exact Nat.le_refl _
  have e : (tList ks).kids.length = ks.length := by show (ks.map tText).length = _; simp
  have e2 : (tList ks).keys.length = 0 := rfl
  rw [e] at h
  omega
end Go.Proofs.YtbcnhcpgloncdaaGreatDoor
