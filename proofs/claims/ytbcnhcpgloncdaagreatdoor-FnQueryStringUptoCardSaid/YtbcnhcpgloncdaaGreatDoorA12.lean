/-
  WHAT A BUILDER's SETTINGS COME TO: numbers, boosts, sizes.
-/
import Derived.Test.YtbcnhcpgloncdaaGreatDoorA5
import Derived.Test.YtbcnhcpgloncdaaGreatDoorB5
import Derived.Test.YtbcnhcpgloncdaaGreatDoorA10
import Derived.Test.YtbcnhcpgloncdaaGreatDoorA11
import Derived.Test.YtbcnhcpgloncdaaGreatDoorA14
namespace Go.Proofs.YtbcnhcpgloncdaaGreatDoor
open Go.RowKit
open Ieee (Datum)

theorem order_self (d : Datum) (h : d.isNaN = false) : d.order d = some .eq := by
  cases d with
  | number s m i => simp [Datum.order]
  | infinity s => cases s <;> rfl
  | nan s f => cases h
theorem feq_self {x : Nat} (h : (dbl.read x).isNaN = false) : feq x x = true := by
  unfold feq
  have := order_self _ h
  show (dbl.order x x == some .eq) = true
  unfold Ieee.Format.order
  rw [this]; rfl
theorem feq_num {x : Nat} (h : isNum x = true) : feq x x = true := feq_self (by
  unfold isNum at h
  cases hr : dbl.read x <;> rw [hr] at h <;> first | rfl | cases h)
theorem word_real (s : Bool) (r : Nat) (h : r ≤ 0x7ff0000000000000) : (dbl.read (dbl.word s r)).isNaN = false := by
  have e1 : dbl.signWeight = 2 ^ 63 := rfl
  have e3 : dbl.infRung = 0x7ff0000000000000 := rfl
  have f6 : dbl.word s r % 2 ^ 63 = r := by
    unfold Ieee.Format.word; rw [e1]
    cases s
    · simp only [Bool.false_eq_true, if_false]; omega
    · simp only [if_true]; omega
  unfold Ieee.Format.read
  rw [e1, e3, f6]
  dsimp only
  split
  · rfl
  · split
    · rfl
    · rw [if_pos (by omega)]; rfl
theorem int_real (n : Int) : (dbl.read (floatOfInt .f64 n)).isNaN = false := by
  show (dbl.read (dbl.nearest (decide (n < 0)) n.natAbs 0)).isNaN = false
  unfold Ieee.Format.nearest
  split
  · exact word_real _ 0 (by decide)
  · exact word_real _ _ (Nat.min_le_right _ _)

/-- A field's value is same with itself. -/
def FVok (fv : FV) : Prop := ∀ t, fvT fv = some t → sameB t t = true ∧ wT t = 1
theorem fvok_text (s : ByteArray) : FVok (.val (.string s)) := fun t h => by
  rw [show fvT (.val (.string s)) = if s.toList.isEmpty then none else some (tText s) from rfl] at h
  split at h
  · cases h
  · cases h; exact ⟨same_text s, wT_text s⟩
theorem fvok_num (k : TypeId) {x : Nat} (hx : feq x x = true) : FVok (.opt k (.float .f64 x)) := fun t h => by
  cases h; exact ⟨same_num hx, wT_num x⟩
theorem fvok_int (k : TypeId) (n : Int) : FVok (.opt k (.int .i64 n)) := fun t h => by
  cases h; exact ⟨same_num (feq_self (int_real n)), wT_num _⟩
theorem fvok_yes (k : TypeId) (y : Bool) : FVok (.opt k (.bool y)) := fun t h => by
  cases h; exact ⟨same_yes y, wT_yes y⟩
theorem fvok_whole (n : Int) : FVok (.val (.int .i64 n)) := fun t h => by
  rw [show fvT (.val (.int .i64 n)) = if n == -1 then none else some (tNum (floatOfInt .f64 n)) from rfl] at h
  split at h
  · cases h
  · cases h; exact ⟨same_num (feq_self (int_real n)), wT_num _⟩
theorem fvok_nop : FVok .nop := fun t h => by cases h
theorem fvok_fvK (k : Nat) (t : T) (h : k = 1 → isNum t.num = true) : FVok (fvK k t) := by
  unfold fvK
  split
  · exact fvok_text _
  · exact fvok_num _ (feq_num (h rfl))
  · exact fvok_int _ _
  · exact fvok_yes _ _
  · exact fvok_text _
  · exact fvok_whole _

/-- A builder's table goes with its kinds. -/
def Compat (tab : QTab) (B : Builder) : Prop := (∀ r ∈ tab, r.2.2 = 1 → ∀ r' ∈ B.rows, r'.1 = r.1 → r'.2 = [110]) ∧ (∀ r' ∈ B.rows, r'.1 = nBoost → r'.2 = [102])
theorem fit_num {t : T} (h : fitB [110] t = true) : isNum t.num = true := by
  simp [fitB, scalarT] at h
  obtain ⟨hk, hs⟩ := h
  rw [← fin_num]
  rw [hk] at hs
  simpa using hs.2
theorem fit_boost {t : T} (h : fitB [102] t = true) : boostB t.num = true := by
  simp [fitB] at h
  exact h.2.2.2

theorem fvok_step {tab : QTab} {B : Builder} (hc : Compat tab B) {q : Q} (hq : ∀ i, FVok (q.f i)) {s : S} (hs : fitsAt B s = true) : ∀ i, FVok ((stepQ tab q s).f i) := by
  intro i
  unfold stepQ
  split
  · exact hq i
  · split
    · exact hq i
    · split
      · rename_i r hr
        show FVok (upd q.f r.2.1 (fvK r.2.2 s.value) i)
        unfold upd
        split
        · refine fvok_fvK _ _ fun hk => ?_
          obtain ⟨r', hr', hn, hf⟩ := fits_kind hs
          have h1 : r.1 = s.name.data.toList := by simpa using List.find?_some hr
          have h2 := hc.1 r (List.mem_of_find?_eq_some hr) hk r' hr' (by rw [h1, hn]; rfl)
          rw [h2] at hf
          exact fit_num hf
        · exact hq i
      · exact hq i
theorem fvok_run {tab : QTab} {B : Builder} (hc : Compat tab B) : ∀ (ss : List S) (q : Q), (∀ i, FVok (q.f i)) → (∀ s ∈ ss, fitsAt B s = true) → ∀ i, FVok ((runQ tab q ss).f i)
  | [], q, hq, _ => hq
  | s :: ss, q, hq, hs => fvok_run hc ss (stepQ tab q s) (fvok_step hc hq (hs s (by simp))) fun u hu => hs u (List.mem_cons_of_mem _ hu)

theorem boosts_run {tab : QTab} {B : Builder} (hc : Compat tab B) : ∀ (ss : List S) (q : Q), (∀ p ∈ q.boosts, okB p.2) → (∀ s ∈ ss, fitsAt B s = true) → (∀ s ∈ ss, s.value.num < 18446744073709551616) → ∀ p ∈ (runQ tab q ss).boosts, okB p.2
  | [], q, hq, _, _ => hq
  | s :: ss, q, hq, hs, hn => boosts_run hc ss (stepQ tab q s) (by
      intro p hp
      unfold stepQ at hp
      split at hp
      · exact hq p hp
      · split at hp
        · rename_i hb
          rcases List.mem_append.1 hp with h | h
          · exact hq p h
          · obtain rfl : p = (s.value.text, s.value.num) := by simpa using h
            obtain ⟨r', hr', hn', hf⟩ := fits_kind (hs s (by simp))
            have h2 := hc.2 r' hr' (by rw [← hb, hn']; rfl)
            rw [h2] at hf
            exact ⟨fit_boost hf, hn s (by simp)⟩
        · split at hp
          · exact hq p hp
          · exact hq p hp) (fun u hu => hs u (List.mem_cons_of_mem _ hu)) (fun u hu => hn u (List.mem_cons_of_mem _ hu))

theorem fields_run {tab : QTab} {n : Nat} : ∀ (ss : List S) (q : Q), (∀ f ∈ q.fields, f.size ≤ n) → (∀ s ∈ ss, s.value.text.size ≤ n) → ∀ f ∈ (runQ tab q ss).fields, f.size ≤ n
  | [], q, hq, _ => hq
  | s :: ss, q, hq, hs => fields_run ss (stepQ tab q s) (by
      intro f hf
      have hv := hs s (by simp)
      unfold stepQ at hf
      split at hf
      · rcases List.mem_append.1 hf with h | h
        · exact hq f h
        · obtain rfl : f = s.value.text := by simpa using h
          exact hv
      · split at hf
        · rcases List.mem_append.1 hf with h | h
          · exact hq f h
          · obtain rfl : f = s.value.text := by simpa using h
            exact hv
        · split at hf
          · exact hq f hf
          · exact hq f hf) (fun u hu => hs u (List.mem_cons_of_mem _ hu))

/-- The tree of a text that a builder was given. -/
def leafT (t : T) : T := if t.kind = 1 then tText t.text else if t.kind = 2 then tNum t.num else tYes t.yes
theorem tells_plain (t : T) (F : Nat → Prop) (w : World) : TellsF F w (plainV t) (leafT t) := by
  unfold plainV leafT
  split
  · exact tells_text F w _
  · split
    · exact tells_num F w _
    · exact tells_yes F w _
theorem plain_iface (t : T) : ∃ k x, plainV t = .iface k x := by
  unfold plainV
  split
  · exact ⟨_, _, rfl⟩
  · split <;> exact ⟨_, _, rfl⟩
theorem scalar_kind {t : T} (h : scalarT t = true) : (t.kind = 1 ∨ t.kind = 2 ∨ t.kind = 3) ∧ (t.kind = 2 → isNum t.num = true) := by
  unfold scalarT at h
  split at h
  · cases h
  · split at h
    · rename_i h1; exact ⟨Or.inl h1, fun e => by rw [h1] at e; cases e⟩
    · split at h
      · rename_i h2; exact ⟨Or.inr (Or.inl h2), fun _ => by rw [← fin_num]; exact h⟩
      · rename_i h2; exact ⟨Or.inr (Or.inr (by simpa using h)), fun e => absurd e h2⟩
theorem leaf_same {t : T} (h : scalarT t = true) : sameB (leafT t) (leafT t) = true ∧ wT (leafT t) = 1 := by
  unfold leafT
  split
  · exact ⟨same_text _, wT_text _⟩
  · split
    · rename_i h2; exact ⟨same_num (feq_num ((scalar_kind h).2 h2)), wT_num _⟩
    · exact ⟨same_yes _, wT_yes _⟩
theorem ent_ok {key : List UInt8} {fv : FV} (h : FVok fv) : ∀ p ∈ ent key (fvT fv), sameB p.2 p.2 = true ∧ wT p.2 = 1 := by
  intro p hp
  unfold ent at hp
  split at hp
  · rename_i t ht
    obtain rfl : p = (bs key, t) := by simpa using hp
    exact h t ht
  · cases hp
end Go.Proofs.YtbcnhcpgloncdaaGreatDoor

/-
  TWO TREES OF MAPS: when they are Same; what With, ReadBeside and folded make of the entries.
-/
namespace Go.Proofs.YtbcnhcpgloncdaaGreatDoor
open Go.RowKit

theorem lookL_app {α : Type} (A B : List (ByteArray × α)) (k : ByteArray) : lookL (A ++ B) k = (lookL B k).or (lookL A k) := by
  unfold lookL
  rw [List.reverse_append, List.find?_append]
  cases (B.reverse.find? fun p => eqB p.1 k) <;> simp
theorem lookL_one {α : Type} (a : ByteArray) (x : α) (k : ByteArray) : lookL [(a, x)] k = if eqB a k = true then some x else none := by
  unfold lookL
  cases h : eqB a k <;> simp [h]
theorem lookL_ent (a : List UInt8) (o : Option T) (k : ByteArray) : lookL (ent a o) k = if eqB (bs a) k = true then o else none := by
  cases o with
  | none => show lookL [] k = _; rw [lookL_nil]; split <;> rfl
  | some t => show lookL [(bs a, t)] k = _; rw [lookL_one]
/-- A list of entries whose values their keys tell. -/
theorem lookL_keys {α : Type} (v : List UInt8 → α) (K : List (List UInt8)) (k : ByteArray) : lookL (K.map fun l => (bs l, v l)) k = if k.data.toList ∈ K then some (v k.data.toList) else none := by
  unfold lookL
  cases hf : ((K.map fun l => (bs l, v l)).reverse.find? fun p => eqB p.1 k) with
  | none =>
    rw [List.find?_eq_none] at hf
    rw [if_neg]
    · rfl
    · intro hm
      have := hf (bs k.data.toList, v k.data.toList) (by rw [List.mem_reverse]; exact List.mem_map.2 ⟨_, hm, rfl⟩)
      rw [bs_data] at this
      exact this ((eqB_iff _ _).2 rfl)
  | some p =>
    have h1 := List.find?_some hf
    have h2 := List.mem_of_find?_eq_some hf
    rw [List.mem_reverse] at h2
    obtain ⟨l, hl, rfl⟩ := List.mem_map.1 h2
    have h3 := (eqB_iff _ _).1 h1
    have h4 : l = k.data.toList := by rw [← h3]; rfl
    subst h4
    rw [if_pos hl]; rfl

theorem map_zip (E : List (ByteArray × T)) : (mapTree E).keys.zip (mapTree E).kids = (mapKeys E).map fun l => (bs l, (lookL E (bs l)).getD default) := by
  rw [mapTree_keys, mapTree_kids, List.zip_map']
theorem keys_look (E : List (ByteArray × T)) (k : ByteArray) : k.data.toList ∈ mapKeys E ↔ (lookL E k).isSome = true := by
  rw [mapKeys_mem, bs_data]

/-- What folded makes of a map's entries. -/
theorem lookL_fold (g : T → T) (E : List (ByteArray × T)) (k : ByteArray) : lookL (foldE g (mapTree E)) k = (lookL E k).map fun t => foldOne k (g t) := by
  have e : foldE g (mapTree E) = (mapKeys E).map fun l => (bs l, foldOne (bs l) (g ((lookL E (bs l)).getD default))) := by
    unfold foldE
    rw [map_zip, List.map_map]; rfl
  rw [e, lookL_keys (fun l => foldOne (bs l) (g ((lookL E (bs l)).getD default)))]
  rw [bs_data]
  cases h : lookL E k with
  | none => rw [if_neg (by rw [keys_look, h]; simp)]; rfl
  | some t => rw [if_pos (by rw [keys_look, h]; rfl)]; rfl
/-- What ReadBeside leaves of a map's entries. -/
theorem lookL_bes (lists : List ByteArray) (E : List (ByteArray × T)) (k : ByteArray) : lookL (besE lists (mapTree E)) k = (lookL E k).filter fun y => !(hasB lists k && ((y.kids.length : Int) == 0)) := by
  have e : besE lists (mapTree E) = ((mapKeys E).filter fun l => !(hasB lists (bs l) && ((((lookL E (bs l)).getD default).kids.length : Int) == 0))).map fun l => (bs l, (lookL E (bs l)).getD default) := by
    unfold besE
    rw [map_zip, List.filter_map]; rfl
  rw [e, lookL_keys (fun l => (lookL E (bs l)).getD default)]
  simp only [List.mem_filter, bs_data, keys_look]
  cases h : lookL E k with
  | none => simp
  | some t => simp [Option.filter]

/-! ### Same -/
def OptSame : Option T → Option T → Prop
  | none, none => True
  | some a, some b => sameB a b = true
  | _, _ => False
theorem same_maps {E1 E2 : List (ByteArray × T)} (h : ∀ k, OptSame (lookL E1 k) (lookL E2 k)) : sameB (mapTree E1) (mapTree E2) = true := by
  have hs : ∀ k, (lookL E1 k).isSome = (lookL E2 k).isSome := fun k => by
    have := h k
    cases h1 : lookL E1 k <;> cases h2 : lookL E2 k <;> rw [h1, h2] at this <;> first | rfl | exact this.elim
  have hk : mapKeys E1 = mapKeys E2 := rising_ext (mapKeys_rise _) (mapKeys_rise _) fun l => by rw [mapKeys_mem, mapKeys_mem, hs]
  have hL : sameL (mapTree E1).kids (mapTree E2).kids = true := by
    rw [sameL_iff (by rw [mapTree_kids, mapTree_kids, hk]; simp)]
    intro i a b ha hb
    rw [mapTree_kids, List.getElem?_map] at ha hb
    rw [← hk] at hb
    cases hi : (mapKeys E1)[i]? with
    | none => rw [hi] at ha; cases ha
    | some l =>
      rw [hi] at ha hb
      have hm := (mapKeys_mem E1 l).1 (List.mem_of_getElem? hi)
      have hh := h (bs l)
      have hm2 := hm
      rw [hs] at hm2
      cases h1 : lookL E1 (bs l) with
      | none => rw [h1] at hm; cases hm
      | some x =>
        cases h2 : lookL E2 (bs l) with
        | none => rw [h2] at hm2; cases hm2
        | some y =>
          rw [h1, h2] at hh
          rw [Option.map_some, h1] at ha
          rw [Option.map_some, h2] at hb
          cases ha; cases hb
          exact hh
  have hK : keysB (mapTree E1).keys (mapTree E2).keys = true := by rw [mapTree_keys, mapTree_keys, hk]; exact keysB_self _
  have hlen : (mapTree E1).kids.length = (mapTree E2).kids.length ∧ (mapTree E1).keys.length = (mapTree E2).keys.length := by
    rw [mapTree_kids, mapTree_kids, mapTree_keys, mapTree_keys, hk]; simp
  rw [sameB_eq, mapTree_kind, mapTree_kind, hlen.1, hlen.2, hL, hK]
  simp

theorem same_kind {a b : T} (h : sameB a b = true) : a.kind = b.kind := by
  rw [sameB_eq] at h
  split at h
  · rename_i hc
    simp only [Bool.and_eq_true, beq_iff_eq] at hc
    exact hc.1
  · cases h
theorem same_texts {a b : T} (h : sameB a b = true) (hk : a.kind = 1) : a.text = b.text := by
  rw [sameB_eq] at h
  split at h
  · rw [hk] at h
    exact (eqB_iff _ _).1 (by simpa using h)
  · cases h
/-- folded of an entry keeps Same. -/
theorem same_fold {k : ByteArray} {a b : T} (h : sameB a b = true) : sameB (foldOne k a) (foldOne k b) = true := by
  unfold foldOne
  have hk := same_kind h
  rw [← hk]
  split
  · rename_i hc
    simp only [Bool.and_eq_true, beq_iff_eq] at hc
    rw [same_texts h hc.2]
    exact same_text _
  · exact h
theorem opt_fold {k : ByteArray} {a b : Option T} (h : OptSame a b) : OptSame (a.map (foldOne k)) (b.map (foldOne k)) := by
  cases a <;> cases b <;> first | exact h | exact same_fold h

/-! ### A table's settings -/
theorem lookL_flat {α : Type} (f : List UInt8 × α → Option T) (k : ByteArray) : ∀ (l : List (List UInt8 × α)), l.Pairwise (fun a b => a.1 ≠ b.1) → lookL (l.flatMap fun r => ent r.1 (f r)) k = (l.find? fun r => r.1 == k.data.toList).bind f
  | [], _ => rfl
  | r :: l, h => by
    obtain ⟨h1, h2⟩ := List.pairwise_cons.1 h
    rw [List.flatMap_cons, lookL_app, lookL_flat f k l h2, lookL_ent, List.find?_cons]
    by_cases hk : r.1 = k.data.toList
    · have hn : (l.find? fun r => r.1 == k.data.toList) = none := by
        rw [List.find?_eq_none]
        intro x hx
        simpa [← hk] using (h1 x hx).symm
      have he : eqB (bs r.1) k = true := (eqB_iff _ _).2 (by rw [hk, bs_data])
      rw [hn, he]
      simp [hk]
    · have he : eqB (bs r.1) k = false := (eqB_false _ _).2 fun e => hk (by rw [← e]; rfl)
      have hb : (r.1 == k.data.toList) = false := by simpa using hk
      rw [he, hb]
      simp

theorem lastS_snoc (ss : List S) (s : S) (nm : ByteArray) : lastS (ss ++ [s]) nm = if eqB s.name nm = true then some s.value else lastS ss nm := by
  unfold lastS
  rw [List.reverse_append]
  show Option.map S.value (List.find? _ (s :: ss.reverse)) = _
  rw [List.find?_cons]
  cases eqB s.name nm <;> simp
theorem lastS_mem {ss : List S} {nm : ByteArray} {v : T} (h : lastS ss nm = some v) : ∃ s ∈ ss, s.name = nm ∧ s.value = v := by
  unfold lastS at h
  obtain ⟨s, h1, h2⟩ := Option.map_eq_some_iff.1 h
  have h3 := List.find?_some (p := fun s : S => eqB s.name nm) h1
  exact ⟨s, by simpa using List.mem_of_find?_eq_some h1, (eqB_iff _ _).1 h3, h2⟩

/-- No name of a table is that of a field. -/
def plainTab (tab : QTab) : Bool := tab.all fun r => r.1 != nField && r.1 != nBoost
theorem snoc_induct {α : Type} {P : List α → Prop} (h0 : P []) (h1 : ∀ l a, P l → P (l ++ [a])) : ∀ (n : Nat) (l : List α), l.length = n → P l
  | 0, l, h => by
    obtain rfl : l = [] := List.eq_nil_of_length_eq_zero h
    exact h0
  | n + 1, l, h => by
    rcases List.eq_nil_or_concat l with rfl | ⟨l', c, rfl⟩
    · cases h
    · rw [List.concat_eq_append] at *
      exact h1 l' c (snoc_induct h0 h1 n l' (by simpa using h))
/-- A field behind settings: as the last setting of its name says. -/
theorem run_f {tab : QTab} (hn : tab.Pairwise fun a b => a.1 ≠ b.1) (hi : tab.Pairwise fun a b => a.2.1 ≠ b.2.1) (hp : plainTab tab = true) {r : List UInt8 × Nat × Nat} (hr : r ∈ tab) (ss : List S) (q : Q) :
    (runQ tab q ss).f r.2.1 = match lastS ss (bs r.1) with
      | some v => fvK r.2.2 v
      | none => q.f r.2.1 := by
  refine snoc_induct (P := fun ss => (runQ tab q ss).f r.2.1 = match lastS ss (bs r.1) with
      | some v => fvK r.2.2 v
      | none => q.f r.2.1) rfl (fun ss s ih => ?_) ss.length ss rfl
  have hpr : r.1 ≠ nField ∧ r.1 ≠ nBoost := by
    have := List.all_eq_true.1 hp r hr
    simpa using this
  have same : ∀ r' ∈ tab, r'.1 = r.1 → r' = r := fun r' h' e => by
    obtain ⟨i, hi1, rfl⟩ := List.getElem_of_mem h'
    obtain ⟨j, hj1, rfl⟩ := List.getElem_of_mem hr
    have hpw := List.pairwise_iff_getElem.1 hn
    rcases Nat.lt_trichotomy i j with h | h | h
    · exact absurd e (hpw i j hi1 hj1 h)
    · subst h; rfl
    · exact absurd e.symm (hpw j i hj1 hi1 h)
  have sameI : ∀ r' ∈ tab, r.2.1 = r'.2.1 → r' = r := fun r' h' e => by
    obtain ⟨i, hi1, rfl⟩ := List.getElem_of_mem h'
    obtain ⟨j, hj1, rfl⟩ := List.getElem_of_mem hr
    have hpw := List.pairwise_iff_getElem.1 hi
    rcases Nat.lt_trichotomy i j with h | h | h
    · exact absurd e.symm (hpw i j hi1 hj1 h)
    · subst h; rfl
    · exact absurd e (hpw j i hj1 hi1 h)
  rw [runQ_snoc, lastS_snoc]
  by_cases he : s.name.data.toList = r.1
  · have heq : eqB s.name (bs r.1) = true := (eqB_iff _ _).2 (by rw [← he, bs_data])
    rw [heq]
    unfold stepQ
    rw [if_neg (by rw [he]; exact hpr.1), if_neg (by rw [he]; exact hpr.2)]
    have hf : tab.find? (fun r' => r'.1 == s.name.data.toList) = some r := by
      cases hf : tab.find? (fun r' => r'.1 == s.name.data.toList) with
      | none =>
        have := List.find?_eq_none.1 hf r hr
        rw [he] at this
        simp at this
      | some r' =>
        have h1 := List.find?_some hf
        have h2 := List.mem_of_find?_eq_some hf
        rw [same r' h2 (by rw [← he]; simpa using h1)]
    rw [hf]
    simp [upd]
  · have heq : eqB s.name (bs r.1) = false := (eqB_false _ _).2 fun e => he (by rw [e]; rfl)
    rw [heq]
    simp only [Bool.false_eq_true, if_false]
    rw [← ih]
    unfold stepQ
    split
    · rfl
    · split
      · rfl
      · split
        · rename_i r' hf
          show upd _ _ _ _ = _
          unfold upd
          rw [if_neg]
          intro e
          have h1 := List.find?_some hf
          have h2 := List.mem_of_find?_eq_some hf
          have := sameI r' h2 e
          subst this
          exact he (eq_of_beq h1).symm
        · rfl
end Go.Proofs.YtbcnhcpgloncdaaGreatDoor

/-
  WHAT A BUILDER's SETTINGS COME TO IN THE TREE: each as its last setting says.
-/
namespace Go.Proofs.YtbcnhcpgloncdaaGreatDoor
open Go.RowKit

def nQuery : List UInt8 := [113, 117, 101, 114, 121]
/-- A setter's kind goes with a table's kind. -/
def goesB (K : Nat) (k : List UInt8) : Bool := (K == 0 && k == [116]) || ((K == 1 && k == [110]) || ((K == 2 && k == [119]) || ((K == 3 && k == [98]) || ((K == 4 && k == [116]) || (K == 5 && k == [119])))))

theorem scalar_bare {t : T} (h : scalarT t = true) : t.keys.length = 0 ∧ t.kids.length = 0 ∧ (t.kind = 1 → t.text.toList.isEmpty = false) := by
  unfold scalarT at h
  split at h
  · cases h
  · rename_i hn
    rw [not_or] at hn
    refine ⟨by omega, by omega, fun hk => ?_⟩
    rw [if_pos hk] at h
    simpa using h
theorem same_leaf_text {t : T} (h : scalarT t = true) (hk : t.kind = 1) : sameB (tText t.text) t = true := by
  obtain ⟨h1, h2, -⟩ := scalar_bare h
  rw [sameB_eq, show (tText t.text).kind = 1 from rfl, show (tText t.text).kids = [] from rfl, show (tText t.text).keys = [] from rfl, hk, h1, h2]
  simp [tText, T.text, eqB]
theorem same_leaf_num {t : T} (h : scalarT t = true) (hk : t.kind = 2) {x : Nat} (hx : feq x t.num = true) : sameB (tNum x) t = true := by
  obtain ⟨h1, h2, -⟩ := scalar_bare h
  rw [sameB_eq, show (tNum x).kind = 2 from rfl, show (tNum x).kids = [] from rfl, show (tNum x).keys = [] from rfl, show (tNum x).num = x from rfl, hk, h1, h2, hx]
  simp
theorem same_leaf_yes {t : T} (h : scalarT t = true) (hk : t.kind = 3) : sameB (tYes t.yes) t = true := by
  obtain ⟨h1, h2, -⟩ := scalar_bare h
  rw [sameB_eq, show (tYes t.yes).kind = 3 from rfl, show (tYes t.yes).kids = [] from rfl, show (tYes t.yes).keys = [] from rfl, show (tYes t.yes).yes = t.yes from rfl, hk, h1, h2]
  simp
theorem leaf_is {t : T} (h : scalarT t = true) : sameB (leafT t) t = true := by
  obtain ⟨hk, hn⟩ := scalar_kind h
  unfold leafT
  split
  · rename_i h1; exact same_leaf_text h h1
  · split
    · rename_i h2; exact same_leaf_num h h2 (feq_num (hn h2))
    · rename_i h1 h2; exact same_leaf_yes h (by omega)

theorem whole_eq {t : T} (h : fitB [119] t = true) : feq (floatOfInt .f64 (wholeOf t.num)) t.num = true ∧ 0 ≤ wholeOf t.num ∧ scalarT t = true ∧ t.kind = 2 := by
  obtain ⟨m, h1, h2, h3, h4⟩ := whole_of h
  simp [fitB] at h
  obtain ⟨hk, hs, hw⟩ := h
  unfold wholeB at hw
  simp only [Bool.and_eq_true] at hw
  have hi := hw.2.2
  unfold intEq at hi
  rw [h1] at hi
  exact ⟨by rw [h2]; exact hi, by omega, hs, hk⟩

/-- A setting's value stands in the tree as it is. -/
theorem set_same {K : Nat} {k : List UInt8} {v : T} (hg : goesB K k = true) (hf : fitB k v = true) (h4 : K = 4 → typeOf (lowerB v.text) = v.text) : OptSame (fvT (fvK K v)) (some v) := by
  have ht : k = [116] → v.kind = 1 ∧ scalarT v = true := fun e => by subst e; simpa [fitB] using hf
  have hn : k = [110] → v.kind = 2 ∧ scalarT v = true := fun e => by subst e; simpa [fitB] using hf
  have hb : k = [98] → v.kind = 3 ∧ scalarT v = true := fun e => by subst e; simpa [fitB] using hf
  simp only [goesB, Bool.or_eq_true, Bool.and_eq_true, beq_iff_eq] at hg
  rcases hg with ⟨rfl, rfl⟩ | ⟨rfl, rfl⟩ | ⟨rfl, rfl⟩ | ⟨rfl, rfl⟩ | ⟨rfl, rfl⟩ | ⟨rfl, rfl⟩
  · obtain ⟨hk, hs⟩ := ht rfl
    have he := (scalar_bare hs).2.2 hk
    show OptSame (if v.text.toList.isEmpty then none else some (tText v.text)) (some v)
    rw [he]
    exact same_leaf_text hs hk
  · obtain ⟨hk, hs⟩ := hn rfl
    exact same_leaf_num hs hk (feq_num ((scalar_kind hs).2 hk))
  · obtain ⟨h1, h2, hs, hk⟩ := whole_eq hf
    exact same_leaf_num hs hk h1
  · obtain ⟨hk, hs⟩ := hb rfl
    exact same_leaf_yes hs hk
  · obtain ⟨hk, hs⟩ := ht rfl
    have he := (scalar_bare hs).2.2 hk
    show OptSame (if (typeOf (lowerB v.text)).toList.isEmpty then none else some (tText (typeOf (lowerB v.text)))) (some v)
    rw [h4 rfl, he]
    exact same_leaf_text hs hk
  · obtain ⟨h1, h2, hs, hk⟩ := whole_eq hf
    show OptSame (if wholeOf v.num == -1 then none else some (tNum (floatOfInt .f64 (wholeOf v.num)))) (some v)
    have : (wholeOf v.num == -1) = false := by simp; omega
    rw [this]
    exact same_leaf_num hs hk h1

/-- Source's table, the builder's table and the settings' rows go together. -/
def okTabs (tabL : List (List UInt8 × Nat)) (tab : QTab) (rows : List (List UInt8 × List UInt8)) : Bool :=
  tabL.all (fun a => match rows.find? (fun r => r.1 == a.1) with
    | some r => valK r.2 && tab.any (fun x => x.1 == a.1 && (x.2.1 == a.2 && goesB x.2.2 r.2))
    | none => tab.all (fun x => x.2.1 != a.2)) &&
  (rows.all (fun r => !valK r.2 || (r.1 == nField || tabL.any (fun a => a.1 == r.1))) && tabL.all (fun a => a.1 != nField))

def setsL (tabL : List (List UInt8 × Nat)) (q : Q) (k : ByteArray) : Option T := (tabL.find? fun a => a.1 == k.data.toList).bind fun a => fvT (q.f a.2)
def setsR (rows : List (List UInt8 × List UInt8)) (ss : List S) (k : ByteArray) : Option T := if k.data.toList = nField then none else (rows.find? fun r => r.1 == k.data.toList).bind fun r => if valK r.2 = true then lastS ss (bs r.1) else none

theorem kind_row {rows : List (List UInt8 × List UInt8)} {r : List UInt8 × List UInt8} {k : ByteArray} (h : rows.find? (fun r => r.1 == k.data.toList) = some r) : kindF rows k = r.2 := by
  have e : (fun r : List UInt8 × List UInt8 => eqB (bs r.1) k) = fun r => r.1 == k.data.toList := by
    funext r
    rw [Bool.eq_iff_iff, eqB_iff, beq_iff_eq]
    exact ⟨fun e => by rw [← e]; rfl, fun e => by rw [e, bs_data]⟩
  unfold kindF
  rw [e, h]; rfl

theorem tabs_same {B : Builder} {tabL : List (List UInt8 × Nat)} {tab : QTab} (hn : tab.Pairwise fun a b => a.1 ≠ b.1) (hi : tab.Pairwise fun a b => a.2.1 ≠ b.2.1) (hp : plainTab tab = true) (hok : okTabs tabL tab B.rows = true)
    {q0 : Q} (h0 : ∀ a ∈ tabL, fvT (q0.f a.2) = none) {ss : List S} (hfit : ∀ s ∈ ss, fitsAt B s = true) (h4 : ∀ r ∈ tab, r.2.2 = 4 → ∀ s ∈ ss, s.name = bs r.1 → typeOf (lowerB s.value.text) = s.value.text) (k : ByteArray) :
    OptSame (setsL tabL (runQ tab q0 ss) k) (setsR B.rows ss k) := by
  simp only [okTabs, Bool.and_eq_true] at hok
  obtain ⟨o1, o2, o3⟩ := hok
  rw [List.all_eq_true] at o1 o2 o3
  unfold setsL setsR
  cases hL : tabL.find? (fun a => a.1 == k.data.toList) with
  | none =>
    rw [Option.bind_none]
    split
    · trivial
    · rename_i hnf
      cases hR : B.rows.find? (fun r => r.1 == k.data.toList) with
      | none => trivial
      | some r =>
        rw [Option.bind_some]
        split
        · rename_i hv
          exfalso
          have h1 := List.find?_some hR
          rw [beq_iff_eq] at h1
          have h2 := o2 r (List.mem_of_find?_eq_some hR)
          rw [hv] at h2
          simp only [Bool.not_true, Bool.false_or, Bool.or_eq_true, beq_iff_eq, List.any_eq_true] at h2
          rcases h2 with h2 | ⟨a, ha, he⟩
          · exact hnf (h1.symm.trans h2)
          · have := List.find?_eq_none.1 hL a ha
            rw [he, h1] at this
            simp at this
        · trivial
  | some a =>
    have ha1 := List.find?_some hL
    rw [beq_iff_eq] at ha1
    have ham := List.mem_of_find?_eq_some hL
    have hnf : ¬ k.data.toList = nField := fun e => by
      have := o3 a ham
      rw [ha1, e] at this
      simp at this
    rw [Option.bind_some, if_neg hnf]
    have h1 := o1 a ham
    rw [ha1] at h1
    cases hR : B.rows.find? (fun r => r.1 == k.data.toList) with
    | none =>
      rw [hR] at h1
      dsimp only at h1
      rw [List.all_eq_true] at h1
      rw [run_other (fun r hr => by simpa using h1 r hr), h0 a ham]
      trivial
    | some r =>
      rw [hR] at h1
      simp only [Bool.and_eq_true, List.any_eq_true, beq_iff_eq] at h1
      obtain ⟨hv, x, hx, hx1, hx2, hg⟩ := h1
      rw [Option.bind_some, if_pos hv]
      have hr1 := List.find?_some hR
      rw [beq_iff_eq] at hr1
      have hf := run_f hn hi hp hx ss q0
      rw [hx2] at hf
      have hkb : bs r.1 = k := by rw [hr1, bs_data]
      rw [hf, hx1, ← hr1]
      cases hl : lastS ss (bs r.1) with
      | none =>
        show OptSame (fvT (q0.f a.2)) none
        rw [h0 a ham]
        trivial
      | some v =>
        obtain ⟨s, hs, hsn, rfl⟩ := lastS_mem hl
        have hfs := hfit s hs
        unfold fitsAt at hfs
        rw [hsn, hkb, kind_row hR] at hfs
        exact set_same hg hfs fun e => h4 x hx e s hs (by rw [hsn, hx1, ← hr1])

/-! ### Fields -/
def boostOf (s : S) : Option (ByteArray × Nat) := if s.name.data.toList = nBoost then some (s.value.text, s.value.num) else none
def readOne (B : List (ByteArray × Nat)) (f : ByteArray) : T := match lookL B f with
  | some x => tBoost f x
  | none => tText f

theorem eqB_name (s : S) (l : List UInt8) : eqB s.name (bs l) = true ↔ s.name.data.toList = l := by
  rw [eqB_iff]
  exact ⟨fun e => by rw [e]; rfl, fun e => by rw [← e, bs_data]⟩
theorem nameOf_eq (s : S) : nameOf s = if s.name.data.toList = nField ∨ s.name.data.toList = nBoost then some s.value.text else none := by
  unfold nameOf
  have e1 : eqB s.name kField = true ↔ s.name.data.toList = nField := eqB_name s nField
  have e2 : eqB s.name kFieldBoost = true ↔ s.name.data.toList = nBoost := eqB_name s nBoost
  simp only [e1, e2]
theorem run_fields (tab : QTab) (ss : List S) (q : Q) : (runQ tab q ss).fields = q.fields ++ ss.filterMap nameOf ∧ (runQ tab q ss).boosts = q.boosts ++ ss.filterMap boostOf := by
  refine snoc_induct (P := fun ss => (runQ tab q ss).fields = q.fields ++ ss.filterMap nameOf ∧ (runQ tab q ss).boosts = q.boosts ++ ss.filterMap boostOf) ⟨by simp [runQ], by simp [runQ]⟩ (fun ss s ih => ?_) ss.length ss rfl
  rw [runQ_snoc, List.filterMap_append, List.filterMap_append, ← List.append_assoc, ← List.append_assoc, ← ih.1, ← ih.2]
  have hne : nField ≠ nBoost := by decide
  have e1 := nameOf_eq s
  have e2 : boostOf s = if s.name.data.toList = nBoost then some (s.value.text, s.value.num) else none := rfl
  unfold stepQ
  by_cases h1 : s.name.data.toList = nField
  · have h2 : ¬ s.name.data.toList = nBoost := fun e => hne (h1.symm.trans e)
    rw [if_pos (Or.inl h1)] at e1
    rw [if_neg h2] at e2
    rw [if_pos h1]
    simp [e1, e2]
  · by_cases h2 : s.name.data.toList = nBoost
    · rw [if_pos (Or.inr h2)] at e1
      rw [if_pos h2] at e2
      rw [if_neg h1, if_pos h2]
      simp [e1, e2]
    · rw [if_neg (not_or.2 ⟨h1, h2⟩)] at e1
      rw [if_neg h2] at e2
      rw [if_neg h1, if_neg h2]
      split <;> simp [e1, e2]
theorem boost_name {ss : List S} {f : ByteArray} {x : Nat} (h : (f, x) ∈ ss.filterMap boostOf) : f ∈ ss.filterMap nameOf := by
  obtain ⟨s, hs, he⟩ := List.mem_filterMap.1 h
  refine List.mem_filterMap.2 ⟨s, hs, ?_⟩
  unfold boostOf at he
  split at he
  · rename_i hb
    rw [nameOf_eq, if_pos (Or.inr hb)]
    cases he; rfl
  · cases he
theorem lookL_absent {ss : List S} {f : ByteArray} (h : f ∉ ss.filterMap nameOf) : lookL (ss.filterMap boostOf) f = none := by
  cases hl : lookL (ss.filterMap boostOf) f with
  | none => rfl
  | some x => exact absurd (boost_name (lookL_mem hl)) h
theorem read_names : ∀ (ss : List S), (ss.filterMap nameOf).Nodup → (ss.filterMap nameOf).map (readOne (ss.filterMap boostOf)) = ss.filterMap kidOf
  | [], _ => rfl
  | s :: ss, h => by
    have hne : nField ≠ nBoost := by decide
    have e1 := nameOf_eq s
    have e2 : boostOf s = if s.name.data.toList = nBoost then some (s.value.text, s.value.num) else none := rfl
    have e3 : kidOf s = if s.name.data.toList = nField then some (tText s.value.text) else if s.name.data.toList = nBoost then some (tBoost s.value.text s.value.num) else none := rfl
    by_cases h1 : s.name.data.toList = nField
    · have h2 : ¬ s.name.data.toList = nBoost := fun e => hne (h1.symm.trans e)
      rw [if_pos (Or.inl h1)] at e1
      rw [if_neg h2] at e2
      rw [if_pos h1] at e3
      rw [List.filterMap_cons_some e1] at h ⊢
      rw [List.filterMap_cons_none e2, List.filterMap_cons_some e3, List.map_cons, read_names ss (List.nodup_cons.1 h).2]
      congr 1
      unfold readOne
      rw [lookL_absent (List.nodup_cons.1 h).1]
    · by_cases h2 : s.name.data.toList = nBoost
      · rw [if_pos (Or.inr h2)] at e1
        rw [if_pos h2] at e2
        rw [if_neg h1, if_pos h2] at e3
        rw [List.filterMap_cons_some e1] at h ⊢
        rw [List.filterMap_cons_some e2, List.filterMap_cons_some e3, List.map_cons]
        have hl : ∀ f, lookL ((s.value.text, s.value.num) :: ss.filterMap boostOf) f = (lookL (ss.filterMap boostOf) f).or (if eqB s.value.text f = true then some s.value.num else none) := fun f => by
          rw [← List.singleton_append, lookL_app, lookL_one]
        congr 1
        · unfold readOne
          rw [hl, lookL_absent (List.nodup_cons.1 h).1]
          simp [eqB]
        · rw [← read_names ss (List.nodup_cons.1 h).2]
          refine List.map_congr_left fun f hf => ?_
          have : eqB s.value.text f = false := (eqB_false _ _).2 fun e => (List.nodup_cons.1 h).1 (by rw [e]; exact hf)
          unfold readOne
          rw [hl, this]
          simp
      · rw [if_neg (not_or.2 ⟨h1, h2⟩)] at e1
        rw [if_neg h2] at e2
        rw [if_neg h1, if_neg h2] at e3
        rw [List.filterMap_cons_none e1] at h ⊢
        rw [List.filterMap_cons_none e2, List.filterMap_cons_none e3]
        exact read_names ss h
/-- All fields, read back: what they should be. -/
theorem read_fields {tab : QTab} {q : Q} {ss : List S} (hb : q.boosts = []) (hd : (fieldNames q.fields ss).Nodup) :
    (runQ tab q ss).fields.map (readOne (runQ tab q ss).boosts) = q.fields.map tText ++ ss.filterMap kidOf := by
  obtain ⟨h1, h2⟩ := run_fields tab ss q
  unfold fieldNames at hd
  obtain ⟨d1, d2, d3⟩ := List.nodup_append.1 hd
  rw [h1, h2, hb, List.nil_append, List.map_append, read_names ss d2]
  congr 1
  refine List.map_congr_left fun f hf => ?_
  unfold readOne
  rw [lookL_absent fun hm => d3 f hf f hm rfl]

theorem fieldsB_all {ks : List ByteArray} (h : fieldsB ks = true) : ks.Nodup ∧ ∀ k ∈ ks, fieldB k = true := by
  unfold fieldsB at h
  rw [List.all_eq_true] at h
  have ha : ∀ (i : Nat) (hi : i < ks.length), fieldB ks[i] = true ∧ hasB (ks.take i) ks[i] = false := fun i hi => by
    have := h i (List.mem_range.2 hi)
    unfold fieldsAt at this
    rw [List.getElem?_eq_getElem hi] at this
    simpa using this
  constructor
  · rw [List.Nodup, List.pairwise_iff_getElem]
    intro i j hi hj hij e
    have h2 := (ha j hj).2
    have : hasB (ks.take j) ks[j] = true := by
      unfold hasB
      rw [List.any_eq_true]
      exact ⟨ks[i], List.mem_take_iff_getElem.2 ⟨i, by omega, rfl⟩, (eqB_iff _ _).2 e⟩
    rw [h2] at this
    cases this
  · intro k hk
    obtain ⟨i, hi, rfl⟩ := List.getElem_of_mem hk
    exact (ha i hi).1
/-- The name of a field has no '^'. -/
theorem field_plain {s : ByteArray} (h : fieldB s = true) : placeN s.data.toList 94 = s.size := by
  unfold fieldB at h
  split at h
  · split at h
    · cases h
    · split at h
      · cases h
      · rename_i h3
        have := placeN_le s.data.toList 94
        have e : s.data.toList.length = s.size := by simp
        omega
  · cases h
end Go.Proofs.YtbcnhcpgloncdaaGreatDoor

/-
  THE TWO TREES OF A LAW ARE Same: kinded, and the whole comparison.
-/
namespace Go.Proofs.YtbcnhcpgloncdaaGreatDoor
open Go.RowKit

def nType : List UInt8 := [116, 121, 112, 101]
def nTie : List UInt8 := [116, 105, 101, 95, 98, 114, 101, 97, 107, 101, 114]
def nMulti : List UInt8 := [109, 117, 108, 116, 105, 95, 109, 97, 116, 99, 104]
def nBest : List UInt8 := [98, 101, 115, 116, 95, 102, 105, 101, 108, 100, 115]
def nMost : List UInt8 := [109, 111, 115, 116, 95, 102, 105, 101, 108, 100, 115]

theorem mapTree_ext {E1 E2 : List (ByteArray × T)} (h : ∀ k, lookL E1 k = lookL E2 k) : mapTree E1 = mapTree E2 := by
  have hk : mapKeys E1 = mapKeys E2 := rising_ext (mapKeys_rise _) (mapKeys_rise _) fun l => by rw [mapKeys_mem, mapKeys_mem, h]
  rw [mapTree_eq, mapTree_eq, hk]
  congr 1
  refine List.map_congr_left fun l _ => by rw [h]

/-- A map's entries, folded. -/
noncomputable def foldEE (E : List (ByteArray × T)) : List (ByteArray × T) := foldE id (mapTree E)
theorem lookL_foldEE (E : List (ByteArray × T)) (k : ByteArray) : lookL (foldEE E) k = (lookL E k).map (foldOne k) := lookL_fold id E k
/-- folded of a query's tree. -/
theorem fold_outer (kind : List UInt8) (X Y : T) (g : T → T) (hg : g X = Y) (hY : Y.kind = 5) : mapTree (foldE g (mapTree [(bs kind, X)])) = mapTree [(bs kind, Y)] := by
  refine mapTree_ext fun k => ?_
  rw [lookL_fold, lookL_one, lookL_one]
  split
  · rw [Option.map_some, hg]
    unfold foldOne
    rw [hY]
    simp
  · rfl

/-- The kind of a multi_match query, best_fields if nothing is said. -/
def kindT (E : List (ByteArray × T)) : T := (lookL E (bs nType)).getD (tText (bs nBest))
def tieNum (t : T) : Nat := if t.text.toList == nMost then f1 else 0
def kindedE (E : List (ByteArray × T)) : List (ByteArray × T) := if (lookL E (bs nTie)).isSome = true then E ++ [(bs nType, kindT E)] else E ++ [(bs nType, kindT E)] ++ [(bs nTie, tNum (tieNum (kindT E)))]
theorem type_tie : eqB (bs nType) (bs nTie) = false ∧ eqB (bs nTie) (bs nType) = false := by decide +kernel

theorem kinded_same {E1 E2 : List (ByteArray × T)} (h : ∀ k, OptSame (lookL E1 k) (lookL E2 k)) (ht : ∀ v, lookL E2 (bs nType) = some v → v.kind = 1) : ∀ k, OptSame (lookL (kindedE E1) k) (lookL (kindedE E2) k) := by
  intro k
  have hT := h (bs nType)
  have hI := h (bs nTie)
  have hk : sameB (kindT E1) (kindT E2) = true ∧ tieNum (kindT E1) = tieNum (kindT E2) := by
    unfold kindT
    cases h1 : lookL E1 (bs nType) with
    | none =>
      cases h2 : lookL E2 (bs nType) with
      | none => exact ⟨same_text _, rfl⟩
      | some v => rw [h1, h2] at hT; exact hT.elim
    | some u =>
      cases h2 : lookL E2 (bs nType) with
      | none => rw [h1, h2] at hT; exact hT.elim
      | some v =>
        rw [h1, h2] at hT
        have hT' : sameB u v = true := hT
        refine ⟨hT', ?_⟩
        have hv := ht v h2
        have := same_texts hT' ((same_kind hT').trans hv)
        unfold tieNum
        rw [Option.getD_some, Option.getD_some, this]
  have hi : (lookL E1 (bs nTie)).isSome = (lookL E2 (bs nTie)).isSome := by
    cases h1 : lookL E1 (bs nTie) <;> cases h2 : lookL E2 (bs nTie) <;> rw [h1, h2] at hI <;> first | rfl | exact hI.elim
  have hn : feq (tieNum (kindT E2)) (tieNum (kindT E2)) = true := by
    unfold tieNum
    split
    · exact feq_self (by decide +kernel)
    · exact feq_self (by decide +kernel)
  unfold kindedE
  rw [hi, hk.2]
  have one : OptSame (lookL (E1 ++ [(bs nType, kindT E1)]) k) (lookL (E2 ++ [(bs nType, kindT E2)]) k) := by
    rw [lookL_snoc, lookL_snoc]
    split
    · exact hk.1
    · exact h k
  split
  · exact one
  · rw [lookL_snoc (E1 ++ [(bs nType, kindT E1)]), lookL_snoc (E2 ++ [(bs nType, kindT E2)])]
    split
    · exact same_num hn
    · exact one

/-- The entries of a law's two trees, in the end. -/
noncomputable def finE (mm : Bool) (E : List (ByteArray × T)) : List (ByteArray × T) := if mm then kindedE (foldEE E) else foldEE E
theorem fin_same {mm : Bool} {kind : List UInt8} {E1 E2 : List (ByteArray × T)} (h : ∀ k, OptSame ((lookL E1 k).map (foldOne k)) ((lookL E2 k).map (foldOne k))) (ht : ∀ v, lookL E2 (bs nType) = some v → v.kind = 1) :
    sameB (mapTree [(bs kind, mapTree (finE mm E1))]) (mapTree [(bs kind, mapTree (finE mm E2))]) = true := by
  refine same_maps fun k => ?_
  rw [lookL_one, lookL_one]
  split
  · refine same_maps fun k => ?_
    have h' : ∀ k, OptSame (lookL (foldEE E1) k) (lookL (foldEE E2) k) := fun k => by rw [lookL_foldEE, lookL_foldEE]; exact h k
    unfold finE
    split
    · refine kinded_same h' (fun v hv => ?_) k
      rw [lookL_foldEE] at hv
      obtain ⟨u, h1, h2⟩ := Option.map_eq_some_iff.1 hv
      have hu := ht u h1
      rw [← h2]
      unfold foldOne
      split
      · rfl
      · exact hu
    · exact h' k
  · trivial

/-! ### The entries of the two trees -/
/-- A query's text, its fields, its settings. -/
def three (t0 : T) (F : Option T) (tab : ByteArray → Option T) (k : ByteArray) : Option T := if k.data.toList = nQuery then some t0 else if k.data.toList = nFields then F else tab k
theorem three_same {t0 t1 : T} {F G : Option T} {a b : ByteArray → Option T} (h0 : sameB t0 t1 = true) (hF : OptSame F G) (h : ∀ k, OptSame (a k) (b k)) (k : ByteArray) : OptSame (three t0 F a k) (three t1 G b k) := by
  unfold three
  split
  · exact h0
  · split
    · exact hF
    · exact h k

theorem same_boost {f : ByteArray} {x : Nat} (h : feq x x = true) : sameB (tBoost f x) (tBoost f x) = true :=
  same_node (by simp [tBoost, T.kind]) (by simp [tBoost, T.kind]) (by simp [tBoost, T.kind]) (by simp [tBoost, T.kind]) fun u hu => by
    rcases List.mem_cons.1 hu with rfl | hu
    · exact same_text f
    · obtain rfl : u = tNum x := by simpa using hu
      exact same_num h
def fieldsO (ts : List T) : Option T := if ts = [] then none else some (fieldsT ts)
theorem same_read {q : Q} (hb : ∀ p ∈ q.boosts, feq p.2 p.2 = true) : OptSame (fieldsO (q.fields.map (readOne q.boosts))) (fieldsO (q.fields.map (readOne q.boosts))) := by
  unfold fieldsO
  split
  · trivial
  · refine same_node (by simp [fieldsT, T.kind]) (by simp [fieldsT, T.kind]) (by simp [fieldsT, T.kind]) (by simp [fieldsT, T.kind]) fun u hu => ?_
    obtain ⟨f, -, rfl⟩ := List.mem_map.1 (show u ∈ q.fields.map (readOne q.boosts) from hu)
    unfold readOne
    cases hl : lookL q.boosts f with
    | none => exact same_text f
    | some x => exact same_boost (hb _ (lookL_mem hl))
theorem boost_feq {x : Nat} (h : boostB x = true) : feq x x = true := by
  obtain ⟨k, L, hk1, hk2, hL, hlo, hhi, hs, hxb⟩ := boost_bits h
  have a1 : 2 ^ 52 ≤ k * 2 ^ (52 - L) := by
    calc 2 ^ 52 = 2 ^ L * 2 ^ (52 - L) := by rw [← Nat.pow_add, show L + (52 - L) = 52 by omega]
      _ ≤ _ := Nat.mul_le_mul_right _ hlo
  have a2 : k * 2 ^ (52 - L) < 2 ^ 53 := by
    calc k * 2 ^ (52 - L) < 2 ^ (L + 1) * 2 ^ (52 - L) := Nat.mul_lt_mul_of_pos_right hhi (Nat.two_pow_pos _)
      _ = 2 ^ 53 := by rw [← Nat.pow_add, show L + 1 + (52 - L) = 53 by omega]
  refine feq_num ?_
  unfold isNum Ieee.Format.read
  have e1 : dbl.signWeight = 2 ^ 63 := rfl
  have e2 : dbl.binade = 2 ^ 52 := rfl
  have e3 : dbl.infRung = 0x7ff0000000000000 := rfl
  rw [e1, e2, e3]
  dsimp only
  rw [if_neg (by generalize k * 2 ^ (52 - L) = y at *; omega), if_pos (by generalize k * 2 ^ (52 - L) = y at *; omega)]

/-- The pairs of the query that should be. -/
def sevS (rows : List (List UInt8 × List UInt8)) (text : T) (fs : List T) (ss : List S) : List S := (pickS (paramsS rows ss) [bs nField] ++ fieldsS fs) ++ [⟨bs nQuery, text⟩]

theorem pE_app (a b : List S) : pE (a ++ b) = pE a ++ pE b := by simp [pE]
theorem pE_params (rows : List (List UInt8 × List UInt8)) (ss : List S) : pE (paramsS rows ss) = rows.flatMap fun r => ent r.1 (if valK r.2 = true then lastS ss (bs r.1) else none) := by
  unfold pE paramsS
  rw [List.map_flatMap]
  congr 1
  funext r
  unfold paramOf
  cases lastS ss (bs r.1) with
  | none => simp [ent]
  | some v => by_cases h : valK r.2 = true <;> simp [h, ent]
theorem lookL_pick (ps : List S) (n : List UInt8) (k : ByteArray) : lookL (pE (pickS ps [bs n])) k = if k.data.toList = n then none else lookL (pE ps) k := by
  refine snoc_induct (P := fun ps => lookL (pE (pickS ps [bs n])) k = if k.data.toList = n then none else lookL (pE ps) k) (by simp [pickS, pE, lookL_nil]) (fun ps p ih => ?_) ps.length ps rfl
  have e : pickS (ps ++ [p]) [bs n] = pickS ps [bs n] ++ (if eqB (bs n) p.name = true then [] else [p]) := by
    unfold pickS
    rw [List.filter_append, List.filter_cons, List.filter_nil]
    cases h : eqB (bs n) p.name <;> simp [hasB, h]
  rw [e, pE_app, pE_app, lookL_app, lookL_app, ih]
  by_cases hk : k.data.toList = n
  · rw [if_pos hk, if_pos hk]
    have hkb : k = bs n := by rw [← hk, bs_data]
    split
    · rfl
    · rename_i hne
      show (lookL [(p.name, p.value)] k).or none = none
      rw [lookL_one, if_neg (fun e => hne ((eqB_iff _ _).2 (by rw [← hkb]; exact ((eqB_iff _ _).1 e).symm)))]
      rfl
  · rw [if_neg hk, if_neg hk]
    split
    · rename_i he
      have he' := (eqB_iff _ _).1 he
      show (lookL [] k).or _ = (lookL [(p.name, p.value)] k).or _
      rw [lookL_one, if_neg (fun e => hk (by rw [← (eqB_iff _ _).1 e, ← he']; rfl))]
      rfl
    · rfl
theorem lookL_sev {rows : List (List UInt8 × List UInt8)} (hd : rows.Pairwise fun a b => a.1 ≠ b.1) (hq : rows.all (fun r => r.1 != nQuery && r.1 != nFields) = true) (text : T) (fs : List T) (ss : List S) (k : ByteArray) :
    lookL (pE (sevS rows text fs ss)) k = three text (fieldsO fs) (setsR rows ss) k := by
  have hp : lookL (pE (pickS (paramsS rows ss) [bs nField])) k = setsR rows ss k := by
    rw [lookL_pick, pE_params, lookL_flat (fun r => if valK r.2 = true then lastS ss (bs r.1) else none) k rows hd]
    rfl
  unfold sevS
  rw [pE_app, pE_app, lookL_app, lookL_app, hp]
  show (lookL [(bs nQuery, text)] k).or _ = _
  rw [lookL_one]
  unfold three
  by_cases h1 : k.data.toList = nQuery
  · rw [if_pos h1, if_pos ((eqB_iff _ _).2 (by rw [← h1, bs_data]))]
    rfl
  · rw [if_neg h1, if_neg (fun e => h1 (by rw [← (eqB_iff _ _).1 e]; rfl)), Option.none_or]
    by_cases h2 : k.data.toList = nFields
    · have hn : setsR rows ss k = none := by
        unfold setsR
        rw [if_neg (by rw [h2]; decide)]
        cases hf : rows.find? (fun r => r.1 == k.data.toList) with
        | none => rfl
        | some r =>
          have m1 := List.find?_some hf
          have m2 := List.all_eq_true.1 hq r (List.mem_of_find?_eq_some hf)
          rw [beq_iff_eq] at m1
          rw [m1, h2] at m2
          simp at m2
      rw [if_pos h2, hn]
      unfold fieldsO fieldsS
      split
      · rfl
      · show (lookL [(bs nFields, fieldsT fs)] k).or none = _
        rw [lookL_one, if_pos ((eqB_iff _ _).2 (by rw [← h2, bs_data]))]
        rfl
    · rw [if_neg h2]
      unfold fieldsS
      split
      · rfl
      · show (lookL [(bs nFields, fieldsT fs)] k).or _ = _
        rw [lookL_one, if_neg (fun e => h2 (by rw [← (eqB_iff _ _).1 e]; rfl)), Option.none_or]
/-- What ReadFields reads off Source's tree. -/
theorem lookL_src {tabL : List (List UInt8 × Nat)} (hd : tabL.Pairwise fun a b => a.1 ≠ b.1) (hq : tabL.all (fun r => r.1 != nQuery && r.1 != nFields) = true) (t0 : T) (F : Option T) (g : List UInt8 × Nat → Option T) (k : ByteArray) :
    lookL ([(bs nQuery, t0)] ++ ent nFields F ++ tabL.flatMap fun r => ent r.1 (g r)) k = three t0 F (fun k => (tabL.find? fun r => r.1 == k.data.toList).bind g) k := by
  rw [lookL_app, lookL_app, lookL_flat g k tabL hd, lookL_one, lookL_ent]
  have hn : ∀ n, (n = nQuery ∨ n = nFields) → k.data.toList = n → (tabL.find? fun r => r.1 == k.data.toList) = none := fun n hn hk => by
    rw [List.find?_eq_none]
    intro r hr
    have := List.all_eq_true.1 hq r hr
    rw [hk]
    rcases hn with rfl | rfl <;> simp at this ⊢ <;> simp [this]
  have eq : ∀ n, eqB (bs n) k = true ↔ k.data.toList = n := fun n => by
    rw [eqB_iff]
    exact ⟨fun e => by rw [← e]; rfl, fun e => by rw [← e, bs_data]⟩
  unfold three
  by_cases h1 : k.data.toList = nQuery
  · have h2 : ¬ k.data.toList = nFields := by rw [h1]; decide
    rw [if_pos h1, hn _ (Or.inl rfl) h1, if_pos ((eq _).2 h1), if_neg (fun e => h2 ((eq _).1 e))]
    rfl
  · by_cases h2 : k.data.toList = nFields
    · rw [if_neg h1, if_pos h2, hn _ (Or.inr rfl) h2, if_pos ((eq _).2 h2), if_neg (fun e => h1 ((eq _).1 e))]
      cases F <;> rfl
    · rw [if_neg h1, if_neg h2, if_neg (fun e => h2 ((eq _).1 e)), if_neg (fun e => h1 ((eq _).1 e))]
      dsimp only
      cases (tabL.find? fun r => r.1 == k.data.toList).bind g <;> rfl
end Go.Proofs.YtbcnhcpgloncdaaGreatDoor
