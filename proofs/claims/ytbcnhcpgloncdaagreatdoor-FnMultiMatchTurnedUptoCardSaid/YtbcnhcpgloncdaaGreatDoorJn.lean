/-
  WHAT A BUILDER's SETTINGS COME TO: numbers, boosts, sizes.
-/
import Derived.Test.YtbcnhcpgloncdaaGreatDoorMap
import Derived.Test.YtbcnhcpgloncdaaGreatDoorTur
import Derived.Test.YtbcnhcpgloncdaaGreatDoorFo
namespace Go.Proofs.YtbcnhcpgloncdaaGreatDoor
open Go.RowKit
open Ieee (Datum)

theorem order_self (d : Datum) (h : d.isNaN = false) : d.order d = some .eq := by
  cases d with
  | number s m i => simp [Datum.order]
  | infinity s => cases s <;> rfl
  | nan s f => cases h
theorem feq_self {x : Nat} (h : (dbl.read x).isNaN = false) : feq x x = true := by
  unfold feq
  have := order_self _ h
  show (dbl.order x x == some .eq) = true
  unfold Ieee.Format.order
  rw [this]; rfl
theorem feq_num {x : Nat} (h : isNum x = true) : feq x x = true := feq_self (by
  unfold isNum at h
  cases hr : dbl.read x <;> rw [hr] at h <;> first | rfl | cases h)
theorem word_real (s : Bool) (r : Nat) (h : r ≤ 0x7ff0000000000000) : (dbl.read (dbl.word s r)).isNaN = false := by
  have e1 : dbl.signWeight = 2 ^ 63 := rfl
  have e3 : dbl.infRung = 0x7ff0000000000000 := rfl
  have f6 : dbl.word s r % 2 ^ 63 = r := by
    unfold Ieee.Format.word; rw [e1]
    cases s
    · simp only [Bool.false_eq_true, if_false]; omega
    · simp only [if_true]; omega
  unfold Ieee.Format.read
  rw [e1, e3, f6]
  dsimp only
  split
  · rfl
  · split
    · rfl
    · rw [if_pos (by omega)]; rfl
theorem int_real (n : Int) : (dbl.read (floatOfInt .f64 n)).isNaN = false := by
  show (dbl.read (dbl.nearest (decide (n < 0)) n.natAbs 0)).isNaN = false
  unfold Ieee.Format.nearest
  split
  · exact word_real _ 0 (by decide)
  · exact word_real _ _ (Nat.min_le_right _ _)

/-- A field's value is same with itself. -/
def FVok (fv : FV) : Prop := ∀ t, fvT fv = some t → sameB t t = true ∧ wT t = 1
theorem fvok_text (s : ByteArray) : FVok (.val (.string s)) := fun t h => by
  rw [show fvT (.val (.string s)) = if s.toList.isEmpty then none else some (tText s) from rfl] at h
  split at h
  · cases h
  · cases h; exact ⟨same_text s, wT_text s⟩
theorem fvok_num (k : TypeId) {x : Nat} (hx : feq x x = true) : FVok (.opt k (.float .f64 x)) := fun t h => by
  cases h; exact ⟨same_num hx, wT_num x⟩
theorem fvok_int (k : TypeId) (n : Int) : FVok (.opt k (.int .i64 n)) := fun t h => by
  cases h; exact ⟨same_num (feq_self (int_real n)), wT_num _⟩
theorem fvok_yes (k : TypeId) (y : Bool) : FVok (.opt k (.bool y)) := fun t h => by
  cases h; exact ⟨same_yes y, wT_yes y⟩
theorem fvok_whole (n : Int) : FVok (.val (.int .i64 n)) := fun t h => by
  rw [show fvT (.val (.int .i64 n)) = if n == -1 then none else some (tNum (floatOfInt .f64 n)) from rfl] at h
  split at h
  · cases h
  · cases h; exact ⟨same_num (feq_self (int_real n)), wT_num _⟩
theorem fvok_nop : FVok .nop := fun t h => by cases h
theorem fvok_fvK (k : Nat) (t : T) (h : k = 1 → isNum t.num = true) : FVok (fvK k t) := by
  unfold fvK
  split
  · exact fvok_text _
  · exact fvok_num _ (feq_num (h rfl))
  · exact fvok_int _ _
  · exact fvok_yes _ _
  · exact fvok_text _
  · exact fvok_whole _

/-- A builder's table goes with its kinds. -/
def Compat (tab : QTab) (B : Builder) : Prop := (∀ r ∈ tab, r.2.2 = 1 → ∀ r' ∈ B.rows, r'.1 = r.1 → r'.2 = [110]) ∧ (∀ r' ∈ B.rows, r'.1 = nBoost → r'.2 = [102])
theorem fit_num {t : T} (h : fitB [110] t = true) : isNum t.num = true := by
  simp [fitB, scalarT] at h
  obtain ⟨hk, hs⟩ := h
  rw [← fin_num]
  rw [hk] at hs
  simpa using hs.2
theorem fit_boost {t : T} (h : fitB [102] t = true) : boostB t.num = true := by
  simp [fitB] at h
  exact h.2.2.2

theorem fvok_step {tab : QTab} {B : Builder} (hc : Compat tab B) {q : Q} (hq : ∀ i, FVok (q.f i)) {s : S} (hs : fitsAt B s = true) : ∀ i, FVok ((stepQ tab q s).f i) := by
  intro i
  unfold stepQ
  split
  · exact hq i
  · split
    · exact hq i
    · split
      · rename_i r hr
        show FVok (upd q.f r.2.1 (fvK r.2.2 s.value) i)
        unfold upd
        split
        · refine fvok_fvK _ _ fun hk => ?_
          obtain ⟨r', hr', hn, hf⟩ := fits_kind hs
          have h1 : r.1 = s.name.data.toList := by simpa using List.find?_some hr
          have h2 := hc.1 r (List.mem_of_find?_eq_some hr) hk r' hr' (by rw [h1, hn]; rfl)
          rw [h2] at hf
          exact fit_num hf
        · exact hq i
      · exact hq i
theorem fvok_run {tab : QTab} {B : Builder} (hc : Compat tab B) : ∀ (ss : List S) (q : Q), (∀ i, FVok (q.f i)) → (∀ s ∈ ss, fitsAt B s = true) → ∀ i, FVok ((runQ tab q ss).f i)
  | [], q, hq, _ => hq
  | s :: ss, q, hq, hs => fvok_run hc ss (stepQ tab q s) (fvok_step hc hq (hs s (by simp))) fun u hu => hs u (List.mem_cons_of_mem _ hu)

theorem boosts_run {tab : QTab} {B : Builder} (hc : Compat tab B) : ∀ (ss : List S) (q : Q), (∀ p ∈ q.boosts, okB p.2) → (∀ s ∈ ss, fitsAt B s = true) → (∀ s ∈ ss, s.value.num < 18446744073709551616) → ∀ p ∈ (runQ tab q ss).boosts, okB p.2
  | [], q, hq, _, _ => hq
  | s :: ss, q, hq, hs, hn => boosts_run hc ss (stepQ tab q s) (by
      intro p hp
      unfold stepQ at hp
      split at hp
      · exact hq p hp
      · split at hp
        · rename_i hb
          rcases List.mem_append.1 hp with h | h
          · exact hq p h
          · obtain rfl : p = (s.value.text, s.value.num) := by simpa using h
            obtain ⟨r', hr', hn', hf⟩ := fits_kind (hs s (by simp))
            have h2 := hc.2 r' hr' (by rw [← hb, hn']; rfl)
            rw [h2] at hf
            exact ⟨fit_boost hf, hn s (by simp)⟩
        · split at hp
          · exact hq p hp
          · exact hq p hp) (fun u hu => hs u (List.mem_cons_of_mem _ hu)) (fun u hu => hn u (List.mem_cons_of_mem _ hu))

theorem fields_run {tab : QTab} {n : Nat} : ∀ (ss : List S) (q : Q), (∀ f ∈ q.fields, f.size ≤ n) → (∀ s ∈ ss, s.value.text.size ≤ n) → ∀ f ∈ (runQ tab q ss).fields, f.size ≤ n
  | [], q, hq, _ => hq
  | s :: ss, q, hq, hs => fields_run ss (stepQ tab q s) (by
      intro f hf
      have hv := hs s (by simp)
      unfold stepQ at hf
      split at hf
      · rcases List.mem_append.1 hf with h | h
        · exact hq f h
        · obtain rfl : f = s.value.text := by simpa using h
          exact hv
      · split at hf
        · rcases List.mem_append.1 hf with h | h
          · exact hq f h
          · obtain rfl : f = s.value.text := by simpa using h
            exact hv
        · split at hf
          · exact hq f hf
          · exact hq f hf) (fun u hu => hs u (List.mem_cons_of_mem _ hu))

/-- The tree of a text that a builder was given. -/
def leafT (t : T) : T := if t.kind = 1 then tText t.text else if t.kind = 2 then tNum t.num else tYes t.yes
theorem tells_plain (t : T) (F : Nat → Prop) (w : World) : TellsF F w (plainV t) (leafT t) := by
  unfold plainV leafT
  split
  · exact tells_text F w _
  · split
    · exact tells_num F w _
    · exact tells_yes F w _
theorem plain_iface (t : T) : ∃ k x, plainV t = .iface k x := by
  unfold plainV
  split
  · exact ⟨_, _, rfl⟩
  · split <;> exact ⟨_, _, rfl⟩
theorem scalar_kind {t : T} (h : scalarT t = true) : (t.kind = 1 ∨ t.kind = 2 ∨ t.kind = 3) ∧ (t.kind = 2 → isNum t.num = true) := by
  unfold scalarT at h
  split at h
  · cases h
  · split at h
    · rename_i h1; exact ⟨Or.inl h1, fun e => by rw [h1] at e; cases e⟩
    · split at h
      · rename_i h2; exact ⟨Or.inr (Or.inl h2), fun _ => by rw [← fin_num]; exact h⟩
      · rename_i h2; exact ⟨Or.inr (Or.inr (by simpa using h)), fun e => absurd e h2⟩
theorem leaf_same {t : T} (h : scalarT t = true) : sameB (leafT t) (leafT t) = true ∧ wT (leafT t) = 1 := by
  unfold leafT
  split
  · exact ⟨same_text _, wT_text _⟩
  · split
    · rename_i h2; exact ⟨same_num (feq_num ((scalar_kind h).2 h2)), wT_num _⟩
    · exact ⟨same_yes _, wT_yes _⟩
theorem ent_ok {key : List UInt8} {fv : FV} (h : FVok fv) : ∀ p ∈ ent key (fvT fv), sameB p.2 p.2 = true ∧ wT p.2 = 1 := by
  intro p hp
  unfold ent at hp
  split at hp
  · rename_i t ht
    obtain rfl : p = (bs key, t) := by simpa using hp
    exact h t ht
  · cases hp
end Go.Proofs.YtbcnhcpgloncdaaGreatDoor
