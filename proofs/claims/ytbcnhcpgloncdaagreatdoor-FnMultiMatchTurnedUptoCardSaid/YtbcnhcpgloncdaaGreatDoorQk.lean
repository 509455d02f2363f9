/-
  A MAP's ENTRIES AND WHAT treeOf MAKES OF THEM.
-/
import Derived.Test.YtbcnhcpgloncdaaGreatDoorQj
import Derived.Sort.KeysCollected
import Derived.Sort.OwnSorted
namespace Go.Proofs.YtbcnhcpgloncdaaGreatDoor
open Go.RowKit Go.Sort Go.ChangeMaps Go.MapKept Go.Lib
open Go.Maps (Keyed has IsMap)

/-- The last entry of a key. -/
def lookL {α : Type} (L : List (ByteArray × α)) (k : ByteArray) : Option α := (L.reverse.find? (fun p => eqB p.1 k)).map (·.2)
theorem lookL_snoc {α : Type} (L : List (ByteArray × α)) (k : ByteArray) (v : α) (k' : ByteArray) : lookL (L ++ [(k, v)]) k' = if eqB k k' = true then some v else lookL L k' := by
  unfold lookL
  rw [List.reverse_append]
  simp only [List.reverse_cons, List.reverse_nil, List.nil_append, List.singleton_append, List.find?_cons]
  cases h : eqB k k' <;> simp
theorem lookL_nil {α : Type} (k : ByteArray) : lookL ([] : List (ByteArray × α)) k = none := rfl

theorem KL_inj {a b : ByteArray} (h : KL a = KL b) : a = b := by
  have : a.data.toList = b.data.toList := by simpa [KL] using h
  cases a; cases b; simp_all
theorem KL_ne {a b : ByteArray} (h : eqB a b = false) : KL b ≠ KL a := fun e => by
  rw [KL_inj e, (eqB_iff a a).2 rfl] at h; cases h

theorem putAll_isMap (L : List (ByteArray × Value)) : IsMap (putAll L) := by
  have : ∀ (L : List (ByteArray × Value)) (D : DataW Value), IsMap D → IsMap (L.foldl (fun D p => D.put (KL p.1) (.held p.2)) D) := by
    intro L
    induction L with
    | nil => intro D h; exact h
    | cons p L ih => intro D h; exact ih _ (h.put _ _)
  exact this L _ ⟨[], rfl⟩

/-- Entries, one for one. -/
inductive Ents {α β : Type} (R : α → β → Prop) : List (ByteArray × α) → List (ByteArray × β) → Prop where
  | nil : Ents R [] []
  | snoc {L : List (ByteArray × α)} {E : List (ByteArray × β)} {k : ByteArray} {u : α} {t : β} (h : Ents R L E) (r : R u t) : Ents R (L ++ [(k, u)]) (E ++ [(k, t)])

theorem Ents.mono {α β : Type} {R R' : α → β → Prop} (hr : ∀ u t, R u t → R' u t) {L : List (ByteArray × α)} {E : List (ByteArray × β)} (h : Ents R L E) : Ents R' L E := by
  induction h with
  | nil => exact .nil
  | snoc _ r ih => exact .snoc ih (hr _ _ r)
theorem Ents.length {α β : Type} {R : α → β → Prop} {L : List (ByteArray × α)} {E : List (ByteArray × β)} (h : Ents R L E) : L.length = E.length := by
  induction h with
  | nil => rfl
  | snoc _ _ ih => simp [ih]
theorem Ents.look {α β : Type} {R : α → β → Prop} {L : List (ByteArray × α)} {E : List (ByteArray × β)} (h : Ents R L E) (k : ByteArray) :
    (lookL L k = none ∧ lookL E k = none) ∨ ∃ u t, lookL L k = some u ∧ lookL E k = some t ∧ R u t := by
  induction h with
  | nil => exact Or.inl ⟨rfl, rfl⟩
  | @snoc L E k0 u t h r ih =>
    rw [lookL_snoc, lookL_snoc]
    cases e : eqB k0 k
    · simpa using ih
    · exact Or.inr ⟨u, t, by simp, by simp, r⟩

theorem snoc_cases {α : Type} (L : List α) : L = [] ∨ ∃ M x, L = M ++ [x] := by
  cases h : L.reverse with
  | nil => exact Or.inl (by simpa using h)
  | cons x M => exact Or.inr ⟨M.reverse, x, by rw [← List.reverse_reverse L, h, List.reverse_cons]⟩

theorem putAll_look : ∀ (n : Nat) (L : List (ByteArray × Value)) (_ : L.length = n) (k : ByteArray),
    has (putAll L) (KL k) = (lookL L k).isSome ∧ ∀ z, (putAll L).atKey (KL k) z = match lookL L k with | some u => .held u | none => z
  | 0, L, hn, k => by
    obtain rfl : L = [] := List.eq_nil_of_length_eq_zero hn
    exact ⟨rfl, fun z => rfl⟩
  | n + 1, L, hn, k => by
    rcases snoc_cases L with rfl | ⟨M, ⟨k0, u⟩, rfl⟩
    · cases hn
    · have ih := putAll_look n M (by simpa using hn) k
      rw [putAll_snoc, lookL_snoc]
      cases e : eqB k0 k
      · have hne := KL_ne e
        refine ⟨by rw [Maps.has_put_other hne]; simpa using ih.1, fun z => by rw [Maps.atKey_put_other hne]; simpa using ih.2 z⟩
      · obtain rfl := (eqB_iff _ _).1 e
        exact ⟨by rw [Maps.has_put_same (k := KL k0) (putAll_isMap M) (show WideAt.IsKeyLit (KL k0) from trivial)]; rfl, fun z => by rw [Maps.atKey_put_same (k := KL k0) (putAll_isMap M) (show WideAt.IsKeyLit (KL k0) from trivial)]; rfl⟩

/-- 'm[k]' and 'v, ok := m[k]'. -/
theorem MapIs.look {w : World} {b : Nat} {L : List (ByteArray × Value)} (h : MapIs w b L) {t e : TypeId} (ht : Tryz.prog.underlying t = some (.map 9 e)) {z : Value} (hz : (zeroValue e).run Tryz.prog w = .ok z w) {k : ByteArray} (hk : k.size ≤ maxLen) :
    (Instr.lookup t (.map (some b)) (.string k) false).run Tryz.prog w = .ok ((lookL L k).getD z) w ∧ (Instr.lookup t (.map (some b)) (.string k) true).run Tryz.prog w = .ok (.tuple #[(lookL L k).getD z, .bool (lookL L k).isSome]) w := by
  obtain ⟨h1, h2⟩ := putAll_look _ L rfl k
  obtain ⟨v, ps, r1, r2⟩ := World.ownsMap.lookup h key9 ht hz (zd := .held z) (zp := []) rfl (key_ok hk)
  obtain ⟨v', ps', r3, r4⟩ := World.ownsMap.look_ok h key9 ht hz (zd := .held z) (zp := []) rfl (key_ok hk)
  rw [h2] at r2 r4
  rw [h1] at r3
  have e1 : v = (lookL L k).getD z := by
    cases hl : lookL L k <;> rw [hl] at r2 <;> simp [RV] at r2 <;> exact r2.1
  have e2 : v' = (lookL L k).getD z := by
    cases hl : lookL L k <;> rw [hl] at r4 <;> simp [RV] at r4 <;> exact r4.1
  rw [e1] at r1
  rw [e2] at r3
  exact ⟨r1, r3⟩

/-- What treeOf makes of a value, while the blocks of F stand. -/
def TellsF (F : Nat → Prop) (w : World) (u : Value) (t : T) : Prop := ∀ w', Same F w w' → w.heap.size ≤ w'.heap.size → Calls Tryz.prog 127 #[u] w' (RetLeaf w' t)
theorem TellsF.mono {F : Nat → Prop} {w w1 : World} {u : Value} {t : T} (h : TellsF F w u t) (hs : Same F w w1) (hl : w.heap.size ≤ w1.heap.size) : TellsF F w1 u t :=
  fun w' h1 h2 => h w' (fun k hk hlt => (h1 k hk (Nat.lt_of_lt_of_le hlt hl)).trans (hs k hk hlt)) (Nat.le_trans hl h2)

/-- A map whose entries' values stand for trees. -/
def MapE (F : Nat → Prop) (w : World) (b : Nat) (E : List (ByteArray × T)) : Prop := ∃ L, MapIs w b L ∧ Ents (TellsF F w) L E

theorem MapE.lt {F : Nat → Prop} {w : World} {b : Nat} {E : List (ByteArray × T)} (h : MapE F w b E) : b < w.heap.size := by
  obtain ⟨L, h1, -⟩ := h; exact h1.lt
theorem MapE.mono {F : Nat → Prop} {w w1 : World} {b : Nat} {E : List (ByteArray × T)} (h : MapE F w b E) (hs : Same F w w1) (hl : w.heap.size ≤ w1.heap.size) (hb : w1.heap[b]? = w.heap[b]?) : MapE F w1 b E := by
  obtain ⟨L, h1, h2⟩ := h
  exact ⟨L, h1.same hb, h2.mono fun u t r => r.mono hs hl⟩

/-- A map's tree: the keys rise; each has its kid. -/
def IsMapT (t : T) (E : List (ByteArray × T)) : Prop :=
  ∃ Ls : List (List UInt8), Ls.Pairwise (· < ·) ∧ (∀ l, l ∈ Ls ↔ (lookL E (bs l)).isSome = true) ∧ t = .mk 5 ⟨#[]⟩ 0 false (Ls.map bs) (Ls.map fun l => (lookL E (bs l)).getD default)
end Go.Proofs.YtbcnhcpgloncdaaGreatDoor
