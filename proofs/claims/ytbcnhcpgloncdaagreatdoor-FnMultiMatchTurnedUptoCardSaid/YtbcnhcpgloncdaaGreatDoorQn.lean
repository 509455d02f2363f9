/-
  WHAT Source READS OFF A QUERY.
-/
import Derived.Test.YtbcnhcpgloncdaaGreatDoorQm
namespace Go.Proofs.YtbcnhcpgloncdaaGreatDoor
open Go.RowKit Go.Sort Go.ChangeMaps Go.MapKept Go.Lib
open Go.Maps (Keyed has IsMap)

theorem ents_of_index {α β : Type} {R : α → β → Prop} : ∀ (n : Nat) (L : List (ByteArray × α)) (E : List (ByteArray × β)), E.length = n → L.length = E.length → (∀ (i : Nat) (k : ByteArray) (x : β), E[i]? = some (k, x) → ∃ u, L[i]? = some (k, u) ∧ R u x) → Ents R L E
  | 0, L, E, hn, hl, _ => by
    obtain rfl : E = [] := List.eq_nil_of_length_eq_zero hn
    obtain rfl : L = [] := List.eq_nil_of_length_eq_zero hl
    exact .nil
  | n + 1, L, E, hn, hl, h => by
    rcases snoc_cases E with rfl | ⟨E', ⟨k, x⟩, rfl⟩
    · cases hn
    rcases snoc_cases L with rfl | ⟨L', ⟨k', u'⟩, rfl⟩
    · simp at hl
    have hl' : L'.length = E'.length := by simpa using hl
    obtain ⟨u, h1, h2⟩ := h E'.length k x (by simp)
    rw [← hl'] at h1
    simp at h1
    obtain ⟨rfl, rfl⟩ := h1
    refine .snoc (ents_of_index n L' E' (by simpa using hn) hl' fun i k x hi => ?_) h2
    have hlt : i < E'.length := (List.getElem?_eq_some_iff.1 hi).1
    obtain ⟨u, h3, h4⟩ := h i k x (by rw [List.getElem?_append_left hlt]; exact hi)
    rw [List.getElem?_append_left (by omega)] at h3
    exact ⟨u, h3, h4⟩

/-- 'boost, found := q.fieldBoosts[field]'. -/
theorem BoostAt.look {w : World} {lo bm : Nat} {B : List (ByteArray × Nat)} (h : BoostAt w lo B bm) {k : ByteArray} (hk : k.size ≤ maxLen) :
    (lookL B k = none ∧ (Instr.lookup 104 (.map (some bm)) (.string k) true).run Tryz.prog w = .ok (.tuple #[.pointer none, .bool false]) w) ∨
    ∃ x p, lookL B k = some x ∧ w.heap[p]? = some (.cells #[.float .f64 x] 22 (0, 0)) ∧ (Instr.lookup 104 (.map (some bm)) (.string k) true).run Tryz.prog w = .ok (.tuple #[.pointer (some ⟨p, 0, none⟩), .bool true]) w := by
  obtain ⟨Lp, h1, h2, h3, h4⟩ := h
  have hE : Ents (fun (u : Value) (x : Nat) => ∃ p : Nat, u = .pointer (some ⟨p, 0, none⟩) ∧ w.heap[p]? = some (.cells #[.float .f64 x] 22 (0, 0))) Lp B :=
    ents_of_index _ Lp B rfl h3 fun i k x hi => by
      obtain ⟨p, -, h6, h7⟩ := h4 i k x hi
      exact ⟨_, h6, p, rfl, h7⟩
  have hz : (zeroValue 105).run Tryz.prog w = .ok (.pointer none) w := by kernel_rfl
  have hl := (h2.look Tryz.underlying104 hz hk).2
  rcases hE.look k with ⟨e1, e2⟩ | ⟨u, x, e1, e2, p, rfl, hp⟩
  · rw [e1] at hl
    exact Or.inl ⟨e2, hl⟩
  · rw [e1] at hl
    exact Or.inr ⟨x, p, e2, hp, hl⟩

/-- What Source tells of a field. -/
def fvT : FV → Option T
  | .val (.string s) => if s.toList.isEmpty then none else some (tText s)
  | .opt _ (.float _ x) => some (tNum x)
  | .opt _ (.int _ n) => some (tNum (floatOfInt .f64 n))
  | .opt _ (.bool y) => some (tYes y)
  | .val (.int _ n) => if n == -1 then none else some (tNum (floatOfInt .f64 n))
  | _ => none
def ent (key : List UInt8) (o : Option T) : List (ByteArray × T) := match o with
  | some t => [(bs key, t)]
  | none => []

/-- The make of a field, by its setter's kind. -/
def shapeOf (k : Nat) (fv : FV) : Prop := match k with
  | 0 => ∃ s, fv = .val (.string s)
  | 1 => fv = .nop ∨ ∃ x, fv = .opt 22 (.float .f64 x)
  | 2 => fv = .nop ∨ ∃ n, fv = .opt 3 (.int .i64 n)
  | 3 => fv = .nop ∨ ∃ y, fv = .opt 4 (.bool y)
  | 4 => ∃ s, fv = .val (.string s)
  | _ => ∃ n, fv = .val (.int .i64 n)
theorem shape_fvK (k : Nat) (t : T) : shapeOf k (fvK k t) := by
  unfold shapeOf fvK
  match k with
  | 0 => exact ⟨_, rfl⟩
  | 1 => exact Or.inr ⟨_, rfl⟩
  | 2 => exact Or.inr ⟨_, rfl⟩
  | 3 => exact Or.inr ⟨_, rfl⟩
  | 4 => exact ⟨_, rfl⟩
  | _ + 5 => exact ⟨_, rfl⟩

/-- Each field that a setting of the table sets has the make that the table says. -/
def Shaped (tab : QTab) (q : Q) : Prop := ∀ r ∈ tab, shapeOf r.2.2 (q.f r.2.1)
theorem shaped_step {tab : QTab} (hd : tab.Pairwise (fun a b => a.2.1 ≠ b.2.1)) {q : Q} (h : Shaped tab q) (s : S) : Shaped tab (stepQ tab q s) := by
  unfold stepQ
  split
  · exact h
  · split
    · exact h
    · split
      · rename_i r hr
        have hm := List.mem_of_find?_eq_some hr
        intro r' hr'
        show shapeOf r'.2.2 (upd q.f r.2.1 _ r'.2.1)
        unfold upd
        split
        · rename_i e
          have : r' = r := by
            rcases List.pairwise_iff_getElem.1 hd with hp
            obtain ⟨i, hi, rfl⟩ := List.getElem_of_mem hr'
            obtain ⟨j, hj, rfl⟩ := List.getElem_of_mem hm
            rcases Nat.lt_trichotomy i j with h1 | h1 | h1
            · exact absurd e (hp i j hi hj h1)
            · subst h1; rfl
            · exact absurd e.symm (hp j i hj hi h1)
          rw [this]
          exact shape_fvK _ _
        · exact h r' hr'
      · exact h
theorem shaped_run {tab : QTab} (hd : tab.Pairwise (fun a b => a.2.1 ≠ b.2.1)) : ∀ (ss : List S) {q : Q}, Shaped tab q → Shaped tab (runQ tab q ss)
  | [], _, h => h
  | s :: ss, _, h => shaped_run hd ss (shaped_step hd h s)
/-- A field that no setting sets. -/
theorem run_other {tab : QTab} {i : Nat} (hi : ∀ r ∈ tab, r.2.1 ≠ i) : ∀ (ss : List S) (q : Q), (runQ tab q ss).f i = q.f i
  | [], _ => rfl
  | s :: ss, q => by
    show (runQ tab (stepQ tab q s) ss).f i = q.f i
    rw [run_other hi ss]
    unfold stepQ
    split
    · rfl
    · split
      · rfl
      · split
        · rename_i r hr
          show upd q.f r.2.1 _ i = q.f i
          unfold upd
          rw [if_neg (fun e => hi r (List.mem_of_find?_eq_some hr) e.symm)]
        · rfl

theorem QAt.boostAt {w : World} {lo bq : Nat} {g : Geo} {q : Q} (h : QAt w lo bq g q) : ∃ bm, w.cell? ⟨bq, g.iB, none⟩ = some (.map (some bm)) ∧ BoostAt w lo q.boosts bm ∧ bm < w.heap.size := by
  obtain ⟨c, bm, vF, hc, -⟩ := h
  obtain ⟨L, -, hm, -⟩ := id hc.2.2.2.2.1
  exact ⟨bm, hc.cellB, hc.2.2.2.2.1, hm.lt⟩
theorem QAt.fieldsAt {w : World} {lo bq : Nat} {g : Geo} {q : Q} (h : QAt w lo bq g q) : ∃ vF, w.cell? ⟨bq, g.iF, none⟩ = some vF ∧ StrsAt w (fun _ => True) vF q.fields := by
  obtain ⟨c, bm, vF, hc, hF, hown⟩ := h
  exact ⟨vF, (hc.cellF hF).1, strs_of_own hown fun _ _ => trivial⟩

/-- A store's world, in this proof's words. -/
theorem mapIs_put {w : World} {b : Nat} {L : List (ByteArray × Value)} {k : ByteArray} {u : Value} (h : w.ownsMap Tryz.prog 9 RV b (L.length + 1) ((putAll L).put (KL k) (.held u))) : MapIs w b (L ++ [(k, u)]) := by
  unfold MapIs
  rw [putAll_snoc, List.length_append]
  exact h
end Go.Proofs.YtbcnhcpgloncdaaGreatDoor
