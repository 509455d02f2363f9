/-
  A MAP THAT A CALL HAS MADE, ITS ENTRIES AS THEY WERE PUT; A QUERY OF A BUILDER: its block, and what its setters do.
-/
import Derived.Test.YtbcnhcpgloncdaaGreatDoorFits
import Derived.Maps.Own
import Derived.Maps.OwnSet
import Derived.Maps.Ext
import Derived.Maps.RangeWalk
namespace Go.Proofs.YtbcnhcpgloncdaaGreatDoor
open Go.RowKit Go.Sort Go.ChangeMaps Go.MapKept
open Go.Maps (Keyed)

theorem key9 : Keyed Tryz.prog 9 := Maps.string_keyed Tryz.underlying9

/-- A map's element, as it is. -/
def RV : Value → Option (DataW Value × List MemPlace) := fun v => some (.held v, [])
abbrev KL (k : ByteArray) : Lit := .string k.data.toList
def putAll (L : List (ByteArray × Value)) : DataW Value := L.foldl (fun D p => D.put (KL p.1) (.held p.2)) (.map [])
theorem putAll_snoc (L : List (ByteArray × Value)) (k : ByteArray) (v : Value) : putAll (L ++ [(k, v)]) = (putAll L).put (KL k) (.held v) := by simp [putAll, List.foldl_append]

/-- Block b is a map; its entries were put as L says. -/
def MapIs (w : World) (b : Nat) (L : List (ByteArray × Value)) : Prop := w.ownsMap Tryz.prog 9 RV b L.length (putAll L)

theorem MapIs.made (w : World) : MapIs (w.alloc (.map #[] 0)) w.heap.size [] := World.ownsMap_made w Tryz.prog 9 RV
theorem MapIs.lt {w : World} {b : Nat} {L : List (ByteArray × Value)} (h : MapIs w b L) : b < w.heap.size := World.ownsMap.lt h
theorem MapIs.block {w : World} {b : Nat} {L : List (ByteArray × Value)} (h : MapIs w b L) : ∃ es cl, w.heap[b]? = some (.map es cl) := by
  obtain ⟨es, cl, hb, -⟩ := h
  exact ⟨es, cl, hb⟩
theorem MapIs.same {w w' : World} {b : Nat} {L : List (ByteArray × Value)} (h : MapIs w b L) (hb : w'.heap[b]? = w.heap[b]?) : MapIs w' b L := by
  obtain ⟨es, cl, h1, h2⟩ := h
  exact ⟨es, cl, hb.trans h1, h2⟩
theorem key_ok {k : ByteArray} (hk : k.size ≤ maxLen) : keyOf Tryz.prog 9 (.string k) = some (KL k) := WideMaps.keyOf_string_mk Tryz.underlying9 hk

/-- 'm[k] = v'. -/
theorem MapIs.put {w : World} {t e : TypeId} {b : Nat} {L : List (ByteArray × Value)} (h : MapIs w b L) (ht : Tryz.prog.underlying t = some (.map 9 e)) (hn : L.length < maxLen) {k : ByteArray} (hk : k.size ≤ maxLen) (v : Value) :
    ∃ w', (Instr.mapUpdate t (.map (some b)) (.string k) v).run Tryz.prog w = .ok () w' ∧ MapIs w' b (L ++ [(k, v)]) ∧ w.grownBy w' (some b) := by
  obtain ⟨w', h1, h2, h3⟩ := World.ownsMap.update h key9 ht hn (key_ok hk) (d := .held v) (ps := []) rfl
  refine ⟨w', h1, ?_, h3⟩
  unfold MapIs
  rw [putAll_snoc, List.length_append]
  exact h2

/-- A field of a query: what it holds; a pointer that leads nowhere; a pointer to a cell of its own. -/
inductive FV where
  | val (v : Value)
  | nop
  | opt (t : Nat) (v : Value)

/-- A query: its fields, their boosts, its other fields. -/
structure Q where
  fields : List ByteArray
  boosts : List (ByteArray × Nat)
  f : Nat → FV

/-- A builder's struct: its type, its size, where fields and boosts lie. -/
structure Geo where
  T : Nat
  N : Nat
  iF : Nat
  iB : Nat
  big : 100 ≤ T
  ne : iF ≠ iB
  ltF : iF < N
  ltB : iB < N

def FAt (w : World) (lo : Nat) : FV → Value → Prop
  | .val v, u => u = v
  | .nop, u => u = (Value.pointer none)
  | .opt t v, u => ∃ p : Nat, lo ≤ p ∧ t ≤ 22 ∧ t ≠ 9 ∧ u = Value.pointer (some ⟨p, 0, none⟩) ∧ w.heap[p]? = some (.cells #[v] t (0, 0))

def BoostAt (w : World) (lo : Nat) (L : List (ByteArray × Nat)) (bm : Nat) : Prop :=
  ∃ Lp : List (ByteArray × Value), lo ≤ bm ∧ MapIs w bm Lp ∧ Lp.length = L.length ∧ ∀ (i : Nat) (k : ByteArray) (x : Nat), L[i]? = some (k, x) → ∃ p : Nat, lo ≤ p ∧ Lp[i]? = some (k, Value.pointer (some ⟨p, 0, none⟩)) ∧ w.heap[p]? = some (.cells #[.float .f64 x] 22 (0, 0))

/-- All of a query but its row of fields. -/
def QCore (w : World) (lo bq : Nat) (g : Geo) (q : Q) (c : Array Value) (bm : Nat) : Prop :=
  lo ≤ bq ∧ w.heap[bq]? = some (.cells c g.T (0, 0)) ∧ c.size = g.N ∧ c[g.iB]? = some (.map (some bm)) ∧ BoostAt w lo q.boosts bm ∧ ∀ i u, i ≠ g.iF → i ≠ g.iB → c[i]? = some u → FAt w lo (q.f i) u

def QAt (w : World) (lo bq : Nat) (g : Geo) (q : Q) : Prop :=
  ∃ c bm vF, QCore w lo bq g q c bm ∧ c[g.iF]? = some vF ∧ w.ownsRow lo 9 1 vF q.fields.length (q.fields.map Value.string)

/-- What a changed block may be, so that the query but for its row stands: texts' rows, or new. -/
def Loose (w : World) (x : Option Nat) : Prop := ∀ b, x = some b → b < w.heap.size → ∃ cur mk, w.heap[b]? = some (.cells cur 9 mk)

theorem loose_ne {w : World} {x : Option Nat} (hx : Loose w x) {b : Nat} {o : Obj} (hb : w.heap[b]? = some o) (ho : ∀ cur mk, o ≠ .cells cur 9 mk) : some b ≠ x := by
  intro e
  obtain ⟨cur, mk, h⟩ := hx b e.symm (lt_of_block hb)
  rw [hb] at h
  exact ho cur mk (Option.some.inj h)

theorem FAt.kept {w w' : World} {x : Option Nat} {lo : Nat} {fv : FV} {u : Value} (h : FAt w lo fv u) (hx : Loose w x) (hg : w.grownBy w' x) : FAt w' lo fv u := by
  cases fv with
  | val v => exact h
  | nop => exact h
  | opt t v =>
    obtain ⟨p, h1, h2, h3, h4, h5⟩ := h
    exact ⟨p, h1, h2, h3, h4, (hg.block p (lt_of_block h5) (loose_ne hx h5 (fun cur mk e => by cases e; exact h3 rfl))).trans h5⟩

theorem BoostAt.kept {w w' : World} {x : Option Nat} {lo : Nat} {L : List (ByteArray × Nat)} {bm : Nat} (h : BoostAt w lo L bm) (hx : Loose w x) (hg : w.grownBy w' x) : BoostAt w' lo L bm := by
  obtain ⟨Lp, h1, h2, h3, h4⟩ := h
  obtain ⟨es, cl, hb⟩ := h2.block
  refine ⟨Lp, h1, h2.same (hg.block bm h2.lt (loose_ne hx hb (fun cur mk e => by cases e))), h3, fun i k y hi => ?_⟩
  obtain ⟨p, h5, h6, h7⟩ := h4 i k y hi
  exact ⟨p, h5, h6, (hg.block p (lt_of_block h7) (loose_ne hx h7 (fun cur mk e => by cases e))).trans h7⟩

theorem QCore.kept {w w' : World} {x : Option Nat} {lo bq : Nat} {g : Geo} {q : Q} {c : Array Value} {bm : Nat} (h : QCore w lo bq g q c bm) (hx : Loose w x) (hg : w.grownBy w' x) : QCore w' lo bq g q c bm := by
  obtain ⟨h1, h2, h3, h4, h5, h6⟩ := h
  refine ⟨h1, (hg.block bq (lt_of_block h2) (loose_ne hx h2 (fun cur mk e => by have := g.big; injection e with e1 e2; have e3 : (_ : Nat) = _ := e2; omega))).trans h2, h3, h4, h5.kept hx hg, fun i u a b c => (h6 i u a b c).kept hx hg⟩

theorem loose_none (w : World) : Loose w none := fun b h => by cases h
theorem below_grown {w w' : World} (h : Below w.heap.size w w') : w.grownBy w' none := ⟨h.os, h.tape, h.output, h.size, fun k hk _ => h.block k hk⟩

theorem ownsRow_kept {w w' : World} {lo : Nat} {v : Value} {n : Nat} {xs : List Value} (h : w.ownsRow lo 9 1 v n xs) (hb : Below w.heap.size w w') : w'.ownsRow lo 9 1 v n xs := by
  refine ⟨h.1, ?_⟩
  rcases h.2 with h0 | ⟨gg, cap, cur, h1, h2, h3, h4⟩
  · exact Or.inl h0
  · exact Or.inr ⟨gg, cap, cur, h1, h2, (hb.block gg (lt_of_block h3)).trans h3, h4⟩

theorem ownsRow_loose {w : World} {lo : Nat} {v : Value} {n : Nat} {xs : List Value} (h : w.ownsRow lo 9 1 v n xs) : Loose w v.ownBlock := by
  intro b hb _
  rcases h.2 with ⟨rfl, -⟩ | ⟨gg, cap, cur, rfl, h2, h3, h4⟩
  · cases hb
  · cases hb
    exact ⟨_, _, h3⟩

theorem QAt.kept {w w' : World} {lo bq : Nat} {g : Geo} {q : Q} (h : QAt w lo bq g q) (hb : Below w.heap.size w w') : QAt w' lo bq g q := by
  obtain ⟨c, bm, vF, h1, h2, h3⟩ := h
  exact ⟨c, bm, vF, h1.kept (loose_none w) (below_grown hb), h2, ownsRow_kept h3 hb⟩

theorem heap_setCell {w : World} {b i : Nat} {c : Array Value} {t : TypeId} {u : Value} (hb : w.heap[b]? = some (.cells c t (0, 0))) :
    (w.setCell ⟨b, i, none⟩ u).heap[b]? = some (.cells (c.setIfInBounds i u) t (0, 0)) := by
  exact heap_setCell_same w b i c t u hb

theorem grownBy_setCell (w : World) (b i : Nat) (u : Value) : w.grownBy (w.setCell ⟨b, i, none⟩ u) (some b) :=
  ⟨rfl, rfl, rfl, by simp, fun k _ hk => heap_setCell_other w _ k u (fun e => hk (by rw [e]))⟩

def upd (f : Nat → FV) (i : Nat) (v : FV) : Nat → FV := fun j => if j = i then v else f j

/-- A store into a field of the query. -/
theorem QAt.set {w : World} {lo bq : Nat} {g : Geo} {q : Q} {i : Nat} (h : QAt w lo bq g q) (hF : i ≠ g.iF) (hB : i ≠ g.iB) {u : Value} {fv : FV} (hu : FAt w lo fv u) :
    QAt (w.setCell ⟨bq, i, none⟩ u) lo bq g { q with f := upd q.f i fv } := by
  obtain ⟨c, bm, vF, ⟨h1, h2, h3, h4, h5, h6⟩, h7, h8⟩ := h
  have hg : w.grownBy (w.setCell ⟨bq, i, none⟩ u) (some bq) := grownBy_setCell w _ _ u
  have other : ∀ k o, w.heap[k]? = some o → o ≠ Obj.cells c g.T (0, 0) → (w.setCell ⟨bq, i, none⟩ u).heap[k]? = some o := fun k o hk hne =>
    (hg.block k (lt_of_block hk) (by rintro ⟨⟩; rw [h2] at hk; exact hne (Option.some.inj hk).symm)).trans hk
  have hbig := g.big
  have fat : ∀ fv u', FAt w lo fv u' → FAt (w.setCell ⟨bq, i, none⟩ u) lo fv u' := fun fv u' hf => by
    cases fv with
    | val v => exact hf
    | nop => exact hf
    | opt t v =>
      obtain ⟨p, p1, p2, p3, p4, p5⟩ := hf
      exact ⟨p, p1, p2, p3, p4, other p _ p5 (by intro e; injection e with e1 e2; have e3 : (_ : Nat) = _ := e2; omega)⟩
  refine ⟨c.setIfInBounds i u, bm, vF, ⟨h1, heap_setCell h2, by simpa using h3, ?_, ?_, fun j u' ha hb hj => ?_⟩, ?_, ?_⟩
  · rw [Array.getElem?_setIfInBounds_ne hB]; exact h4
  · obtain ⟨Lp, b1, b2, b3, b4⟩ := h5
    obtain ⟨es, cl, hb⟩ := b2.block
    refine ⟨Lp, b1, b2.same ((other bm _ hb (by intro e; cases e)).trans hb.symm), b3, fun i k y hi => ?_⟩
    obtain ⟨p, p5, p6, p7⟩ := b4 i k y hi
    exact ⟨p, p5, p6, other p _ p7 (by intro e; injection e with e1 e2; have e3 : (_ : Nat) = _ := e2; omega)⟩
  · unfold upd
    by_cases e : j = i
    · subst e
      rw [Array.getElem?_setIfInBounds] at hj
      simp only [if_true] at hj
      split at hj
      · cases hj; simp only [if_true]; exact fat _ _ hu
      · cases hj
    · rw [Array.getElem?_setIfInBounds_ne (Ne.symm e)] at hj
      simp only [if_neg e]
      exact fat _ _ (h6 j u' ha hb hj)
  · rw [Array.getElem?_setIfInBounds_ne hF]; exact h7
  · refine ⟨h8.1, ?_⟩
    rcases h8.2 with h0 | ⟨gg, cap, cur, r1, r2, r3, r4⟩
    · exact Or.inl h0
    · exact Or.inr ⟨gg, cap, cur, r1, r2, other gg _ r3 (by intro e; injection e with e1 e2; have e3 : (_ : Nat) = _ := e2; omega), r4⟩

theorem QAt.lo_le {w : World} {lo bq : Nat} {g : Geo} {q : Q} (h : QAt w lo bq g q) : lo ≤ bq := by
  obtain ⟨c, bm, vF, ⟨h1, -⟩, -⟩ := h; exact h1
theorem QAt.lt {w : World} {lo bq : Nat} {g : Geo} {q : Q} (h : QAt w lo bq g q) : bq < w.heap.size := by
  obtain ⟨c, bm, vF, ⟨h1, h2, -⟩, -⟩ := h; exact lt_of_block h2
/-- The query's cells, as the walk wants them. -/
theorem QAt.cell {w : World} {lo bq : Nat} {g : Geo} {q : Q} (h : QAt w lo bq g q) (i : Nat) (hi : i < g.N) : (∃ u, w.cell? ⟨bq, i, none⟩ = some u) ∧ w.frozen? ⟨bq, i, none⟩ = false := by
  obtain ⟨c, bm, vF, ⟨h1, h2, h3, -⟩, -⟩ := h
  exact ⟨⟨c[i]'(by omega), by simp [World.cell?, h2, h3, hi]⟩, by simp [World.frozen?, h2]⟩
theorem QAt.field {w : World} {lo bq : Nat} {g : Geo} {q : Q} (h : QAt w lo bq g q) (i : Nat) (hi : i < g.N) (hF : i ≠ g.iF) (hB : i ≠ g.iB) : ∃ u, w.cell? ⟨bq, i, none⟩ = some u ∧ FAt w lo (q.f i) u := by
  obtain ⟨c, bm, vF, ⟨h1, h2, h3, h4, h5, h6⟩, -⟩ := h
  exact ⟨c[i]'(by omega), by simp [World.cell?, h2, h3, hi], h6 i _ hF hB (Array.getElem?_eq_getElem (by omega))⟩

/-- What a setter comes to. -/
def RetQ (w0 : World) (lo bq : Nat) (g : Geo) (q : Q) (e : Ending) (w' : World) : Prop := e = .returned (.pointer (some ⟨bq, 0, none⟩)) ∧ QAt w' lo bq g q ∧ Below lo w0 w'

theorem Below.setCell_lo {w : World} {lo b i : Nat} (u : Value) (h : lo ≤ b) : Below lo w (w.setCell ⟨b, i, none⟩ u) := by
  have hg : w.grownBy (w.setCell ⟨b, i, none⟩ u) (some b) := grownBy_setCell w _ _ u
  refine ⟨hg.os, hg.tape, hg.output, hg.size, fun k hk => ?_⟩
  by_cases h1 : k < w.heap.size
  · exact hg.block k h1 (by rintro ⟨⟩; omega)
  · have e : (w.setCell ⟨b, i, none⟩ u).heap.size = w.heap.size := by simp
    rw [Array.getElem?_eq_none (by omega), Array.getElem?_eq_none (by omega)]
end Go.Proofs.YtbcnhcpgloncdaaGreatDoor
