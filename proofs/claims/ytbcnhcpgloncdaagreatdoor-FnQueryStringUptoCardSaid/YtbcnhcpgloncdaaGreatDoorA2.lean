/-
  A MAP THAT A CALL HAS MADE, ITS ENTRIES AS THEY WERE PUT; A QUERY OF A BUILDER: its block, and what its setters do.
-/
import Derived.Test.YtbcnhcpgloncdaaGreatDoorA1
import Derived.Maps.Own
import Derived.Maps.OwnSet
import Derived.Maps.Ext
import Derived.Maps.RangeWalk
import Derived.Deep.RegionHeld3
import Derived.Deep.OwnRows
namespace Go.Proofs.YtbcnhcpgloncdaaGreatDoor
open Go.RowKit Go.Sort Go.ChangeMaps Go.MapKept
open Go.Maps (Keyed)

theorem key9 : Keyed Tryz.prog 9 := Maps.string_keyed Tryz.underlying9

/-- A map's element, as it is. -/
def RV : Value → Option (DataW Value × List MemPlace) := fun v => some (.held v, [])
abbrev KL (k : ByteArray) : Lit := .string k.data.toList
def putAll (L : List (ByteArray × Value)) : DataW Value := L.foldl (fun D p => D.put (KL p.1) (.held p.2)) (.map [])
theorem putAll_snoc (L : List (ByteArray × Value)) (k : ByteArray) (v : Value) : putAll (L ++ [(k, v)]) = (putAll L).put (KL k) (.held v) := by simp [putAll, List.foldl_append]

/-- Block b is a map; its entries were put as L says. -/
def MapIs (w : World) (b : Nat) (L : List (ByteArray × Value)) : Prop := w.ownsMap Tryz.prog 9 RV b L.length (putAll L)

theorem MapIs.made (w : World) : MapIs (w.alloc (.map #[] 0)) w.heap.size [] := World.ownsMap_made w Tryz.prog 9 RV
theorem MapIs.lt {w : World} {b : Nat} {L : List (ByteArray × Value)} (h : MapIs w b L) : b < w.heap.size := World.ownsMap.lt h
theorem MapIs.block {w : World} {b : Nat} {L : List (ByteArray × Value)} (h : MapIs w b L) : ∃ es cl, w.heap[b]? = some (.map es cl) := by
  obtain ⟨es, cl, hb, -⟩ := h
  exact ⟨es, cl, hb⟩
theorem MapIs.same {w w' : World} {b : Nat} {L : List (ByteArray × Value)} (h : MapIs w b L) (hb : w'.heap[b]? = w.heap[b]?) : MapIs w' b L := by
  obtain ⟨es, cl, h1, h2⟩ := h
  exact ⟨es, cl, hb.trans h1, h2⟩
theorem key_ok {k : ByteArray} (hk : k.size ≤ maxLen) : keyOf Tryz.prog 9 (.string k) = some (KL k) := WideMaps.keyOf_string_mk Tryz.underlying9 hk

/-- 'm[k] = v'. -/
theorem MapIs.put {w : World} {t e : TypeId} {b : Nat} {L : List (ByteArray × Value)} (h : MapIs w b L) (ht : Tryz.prog.underlying t = some (.map 9 e)) (hn : L.length < maxLen) {k : ByteArray} (hk : k.size ≤ maxLen) (v : Value) :
    ∃ w', (Instr.mapUpdate t (.map (some b)) (.string k) v).run Tryz.prog w = .ok () w' ∧ MapIs w' b (L ++ [(k, v)]) ∧ w.grownBy w' (some b) := by
  obtain ⟨w', h1, h2, h3⟩ := World.ownsMap.update h key9 ht hn (key_ok hk) (d := .held v) (ps := []) rfl
  refine ⟨w', h1, ?_, h3⟩
  unfold MapIs
  rw [putAll_snoc, List.length_append]
  exact h2

/-- A field of a query: what it holds; a pointer that leads nowhere; a pointer to a cell of its own. -/
inductive FV where
  | val (v : Value)
  | nop
  | opt (t : Nat) (v : Value)

/-- A query: its fields, their boosts, its other fields. -/
structure Q where
  fields : List ByteArray
  boosts : List (ByteArray × Nat)
  f : Nat → FV

/-- A builder's struct: its type, its size, where fields and boosts lie. -/
structure Geo where
  T : Nat
  N : Nat
  iF : Nat
  iB : Nat
  big : 100 ≤ T
  ne : iF ≠ iB
  ltF : iF < N
  ltB : iB < N

def FAt (w : World) (lo : Nat) : FV → Value → Prop
  | .val v, u => u = v
  | .nop, u => u = (Value.pointer none)
  | .opt t v, u => ∃ p : Nat, lo ≤ p ∧ t ≤ 22 ∧ t ≠ 9 ∧ u = Value.pointer (some ⟨p, 0, none⟩) ∧ w.heap[p]? = some (.cells #[v] t (0, 0))

def BoostAt (w : World) (lo : Nat) (L : List (ByteArray × Nat)) (bm : Nat) : Prop :=
  ∃ Lp : List (ByteArray × Value), lo ≤ bm ∧ MapIs w bm Lp ∧ Lp.length = L.length ∧ ∀ (i : Nat) (k : ByteArray) (x : Nat), L[i]? = some (k, x) → ∃ p : Nat, lo ≤ p ∧ Lp[i]? = some (k, Value.pointer (some ⟨p, 0, none⟩)) ∧ w.heap[p]? = some (.cells #[.float .f64 x] 22 (0, 0))

/-- All of a query but its row of fields. -/
def QCore (w : World) (lo bq : Nat) (g : Geo) (q : Q) (c : Array Value) (bm : Nat) : Prop :=
  lo ≤ bq ∧ w.heap[bq]? = some (.cells c g.T (0, 0)) ∧ c.size = g.N ∧ c[g.iB]? = some (.map (some bm)) ∧ BoostAt w lo q.boosts bm ∧ ∀ i u, i ≠ g.iF → i ≠ g.iB → c[i]? = some u → FAt w lo (q.f i) u

def QAt (w : World) (lo bq : Nat) (g : Geo) (q : Q) : Prop :=
  ∃ c bm vF, QCore w lo bq g q c bm ∧ c[g.iF]? = some vF ∧ w.ownsRow lo 9 1 vF q.fields.length (q.fields.map Value.string)

/-- What a changed block may be, so that the query but for its row stands: texts' rows, or new. -/
def Loose (w : World) (x : Option Nat) : Prop := ∀ b, x = some b → b < w.heap.size → ∃ cur mk, w.heap[b]? = some (.cells cur 9 mk)

theorem loose_ne {w : World} {x : Option Nat} (hx : Loose w x) {b : Nat} {o : Obj} (hb : w.heap[b]? = some o) (ho : ∀ cur mk, o ≠ .cells cur 9 mk) : some b ≠ x := by
  intro e
  obtain ⟨cur, mk, h⟩ := hx b e.symm (lt_of_block hb)
  rw [hb] at h
  exact ho cur mk (Option.some.inj h)

theorem FAt.kept {w w' : World} {x : Option Nat} {lo : Nat} {fv : FV} {u : Value} (h : FAt w lo fv u) (hx : Loose w x) (hg : w.grownBy w' x) : FAt w' lo fv u := by
  cases fv with
  | val v => exact h
  | nop => exact h
  | opt t v =>
    obtain ⟨p, h1, h2, h3, h4, h5⟩ := h
    exact ⟨p, h1, h2, h3, h4, (hg.block p (lt_of_block h5) (loose_ne hx h5 (fun cur mk e => by cases e; exact h3 rfl))).trans h5⟩

theorem BoostAt.kept {w w' : World} {x : Option Nat} {lo : Nat} {L : List (ByteArray × Nat)} {bm : Nat} (h : BoostAt w lo L bm) (hx : Loose w x) (hg : w.grownBy w' x) : BoostAt w' lo L bm := by
  obtain ⟨Lp, h1, h2, h3, h4⟩ := h
  obtain ⟨es, cl, hb⟩ := h2.block
  refine ⟨Lp, h1, h2.same (hg.block bm h2.lt (loose_ne hx hb (fun cur mk e => by cases e))), h3, fun i k y hi => ?_⟩
  obtain ⟨p, h5, h6, h7⟩ := h4 i k y hi
  exact ⟨p, h5, h6, (hg.block p (lt_of_block h7) (loose_ne hx h7 (fun cur mk e => by cases e))).trans h7⟩

theorem QCore.kept {w w' : World} {x : Option Nat} {lo bq : Nat} {g : Geo} {q : Q} {c : Array Value} {bm : Nat} (h : QCore w lo bq g q c bm) (hx : Loose w x) (hg : w.grownBy w' x) : QCore w' lo bq g q c bm := by
  obtain ⟨h1, h2, h3, h4, h5, h6⟩ := h
  refine ⟨h1, (hg.block bq (lt_of_block h2) (loose_ne hx h2 (fun cur mk e => by have := g.big; injection e with e1 e2; have e3 : (_ : Nat) = _ := e2; omega))).trans h2, h3, h4, h5.kept hx hg, fun i u a b c => (h6 i u a b c).kept hx hg⟩

theorem loose_none (w : World) : Loose w none := fun b h => by cases h
theorem below_grown {w w' : World} (h : Below w.heap.size w w') : w.grownBy w' none := ⟨h.os, h.tape, h.output, h.size, fun k hk _ => h.block k hk⟩

theorem ownsRow_kept {w w' : World} {lo : Nat} {v : Value} {n : Nat} {xs : List Value} (h : w.ownsRow lo 9 1 v n xs) (hb : Below w.heap.size w w') : w'.ownsRow lo 9 1 v n xs := by
  refine ⟨h.1, ?_⟩
  rcases h.2 with h0 | ⟨gg, cap, cur, h1, h2, h3, h4⟩
  · exact Or.inl h0
  · exact Or.inr ⟨gg, cap, cur, h1, h2, (hb.block gg (lt_of_block h3)).trans h3, h4⟩

theorem ownsRow_loose {w : World} {lo : Nat} {v : Value} {n : Nat} {xs : List Value} (h : w.ownsRow lo 9 1 v n xs) : Loose w v.ownBlock := by
  intro b hb _
  rcases h.2 with ⟨rfl, -⟩ | ⟨gg, cap, cur, rfl, h2, h3, h4⟩
  · cases hb
  · cases hb
    exact ⟨_, _, h3⟩

theorem QAt.kept {w w' : World} {lo bq : Nat} {g : Geo} {q : Q} (h : QAt w lo bq g q) (hb : Below w.heap.size w w') : QAt w' lo bq g q := by
  obtain ⟨c, bm, vF, h1, h2, h3⟩ := h
  exact ⟨c, bm, vF, h1.kept (loose_none w) (below_grown hb), h2, ownsRow_kept h3 hb⟩

theorem heap_setCell {w : World} {b i : Nat} {c : Array Value} {t : TypeId} {u : Value} (hb : w.heap[b]? = some (.cells c t (0, 0))) :
    (w.setCell ⟨b, i, none⟩ u).heap[b]? = some (.cells (c.setIfInBounds i u) t (0, 0)) := by
  exact heap_setCell_same w b i c t u hb

theorem grownBy_setCell (w : World) (b i : Nat) (u : Value) : w.grownBy (w.setCell ⟨b, i, none⟩ u) (some b) :=
  ⟨rfl, rfl, rfl, by simp, fun k _ hk => heap_setCell_other w _ k u (fun e => hk (by rw [e]))⟩

def upd (f : Nat → FV) (i : Nat) (v : FV) : Nat → FV := fun j => if j = i then v else f j

/-- A store into a field of the query. -/
theorem QAt.set {w : World} {lo bq : Nat} {g : Geo} {q : Q} {i : Nat} (h : QAt w lo bq g q) (hF : i ≠ g.iF) (hB : i ≠ g.iB) {u : Value} {fv : FV} (hu : FAt w lo fv u) :
    QAt (w.setCell ⟨bq, i, none⟩ u) lo bq g { q with f := upd q.f i fv } := by
  obtain ⟨c, bm, vF, ⟨h1, h2, h3, h4, h5, h6⟩, h7, h8⟩ := h
  have hg : w.grownBy (w.setCell ⟨bq, i, none⟩ u) (some bq) := grownBy_setCell w _ _ u
  have other : ∀ k o, w.heap[k]? = some o → o ≠ Obj.cells c g.T (0, 0) → (w.setCell ⟨bq, i, none⟩ u).heap[k]? = some o := fun k o hk hne =>
    (hg.block k (lt_of_block hk) (by rintro ⟨⟩; rw [h2] at hk; exact hne (Option.some.inj hk).symm)).trans hk
  have hbig := g.big
  have fat : ∀ fv u', FAt w lo fv u' → FAt (w.setCell ⟨bq, i, none⟩ u) lo fv u' := fun fv u' hf => by
    cases fv with
    | val v => exact hf
    | nop => exact hf
    | opt t v =>
      obtain ⟨p, p1, p2, p3, p4, p5⟩ := hf
      exact ⟨p, p1, p2, p3, p4, other p _ p5 (by intro e; injection e with e1 e2; have e3 : (_ : Nat) = _ := e2; omega)⟩
  refine ⟨c.setIfInBounds i u, bm, vF, ⟨h1, heap_setCell h2, by simpa using h3, ?_, ?_, fun j u' ha hb hj => ?_⟩, ?_, ?_⟩
  · rw [Array.getElem?_setIfInBounds_ne hB]; exact h4
  · obtain ⟨Lp, b1, b2, b3, b4⟩ := h5
    obtain ⟨es, cl, hb⟩ := b2.block
    refine ⟨Lp, b1, b2.same ((other bm _ hb (by intro e; cases e)).trans hb.symm), b3, fun i k y hi => ?_⟩
    obtain ⟨p, p5, p6, p7⟩ := b4 i k y hi
    exact ⟨p, p5, p6, other p _ p7 (by intro e; injection e with e1 e2; have e3 : (_ : Nat) = _ := e2; omega)⟩
  · unfold upd
    by_cases e : j = i
    · subst e
      rw [Array.getElem?_setIfInBounds] at hj
      simp only [if_true] at hj
      split at hj
      · cases hj; simp only [if_true]; exact fat _ _ hu
      · cases hj
    · rw [Array.getElem?_setIfInBounds_ne (Ne.symm e)] at hj
      simp only [if_neg e]
      exact fat _ _ (h6 j u' ha hb hj)
  · rw [Array.getElem?_setIfInBounds_ne hF]; exact h7
  · refine ⟨h8.1, ?_⟩
    rcases h8.2 with h0 | ⟨gg, cap, cur, r1, r2, r3, r4⟩
    · exact Or.inl h0
    · exact Or.inr ⟨gg, cap, cur, r1, r2, other gg _ r3 (by intro e; injection e with e1 e2; have e3 : (_ : Nat) = _ := e2; omega), r4⟩

theorem QAt.lo_le {w : World} {lo bq : Nat} {g : Geo} {q : Q} (h : QAt w lo bq g q) : lo ≤ bq := by
  obtain ⟨c, bm, vF, ⟨h1, -⟩, -⟩ := h; exact h1
theorem QAt.lt {w : World} {lo bq : Nat} {g : Geo} {q : Q} (h : QAt w lo bq g q) : bq < w.heap.size := by
  obtain ⟨c, bm, vF, ⟨h1, h2, -⟩, -⟩ := h; exact lt_of_block h2
/-- The query's cells, as the walk wants them. -/
theorem QAt.cell {w : World} {lo bq : Nat} {g : Geo} {q : Q} (h : QAt w lo bq g q) (i : Nat) (hi : i < g.N) : (∃ u, w.cell? ⟨bq, i, none⟩ = some u) ∧ w.frozen? ⟨bq, i, none⟩ = false := by
  obtain ⟨c, bm, vF, ⟨h1, h2, h3, -⟩, -⟩ := h
  exact ⟨⟨c[i]'(by omega), by simp [World.cell?, h2, h3, hi]⟩, by simp [World.frozen?, h2]⟩
theorem QAt.field {w : World} {lo bq : Nat} {g : Geo} {q : Q} (h : QAt w lo bq g q) (i : Nat) (hi : i < g.N) (hF : i ≠ g.iF) (hB : i ≠ g.iB) : ∃ u, w.cell? ⟨bq, i, none⟩ = some u ∧ FAt w lo (q.f i) u := by
  obtain ⟨c, bm, vF, ⟨h1, h2, h3, h4, h5, h6⟩, -⟩ := h
  exact ⟨c[i]'(by omega), by simp [World.cell?, h2, h3, hi], h6 i _ hF hB (Array.getElem?_eq_getElem (by omega))⟩

/-- What a setter comes to. -/
def RetQ (w0 : World) (lo bq : Nat) (g : Geo) (q : Q) (e : Ending) (w' : World) : Prop := e = .returned (.pointer (some ⟨bq, 0, none⟩)) ∧ QAt w' lo bq g q ∧ Below lo w0 w'

theorem Below.setCell_lo {w : World} {lo b i : Nat} (u : Value) (h : lo ≤ b) : Below lo w (w.setCell ⟨b, i, none⟩ u) := by
  have hg : w.grownBy (w.setCell ⟨b, i, none⟩ u) (some b) := grownBy_setCell w _ _ u
  refine ⟨hg.os, hg.tape, hg.output, hg.size, fun k hk => ?_⟩
  by_cases h1 : k < w.heap.size
  · exact hg.block k h1 (by rintro ⟨⟩; omega)
  · have e : (w.setCell ⟨b, i, none⟩ u).heap.size = w.heap.size := by simp
    rw [Array.getElem?_eq_none (by omega), Array.getElem?_eq_none (by omega)]
end Go.Proofs.YtbcnhcpgloncdaaGreatDoor

/-
  THE SETTERS OF THE FOUR BUILDERS. (Printed by gen/setters.py.)
-/
namespace Go.Proofs.YtbcnhcpgloncdaaGreatDoor
open Go.RowKit Go.Sort Go.ChangeMaps Go.MapKept

def gMM : Geo := { T := 109, N := 19, iF := 1, iB := 2, big := by decide, ne := by decide, ltF := by decide, ltB := by decide }
def gCF : Geo := { T := 118, N := 7, iF := 1, iB := 2, big := by decide, ne := by decide, ltF := by decide, ltB := by decide }
def gSQ : Geo := { T := 123, N := 18, iF := 4, iB := 5, big := by decide, ne := by decide, ltF := by decide, ltB := by decide }
def gQS : Geo := { T := 125, N := 28, iF := 17, iB := 18, big := by decide, ne := by decide, ltF := by decide, ltB := by decide }

theorem ptr_ok {w : World} {lo bq : Nat} {g : Geo} {q : Q} (h : QAt w lo bq g q) (hlo : lo ≤ w.heap.size) (i : Nat) (t : Nat) (ht : t ≤ 22) (h9 : t ≠ 9) (v : Value) (hF : i ≠ g.iF) (hB : i ≠ g.iB) :
    QAt ((w.setCell ⟨bq, i, none⟩ (.pointer (some ⟨w.heap.size, 0, none⟩))).alloc (.cells #[v] t (0, 0))) lo bq g { q with f := upd q.f i (.opt t v) } ∧
    Below lo w ((w.setCell ⟨bq, i, none⟩ (.pointer (some ⟨w.heap.size, 0, none⟩))).alloc (.cells #[v] t (0, 0))) := by
  rw [← World.setCell_alloc_past _ _ _ _ h.lt]
  have hb : Below w.heap.size w (w.alloc (.cells #[v] t (0, 0))) := by go_grown
  have hq := (h.kept hb).set hF hB (u := .pointer (some ⟨w.heap.size, 0, none⟩)) (fv := .opt t v) ⟨_, hlo, ht, h9, rfl, heap_alloc_new _ _⟩
  exact ⟨hq, (hb.mono hlo).trans (Below.setCell_lo _ h.lo_le)⟩

set_option maxHeartbeats 400000 in
theorem set_36 {w : World} {lo bq : Nat} {q : Q} (h : QAt w lo bq gMM q) (_hlo : lo ≤ w.heap.size) (s : ByteArray) :
    Calls Tryz.prog 36 #[.pointer (some ⟨bq, 0, none⟩), .string s] w (RetQ w lo bq gMM { q with f := upd q.f 5 (.val (.string s)) }) := by
  have H := hide h
  obtain ⟨⟨u, h1⟩, h2⟩ := h.cell 5 (by decide)
  clear h
  go_enter Tryz.func36, Tryz.ntmps36
  go_wp2
  go_returns
  exact ⟨rfl, H.out.set (by decide) (by decide) rfl, Below.setCell_lo _ H.out.lo_le⟩

set_option maxHeartbeats 400000 in
theorem set_37 {w : World} {lo bq : Nat} {q : Q} (h : QAt w lo bq gMM q) (hlo : lo ≤ w.heap.size) (x : Nat) :
    Calls Tryz.prog 37 #[.pointer (some ⟨bq, 0, none⟩), .float .f64 x] w (RetQ w lo bq gMM { q with f := upd q.f 6 (.opt 22 (.float .f64 x)) }) := by
  have H := hide h
  obtain ⟨⟨u, h1⟩, h2⟩ := h.cell 6 (by decide)
  have h3 := h.lt
  clear h
  go_enter Tryz.func37, Tryz.ntmps37
  go_wp2
  go_returns
  exact ⟨rfl, ptr_ok H.out hlo 6 22 (by decide) (by decide) _ (by decide) (by decide)⟩

set_option maxHeartbeats 400000 in
theorem set_38 {w : World} {lo bq : Nat} {q : Q} (h : QAt w lo bq gMM q) (hlo : lo ≤ w.heap.size) (x : Nat) :
    Calls Tryz.prog 38 #[.pointer (some ⟨bq, 0, none⟩), .float .f64 x] w (RetQ w lo bq gMM { q with f := upd q.f 16 (.opt 22 (.float .f64 x)) }) := by
  have H := hide h
  obtain ⟨⟨u, h1⟩, h2⟩ := h.cell 16 (by decide)
  have h3 := h.lt
  clear h
  go_enter Tryz.func38, Tryz.ntmps38
  go_wp2
  go_returns
  exact ⟨rfl, ptr_ok H.out hlo 16 22 (by decide) (by decide) _ (by decide) (by decide)⟩

set_option maxHeartbeats 400000 in
theorem set_39 {w : World} {lo bq : Nat} {q : Q} (h : QAt w lo bq gMM q) (_hlo : lo ≤ w.heap.size) (s : ByteArray) :
    Calls Tryz.prog 39 #[.pointer (some ⟨bq, 0, none⟩), .string s] w (RetQ w lo bq gMM { q with f := upd q.f 8 (.val (.string s)) }) := by
  have H := hide h
  obtain ⟨⟨u, h1⟩, h2⟩ := h.cell 8 (by decide)
  clear h
  go_enter Tryz.func39, Tryz.ntmps39
  go_wp2
  go_returns
  exact ⟨rfl, H.out.set (by decide) (by decide) rfl, Below.setCell_lo _ H.out.lo_le⟩

set_option maxHeartbeats 400000 in
theorem set_40 {w : World} {lo bq : Nat} {q : Q} (h : QAt w lo bq gMM q) (_hlo : lo ≤ w.heap.size) (s : ByteArray) :
    Calls Tryz.prog 40 #[.pointer (some ⟨bq, 0, none⟩), .string s] w (RetQ w lo bq gMM { q with f := upd q.f 13 (.val (.string s)) }) := by
  have H := hide h
  obtain ⟨⟨u, h1⟩, h2⟩ := h.cell 13 (by decide)
  clear h
  go_enter Tryz.func40, Tryz.ntmps40
  go_wp2
  go_returns
  exact ⟨rfl, H.out.set (by decide) (by decide) rfl, Below.setCell_lo _ H.out.lo_le⟩

set_option maxHeartbeats 400000 in
theorem set_41 {w : World} {lo bq : Nat} {q : Q} (h : QAt w lo bq gMM q) (hlo : lo ≤ w.heap.size) (y : Bool) :
    Calls Tryz.prog 41 #[.pointer (some ⟨bq, 0, none⟩), .bool y] w (RetQ w lo bq gMM { q with f := upd q.f 15 (.opt 4 (.bool y)) }) := by
  have H := hide h
  obtain ⟨⟨u, h1⟩, h2⟩ := h.cell 15 (by decide)
  have h3 := h.lt
  clear h
  go_enter Tryz.func41, Tryz.ntmps41
  go_wp2
  go_returns
  exact ⟨rfl, ptr_ok H.out hlo 15 4 (by decide) (by decide) _ (by decide) (by decide)⟩

set_option maxHeartbeats 400000 in
theorem set_42 {w : World} {lo bq : Nat} {q : Q} (h : QAt w lo bq gMM q) (hlo : lo ≤ w.heap.size) (n : Int) :
    Calls Tryz.prog 42 #[.pointer (some ⟨bq, 0, none⟩), .int .i64 n] w (RetQ w lo bq gMM { q with f := upd q.f 10 (.opt 3 (.int .i64 n)) }) := by
  have H := hide h
  obtain ⟨⟨u, h1⟩, h2⟩ := h.cell 10 (by decide)
  have h3 := h.lt
  clear h
  go_enter Tryz.func42, Tryz.ntmps42
  go_wp2
  go_returns
  exact ⟨rfl, ptr_ok H.out hlo 10 3 (by decide) (by decide) _ (by decide) (by decide)⟩

set_option maxHeartbeats 400000 in
theorem set_43 {w : World} {lo bq : Nat} {q : Q} (h : QAt w lo bq gMM q) (_hlo : lo ≤ w.heap.size) (s : ByteArray) :
    Calls Tryz.prog 43 #[.pointer (some ⟨bq, 0, none⟩), .string s] w (RetQ w lo bq gMM { q with f := upd q.f 11 (.val (.string s)) }) := by
  have H := hide h
  obtain ⟨⟨u, h1⟩, h2⟩ := h.cell 11 (by decide)
  clear h
  go_enter Tryz.func43, Tryz.ntmps43
  go_wp2
  go_returns
  exact ⟨rfl, H.out.set (by decide) (by decide) rfl, Below.setCell_lo _ H.out.lo_le⟩

set_option maxHeartbeats 400000 in
theorem set_44 {w : World} {lo bq : Nat} {q : Q} (h : QAt w lo bq gMM q) (_hlo : lo ≤ w.heap.size) (s : ByteArray) :
    Calls Tryz.prog 44 #[.pointer (some ⟨bq, 0, none⟩), .string s] w (RetQ w lo bq gMM { q with f := upd q.f 4 (.val (.string s)) }) := by
  have H := hide h
  obtain ⟨⟨u, h1⟩, h2⟩ := h.cell 4 (by decide)
  clear h
  go_enter Tryz.func44, Tryz.ntmps44
  go_wp2
  go_returns
  exact ⟨rfl, H.out.set (by decide) (by decide) rfl, Below.setCell_lo _ H.out.lo_le⟩

set_option maxHeartbeats 400000 in
theorem set_45 {w : World} {lo bq : Nat} {q : Q} (h : QAt w lo bq gMM q) (hlo : lo ≤ w.heap.size) (n : Int) :
    Calls Tryz.prog 45 #[.pointer (some ⟨bq, 0, none⟩), .int .i64 n] w (RetQ w lo bq gMM { q with f := upd q.f 9 (.opt 3 (.int .i64 n)) }) := by
  have H := hide h
  obtain ⟨⟨u, h1⟩, h2⟩ := h.cell 9 (by decide)
  have h3 := h.lt
  clear h
  go_enter Tryz.func45, Tryz.ntmps45
  go_wp2
  go_returns
  exact ⟨rfl, ptr_ok H.out hlo 9 3 (by decide) (by decide) _ (by decide) (by decide)⟩

set_option maxHeartbeats 400000 in
theorem set_46 {w : World} {lo bq : Nat} {q : Q} (h : QAt w lo bq gMM q) (_hlo : lo ≤ w.heap.size) (s : ByteArray) :
    Calls Tryz.prog 46 #[.pointer (some ⟨bq, 0, none⟩), .string s] w (RetQ w lo bq gMM { q with f := upd q.f 12 (.val (.string s)) }) := by
  have H := hide h
  obtain ⟨⟨u, h1⟩, h2⟩ := h.cell 12 (by decide)
  clear h
  go_enter Tryz.func46, Tryz.ntmps46
  go_wp2
  go_returns
  exact ⟨rfl, H.out.set (by decide) (by decide) rfl, Below.setCell_lo _ H.out.lo_le⟩

set_option maxHeartbeats 400000 in
theorem set_47 {w : World} {lo bq : Nat} {q : Q} (h : QAt w lo bq gMM q) (hlo : lo ≤ w.heap.size) (n : Int) :
    Calls Tryz.prog 47 #[.pointer (some ⟨bq, 0, none⟩), .int .i64 n] w (RetQ w lo bq gMM { q with f := upd q.f 7 (.opt 3 (.int .i64 n)) }) := by
  have H := hide h
  obtain ⟨⟨u, h1⟩, h2⟩ := h.cell 7 (by decide)
  have h3 := h.lt
  clear h
  go_enter Tryz.func47, Tryz.ntmps47
  go_wp2
  go_returns
  exact ⟨rfl, ptr_ok H.out hlo 7 3 (by decide) (by decide) _ (by decide) (by decide)⟩

set_option maxHeartbeats 400000 in
theorem set_48 {w : World} {lo bq : Nat} {q : Q} (h : QAt w lo bq gMM q) (hlo : lo ≤ w.heap.size) (x : Nat) :
    Calls Tryz.prog 48 #[.pointer (some ⟨bq, 0, none⟩), .float .f64 x] w (RetQ w lo bq gMM { q with f := upd q.f 14 (.opt 22 (.float .f64 x)) }) := by
  have H := hide h
  obtain ⟨⟨u, h1⟩, h2⟩ := h.cell 14 (by decide)
  have h3 := h.lt
  clear h
  go_enter Tryz.func48, Tryz.ntmps48
  go_wp2
  go_returns
  exact ⟨rfl, ptr_ok H.out hlo 14 22 (by decide) (by decide) _ (by decide) (by decide)⟩

set_option maxHeartbeats 400000 in
theorem set_50 {w : World} {lo bq : Nat} {q : Q} (h : QAt w lo bq gMM q) (_hlo : lo ≤ w.heap.size) (s : ByteArray) :
    Calls Tryz.prog 50 #[.pointer (some ⟨bq, 0, none⟩), .string s] w (RetQ w lo bq gMM { q with f := upd q.f 17 (.val (.string s)) }) := by
  have H := hide h
  obtain ⟨⟨u, h1⟩, h2⟩ := h.cell 17 (by decide)
  clear h
  go_enter Tryz.func50, Tryz.ntmps50
  go_wp2
  go_returns
  exact ⟨rfl, H.out.set (by decide) (by decide) rfl, Below.setCell_lo _ H.out.lo_le⟩

set_option maxHeartbeats 400000 in
theorem set_51 {w : World} {lo bq : Nat} {q : Q} (h : QAt w lo bq gMM q) (_hlo : lo ≤ w.heap.size) (s : ByteArray) :
    Calls Tryz.prog 51 #[.pointer (some ⟨bq, 0, none⟩), .string s] w (RetQ w lo bq gMM { q with f := upd q.f 18 (.val (.string s)) }) := by
  have H := hide h
  obtain ⟨⟨u, h1⟩, h2⟩ := h.cell 18 (by decide)
  clear h
  go_enter Tryz.func51, Tryz.ntmps51
  go_wp2
  go_returns
  exact ⟨rfl, H.out.set (by decide) (by decide) rfl, Below.setCell_lo _ H.out.lo_le⟩

set_option maxHeartbeats 400000 in
theorem set_57 {w : World} {lo bq : Nat} {q : Q} (h : QAt w lo bq gCF q) (hlo : lo ≤ w.heap.size) (y : Bool) :
    Calls Tryz.prog 57 #[.pointer (some ⟨bq, 0, none⟩), .bool y] w (RetQ w lo bq gCF { q with f := upd q.f 3 (.opt 4 (.bool y)) }) := by
  have H := hide h
  obtain ⟨⟨u, h1⟩, h2⟩ := h.cell 3 (by decide)
  have h3 := h.lt
  clear h
  go_enter Tryz.func57, Tryz.ntmps57
  go_wp2
  go_returns
  exact ⟨rfl, ptr_ok H.out hlo 3 4 (by decide) (by decide) _ (by decide) (by decide)⟩

set_option maxHeartbeats 400000 in
theorem set_58 {w : World} {lo bq : Nat} {q : Q} (h : QAt w lo bq gCF q) (_hlo : lo ≤ w.heap.size) (s : ByteArray) :
    Calls Tryz.prog 58 #[.pointer (some ⟨bq, 0, none⟩), .string s] w (RetQ w lo bq gCF { q with f := upd q.f 5 (.val (.string s)) }) := by
  have H := hide h
  obtain ⟨⟨u, h1⟩, h2⟩ := h.cell 5 (by decide)
  clear h
  go_enter Tryz.func58, Tryz.ntmps58
  go_wp2
  go_returns
  exact ⟨rfl, H.out.set (by decide) (by decide) rfl, Below.setCell_lo _ H.out.lo_le⟩

set_option maxHeartbeats 400000 in
theorem set_59 {w : World} {lo bq : Nat} {q : Q} (h : QAt w lo bq gCF q) (_hlo : lo ≤ w.heap.size) (s : ByteArray) :
    Calls Tryz.prog 59 #[.pointer (some ⟨bq, 0, none⟩), .string s] w (RetQ w lo bq gCF { q with f := upd q.f 4 (.val (.string s)) }) := by
  have H := hide h
  obtain ⟨⟨u, h1⟩, h2⟩ := h.cell 4 (by decide)
  clear h
  go_enter Tryz.func59, Tryz.ntmps59
  go_wp2
  go_returns
  exact ⟨rfl, H.out.set (by decide) (by decide) rfl, Below.setCell_lo _ H.out.lo_le⟩

set_option maxHeartbeats 400000 in
theorem set_60 {w : World} {lo bq : Nat} {q : Q} (h : QAt w lo bq gCF q) (_hlo : lo ≤ w.heap.size) (s : ByteArray) :
    Calls Tryz.prog 60 #[.pointer (some ⟨bq, 0, none⟩), .string s] w (RetQ w lo bq gCF { q with f := upd q.f 6 (.val (.string s)) }) := by
  have H := hide h
  obtain ⟨⟨u, h1⟩, h2⟩ := h.cell 6 (by decide)
  clear h
  go_enter Tryz.func60, Tryz.ntmps60
  go_wp2
  go_returns
  exact ⟨rfl, H.out.set (by decide) (by decide) rfl, Below.setCell_lo _ H.out.lo_le⟩

set_option maxHeartbeats 400000 in
theorem set_79 {w : World} {lo bq : Nat} {q : Q} (h : QAt w lo bq gSQ q) (hlo : lo ≤ w.heap.size) (y : Bool) :
    Calls Tryz.prog 79 #[.pointer (some ⟨bq, 0, none⟩), .bool y] w (RetQ w lo bq gSQ { q with f := upd q.f 11 (.opt 4 (.bool y)) }) := by
  have H := hide h
  obtain ⟨⟨u, h1⟩, h2⟩ := h.cell 11 (by decide)
  have h3 := h.lt
  clear h
  go_enter Tryz.func79, Tryz.ntmps79
  go_wp2
  go_returns
  exact ⟨rfl, ptr_ok H.out hlo 11 4 (by decide) (by decide) _ (by decide) (by decide)⟩

set_option maxHeartbeats 400000 in
theorem set_80 {w : World} {lo bq : Nat} {q : Q} (h : QAt w lo bq gSQ q) (_hlo : lo ≤ w.heap.size) (s : ByteArray) :
    Calls Tryz.prog 80 #[.pointer (some ⟨bq, 0, none⟩), .string s] w (RetQ w lo bq gSQ { q with f := upd q.f 1 (.val (.string s)) }) := by
  have H := hide h
  obtain ⟨⟨u, h1⟩, h2⟩ := h.cell 1 (by decide)
  clear h
  go_enter Tryz.func80, Tryz.ntmps80
  go_wp2
  go_returns
  exact ⟨rfl, H.out.set (by decide) (by decide) rfl, Below.setCell_lo _ H.out.lo_le⟩

set_option maxHeartbeats 400000 in
theorem set_81 {w : World} {lo bq : Nat} {q : Q} (h : QAt w lo bq gSQ q) (hlo : lo ≤ w.heap.size) (y : Bool) :
    Calls Tryz.prog 81 #[.pointer (some ⟨bq, 0, none⟩), .bool y] w (RetQ w lo bq gSQ { q with f := upd q.f 14 (.opt 4 (.bool y)) }) := by
  have H := hide h
  obtain ⟨⟨u, h1⟩, h2⟩ := h.cell 14 (by decide)
  have h3 := h.lt
  clear h
  go_enter Tryz.func81, Tryz.ntmps81
  go_wp2
  go_returns
  exact ⟨rfl, ptr_ok H.out hlo 14 4 (by decide) (by decide) _ (by decide) (by decide)⟩

set_option maxHeartbeats 400000 in
theorem set_82 {w : World} {lo bq : Nat} {q : Q} (h : QAt w lo bq gSQ q) (hlo : lo ≤ w.heap.size) (x : Nat) :
    Calls Tryz.prog 82 #[.pointer (some ⟨bq, 0, none⟩), .float .f64 x] w (RetQ w lo bq gSQ { q with f := upd q.f 8 (.opt 22 (.float .f64 x)) }) := by
  have H := hide h
  obtain ⟨⟨u, h1⟩, h2⟩ := h.cell 8 (by decide)
  have h3 := h.lt
  clear h
  go_enter Tryz.func82, Tryz.ntmps82
  go_wp2
  go_returns
  exact ⟨rfl, ptr_ok H.out hlo 8 22 (by decide) (by decide) _ (by decide) (by decide)⟩

set_option maxHeartbeats 400000 in
theorem set_83 {w : World} {lo bq : Nat} {q : Q} (h : QAt w lo bq gSQ q) (_hlo : lo ≤ w.heap.size) (s : ByteArray) :
    Calls Tryz.prog 83 #[.pointer (some ⟨bq, 0, none⟩), .string s] w (RetQ w lo bq gSQ { q with f := upd q.f 3 (.val (.string s)) }) := by
  have H := hide h
  obtain ⟨⟨u, h1⟩, h2⟩ := h.cell 3 (by decide)
  clear h
  go_enter Tryz.func83, Tryz.ntmps83
  go_wp2
  go_returns
  exact ⟨rfl, H.out.set (by decide) (by decide) rfl, Below.setCell_lo _ H.out.lo_le⟩

set_option maxHeartbeats 400000 in
theorem set_84 {w : World} {lo bq : Nat} {q : Q} (h : QAt w lo bq gSQ q) (_hlo : lo ≤ w.heap.size) (s : ByteArray) :
    Calls Tryz.prog 84 #[.pointer (some ⟨bq, 0, none⟩), .string s] w (RetQ w lo bq gSQ { q with f := upd q.f 7 (.val (.string s)) }) := by
  have H := hide h
  obtain ⟨⟨u, h1⟩, h2⟩ := h.cell 7 (by decide)
  clear h
  go_enter Tryz.func84, Tryz.ntmps84
  go_wp2
  go_returns
  exact ⟨rfl, H.out.set (by decide) (by decide) rfl, Below.setCell_lo _ H.out.lo_le⟩

set_option maxHeartbeats 400000 in
theorem set_85 {w : World} {lo bq : Nat} {q : Q} (h : QAt w lo bq gSQ q) (_hlo : lo ≤ w.heap.size) (n : Int) :
    Calls Tryz.prog 85 #[.pointer (some ⟨bq, 0, none⟩), .int .i64 n] w (RetQ w lo bq gSQ { q with f := upd q.f 16 (.val (.int .i64 n)) }) := by
  have H := hide h
  obtain ⟨⟨u, h1⟩, h2⟩ := h.cell 16 (by decide)
  clear h
  go_enter Tryz.func85, Tryz.ntmps85
  go_wp2
  go_returns
  exact ⟨rfl, H.out.set (by decide) (by decide) rfl, Below.setCell_lo _ H.out.lo_le⟩

set_option maxHeartbeats 400000 in
theorem set_86 {w : World} {lo bq : Nat} {q : Q} (h : QAt w lo bq gSQ q) (_hlo : lo ≤ w.heap.size) (n : Int) :
    Calls Tryz.prog 86 #[.pointer (some ⟨bq, 0, none⟩), .int .i64 n] w (RetQ w lo bq gSQ { q with f := upd q.f 15 (.val (.int .i64 n)) }) := by
  have H := hide h
  obtain ⟨⟨u, h1⟩, h2⟩ := h.cell 15 (by decide)
  clear h
  go_enter Tryz.func86, Tryz.ntmps86
  go_wp2
  go_returns
  exact ⟨rfl, H.out.set (by decide) (by decide) rfl, Below.setCell_lo _ H.out.lo_le⟩

set_option maxHeartbeats 400000 in
theorem set_87 {w : World} {lo bq : Nat} {q : Q} (h : QAt w lo bq gSQ q) (hlo : lo ≤ w.heap.size) (y : Bool) :
    Calls Tryz.prog 87 #[.pointer (some ⟨bq, 0, none⟩), .bool y] w (RetQ w lo bq gSQ { q with f := upd q.f 17 (.opt 4 (.bool y)) }) := by
  have H := hide h
  obtain ⟨⟨u, h1⟩, h2⟩ := h.cell 17 (by decide)
  have h3 := h.lt
  clear h
  go_enter Tryz.func87, Tryz.ntmps87
  go_wp2
  go_returns
  exact ⟨rfl, ptr_ok H.out hlo 17 4 (by decide) (by decide) _ (by decide) (by decide)⟩

set_option maxHeartbeats 400000 in
theorem set_88 {w : World} {lo bq : Nat} {q : Q} (h : QAt w lo bq gSQ q) (hlo : lo ≤ w.heap.size) (y : Bool) :
    Calls Tryz.prog 88 #[.pointer (some ⟨bq, 0, none⟩), .bool y] w (RetQ w lo bq gSQ { q with f := upd q.f 10 (.opt 4 (.bool y)) }) := by
  have H := hide h
  obtain ⟨⟨u, h1⟩, h2⟩ := h.cell 10 (by decide)
  have h3 := h.lt
  clear h
  go_enter Tryz.func88, Tryz.ntmps88
  go_wp2
  go_returns
  exact ⟨rfl, ptr_ok H.out hlo 10 4 (by decide) (by decide) _ (by decide) (by decide)⟩

set_option maxHeartbeats 400000 in
theorem set_89 {w : World} {lo bq : Nat} {q : Q} (h : QAt w lo bq gSQ q) (_hlo : lo ≤ w.heap.size) (s : ByteArray) :
    Calls Tryz.prog 89 #[.pointer (some ⟨bq, 0, none⟩), .string s] w (RetQ w lo bq gSQ { q with f := upd q.f 6 (.val (.string s)) }) := by
  have H := hide h
  obtain ⟨⟨u, h1⟩, h2⟩ := h.cell 6 (by decide)
  clear h
  go_enter Tryz.func89, Tryz.ntmps89
  go_wp2
  go_returns
  exact ⟨rfl, H.out.set (by decide) (by decide) rfl, Below.setCell_lo _ H.out.lo_le⟩

set_option maxHeartbeats 400000 in
theorem set_90 {w : World} {lo bq : Nat} {q : Q} (h : QAt w lo bq gSQ q) (_hlo : lo ≤ w.heap.size) (s : ByteArray) :
    Calls Tryz.prog 90 #[.pointer (some ⟨bq, 0, none⟩), .string s] w (RetQ w lo bq gSQ { q with f := upd q.f 2 (.val (.string s)) }) := by
  have H := hide h
  obtain ⟨⟨u, h1⟩, h2⟩ := h.cell 2 (by decide)
  clear h
  go_enter Tryz.func90, Tryz.ntmps90
  go_wp2
  go_returns
  exact ⟨rfl, H.out.set (by decide) (by decide) rfl, Below.setCell_lo _ H.out.lo_le⟩

set_option maxHeartbeats 400000 in
theorem set_91 {w : World} {lo bq : Nat} {q : Q} (h : QAt w lo bq gSQ q) (_hlo : lo ≤ w.heap.size) (s : ByteArray) :
    Calls Tryz.prog 91 #[.pointer (some ⟨bq, 0, none⟩), .string s] w (RetQ w lo bq gSQ { q with f := upd q.f 13 (.val (.string s)) }) := by
  have H := hide h
  obtain ⟨⟨u, h1⟩, h2⟩ := h.cell 13 (by decide)
  clear h
  go_enter Tryz.func91, Tryz.ntmps91
  go_wp2
  go_returns
  exact ⟨rfl, H.out.set (by decide) (by decide) rfl, Below.setCell_lo _ H.out.lo_le⟩

set_option maxHeartbeats 400000 in
theorem set_97 {w : World} {lo bq : Nat} {q : Q} (h : QAt w lo bq gQS q) (hlo : lo ≤ w.heap.size) (y : Bool) :
    Calls Tryz.prog 97 #[.pointer (some ⟨bq, 0, none⟩), .bool y] w (RetQ w lo bq gQS { q with f := upd q.f 6 (.opt 4 (.bool y)) }) := by
  have H := hide h
  obtain ⟨⟨u, h1⟩, h2⟩ := h.cell 6 (by decide)
  have h3 := h.lt
  clear h
  go_enter Tryz.func97, Tryz.ntmps97
  go_wp2
  go_returns
  exact ⟨rfl, ptr_ok H.out hlo 6 4 (by decide) (by decide) _ (by decide) (by decide)⟩

set_option maxHeartbeats 400000 in
theorem set_98 {w : World} {lo bq : Nat} {q : Q} (h : QAt w lo bq gQS q) (hlo : lo ≤ w.heap.size) (y : Bool) :
    Calls Tryz.prog 98 #[.pointer (some ⟨bq, 0, none⟩), .bool y] w (RetQ w lo bq gQS { q with f := upd q.f 9 (.opt 4 (.bool y)) }) := by
  have H := hide h
  obtain ⟨⟨u, h1⟩, h2⟩ := h.cell 9 (by decide)
  have h3 := h.lt
  clear h
  go_enter Tryz.func98, Tryz.ntmps98
  go_wp2
  go_returns
  exact ⟨rfl, ptr_ok H.out hlo 9 4 (by decide) (by decide) _ (by decide) (by decide)⟩

set_option maxHeartbeats 400000 in
theorem set_99 {w : World} {lo bq : Nat} {q : Q} (h : QAt w lo bq gQS q) (_hlo : lo ≤ w.heap.size) (s : ByteArray) :
    Calls Tryz.prog 99 #[.pointer (some ⟨bq, 0, none⟩), .string s] w (RetQ w lo bq gQS { q with f := upd q.f 3 (.val (.string s)) }) := by
  have H := hide h
  obtain ⟨⟨u, h1⟩, h2⟩ := h.cell 3 (by decide)
  clear h
  go_enter Tryz.func99, Tryz.ntmps99
  go_wp2
  go_returns
  exact ⟨rfl, H.out.set (by decide) (by decide) rfl, Below.setCell_lo _ H.out.lo_le⟩

set_option maxHeartbeats 400000 in
theorem set_100 {w : World} {lo bq : Nat} {q : Q} (h : QAt w lo bq gQS q) (hlo : lo ≤ w.heap.size) (x : Nat) :
    Calls Tryz.prog 100 #[.pointer (some ⟨bq, 0, none⟩), .float .f64 x] w (RetQ w lo bq gQS { q with f := upd q.f 11 (.opt 22 (.float .f64 x)) }) := by
  have H := hide h
  obtain ⟨⟨u, h1⟩, h2⟩ := h.cell 11 (by decide)
  have h3 := h.lt
  clear h
  go_enter Tryz.func100, Tryz.ntmps100
  go_wp2
  go_returns
  exact ⟨rfl, ptr_ok H.out hlo 11 22 (by decide) (by decide) _ (by decide) (by decide)⟩

set_option maxHeartbeats 400000 in
theorem set_101 {w : World} {lo bq : Nat} {q : Q} (h : QAt w lo bq gQS q) (_hlo : lo ≤ w.heap.size) (s : ByteArray) :
    Calls Tryz.prog 101 #[.pointer (some ⟨bq, 0, none⟩), .string s] w (RetQ w lo bq gQS { q with f := upd q.f 1 (.val (.string s)) }) := by
  have H := hide h
  obtain ⟨⟨u, h1⟩, h2⟩ := h.cell 1 (by decide)
  clear h
  go_enter Tryz.func101, Tryz.ntmps101
  go_wp2
  go_returns
  exact ⟨rfl, H.out.set (by decide) (by decide) rfl, Below.setCell_lo _ H.out.lo_le⟩

set_option maxHeartbeats 400000 in
theorem set_102 {w : World} {lo bq : Nat} {q : Q} (h : QAt w lo bq gQS q) (_hlo : lo ≤ w.heap.size) (s : ByteArray) :
    Calls Tryz.prog 102 #[.pointer (some ⟨bq, 0, none⟩), .string s] w (RetQ w lo bq gQS { q with f := upd q.f 2 (.val (.string s)) }) := by
  have H := hide h
  obtain ⟨⟨u, h1⟩, h2⟩ := h.cell 2 (by decide)
  clear h
  go_enter Tryz.func102, Tryz.ntmps102
  go_wp2
  go_returns
  exact ⟨rfl, H.out.set (by decide) (by decide) rfl, Below.setCell_lo _ H.out.lo_le⟩

set_option maxHeartbeats 400000 in
theorem set_103 {w : World} {lo bq : Nat} {q : Q} (h : QAt w lo bq gQS q) (hlo : lo ≤ w.heap.size) (y : Bool) :
    Calls Tryz.prog 103 #[.pointer (some ⟨bq, 0, none⟩), .bool y] w (RetQ w lo bq gQS { q with f := upd q.f 8 (.opt 4 (.bool y)) }) := by
  have H := hide h
  obtain ⟨⟨u, h1⟩, h2⟩ := h.cell 8 (by decide)
  have h3 := h.lt
  clear h
  go_enter Tryz.func103, Tryz.ntmps103
  go_wp2
  go_returns
  exact ⟨rfl, ptr_ok H.out hlo 8 4 (by decide) (by decide) _ (by decide) (by decide)⟩

set_option maxHeartbeats 400000 in
theorem set_104 {w : World} {lo bq : Nat} {q : Q} (h : QAt w lo bq gQS q) (hlo : lo ≤ w.heap.size) (y : Bool) :
    Calls Tryz.prog 104 #[.pointer (some ⟨bq, 0, none⟩), .bool y] w (RetQ w lo bq gQS { q with f := upd q.f 26 (.opt 4 (.bool y)) }) := by
  have H := hide h
  obtain ⟨⟨u, h1⟩, h2⟩ := h.cell 26 (by decide)
  have h3 := h.lt
  clear h
  go_enter Tryz.func104, Tryz.ntmps104
  go_wp2
  go_returns
  exact ⟨rfl, ptr_ok H.out hlo 26 4 (by decide) (by decide) _ (by decide) (by decide)⟩

set_option maxHeartbeats 400000 in
theorem set_105 {w : World} {lo bq : Nat} {q : Q} (h : QAt w lo bq gQS q) (_hlo : lo ≤ w.heap.size) (s : ByteArray) :
    Calls Tryz.prog 105 #[.pointer (some ⟨bq, 0, none⟩), .string s] w (RetQ w lo bq gQS { q with f := upd q.f 12 (.val (.string s)) }) := by
  have H := hide h
  obtain ⟨⟨u, h1⟩, h2⟩ := h.cell 12 (by decide)
  clear h
  go_enter Tryz.func105, Tryz.ntmps105
  go_wp2
  go_returns
  exact ⟨rfl, H.out.set (by decide) (by decide) rfl, Below.setCell_lo _ H.out.lo_le⟩

set_option maxHeartbeats 400000 in
theorem set_106 {w : World} {lo bq : Nat} {q : Q} (h : QAt w lo bq gQS q) (hlo : lo ≤ w.heap.size) (n : Int) :
    Calls Tryz.prog 106 #[.pointer (some ⟨bq, 0, none⟩), .int .i64 n] w (RetQ w lo bq gQS { q with f := upd q.f 14 (.opt 3 (.int .i64 n)) }) := by
  have H := hide h
  obtain ⟨⟨u, h1⟩, h2⟩ := h.cell 14 (by decide)
  have h3 := h.lt
  clear h
  go_enter Tryz.func106, Tryz.ntmps106
  go_wp2
  go_returns
  exact ⟨rfl, ptr_ok H.out hlo 14 3 (by decide) (by decide) _ (by decide) (by decide)⟩

set_option maxHeartbeats 400000 in
theorem set_107 {w : World} {lo bq : Nat} {q : Q} (h : QAt w lo bq gQS q) (hlo : lo ≤ w.heap.size) (n : Int) :
    Calls Tryz.prog 107 #[.pointer (some ⟨bq, 0, none⟩), .int .i64 n] w (RetQ w lo bq gQS { q with f := upd q.f 13 (.opt 3 (.int .i64 n)) }) := by
  have H := hide h
  obtain ⟨⟨u, h1⟩, h2⟩ := h.cell 13 (by decide)
  have h3 := h.lt
  clear h
  go_enter Tryz.func107, Tryz.ntmps107
  go_wp2
  go_returns
  exact ⟨rfl, ptr_ok H.out hlo 13 3 (by decide) (by decide) _ (by decide) (by decide)⟩

set_option maxHeartbeats 400000 in
theorem set_108 {w : World} {lo bq : Nat} {q : Q} (h : QAt w lo bq gQS q) (_hlo : lo ≤ w.heap.size) (s : ByteArray) :
    Calls Tryz.prog 108 #[.pointer (some ⟨bq, 0, none⟩), .string s] w (RetQ w lo bq gQS { q with f := upd q.f 15 (.val (.string s)) }) := by
  have H := hide h
  obtain ⟨⟨u, h1⟩, h2⟩ := h.cell 15 (by decide)
  clear h
  go_enter Tryz.func108, Tryz.ntmps108
  go_wp2
  go_returns
  exact ⟨rfl, H.out.set (by decide) (by decide) rfl, Below.setCell_lo _ H.out.lo_le⟩

set_option maxHeartbeats 400000 in
theorem set_109 {w : World} {lo bq : Nat} {q : Q} (h : QAt w lo bq gQS q) (hlo : lo ≤ w.heap.size) (y : Bool) :
    Calls Tryz.prog 109 #[.pointer (some ⟨bq, 0, none⟩), .bool y] w (RetQ w lo bq gQS { q with f := upd q.f 22 (.opt 4 (.bool y)) }) := by
  have H := hide h
  obtain ⟨⟨u, h1⟩, h2⟩ := h.cell 22 (by decide)
  have h3 := h.lt
  clear h
  go_enter Tryz.func109, Tryz.ntmps109
  go_wp2
  go_returns
  exact ⟨rfl, ptr_ok H.out hlo 22 4 (by decide) (by decide) _ (by decide) (by decide)⟩

set_option maxHeartbeats 400000 in
theorem set_110 {w : World} {lo bq : Nat} {q : Q} (h : QAt w lo bq gQS q) (hlo : lo ≤ w.heap.size) (n : Int) :
    Calls Tryz.prog 110 #[.pointer (some ⟨bq, 0, none⟩), .int .i64 n] w (RetQ w lo bq gQS { q with f := upd q.f 25 (.opt 3 (.int .i64 n)) }) := by
  have H := hide h
  obtain ⟨⟨u, h1⟩, h2⟩ := h.cell 25 (by decide)
  have h3 := h.lt
  clear h
  go_enter Tryz.func110, Tryz.ntmps110
  go_wp2
  go_returns
  exact ⟨rfl, ptr_ok H.out hlo 25 3 (by decide) (by decide) _ (by decide) (by decide)⟩

set_option maxHeartbeats 400000 in
theorem set_111 {w : World} {lo bq : Nat} {q : Q} (h : QAt w lo bq gQS q) (_hlo : lo ≤ w.heap.size) (s : ByteArray) :
    Calls Tryz.prog 111 #[.pointer (some ⟨bq, 0, none⟩), .string s] w (RetQ w lo bq gQS { q with f := upd q.f 21 (.val (.string s)) }) := by
  have H := hide h
  obtain ⟨⟨u, h1⟩, h2⟩ := h.cell 21 (by decide)
  clear h
  go_enter Tryz.func111, Tryz.ntmps111
  go_wp2
  go_returns
  exact ⟨rfl, H.out.set (by decide) (by decide) rfl, Below.setCell_lo _ H.out.lo_le⟩

set_option maxHeartbeats 400000 in
theorem set_112 {w : World} {lo bq : Nat} {q : Q} (h : QAt w lo bq gQS q) (hlo : lo ≤ w.heap.size) (n : Int) :
    Calls Tryz.prog 112 #[.pointer (some ⟨bq, 0, none⟩), .int .i64 n] w (RetQ w lo bq gQS { q with f := upd q.f 16 (.opt 3 (.int .i64 n)) }) := by
  have H := hide h
  obtain ⟨⟨u, h1⟩, h2⟩ := h.cell 16 (by decide)
  have h3 := h.lt
  clear h
  go_enter Tryz.func112, Tryz.ntmps112
  go_wp2
  go_returns
  exact ⟨rfl, ptr_ok H.out hlo 16 3 (by decide) (by decide) _ (by decide) (by decide)⟩

set_option maxHeartbeats 400000 in
theorem set_113 {w : World} {lo bq : Nat} {q : Q} (h : QAt w lo bq gQS q) (_hlo : lo ≤ w.heap.size) (s : ByteArray) :
    Calls Tryz.prog 113 #[.pointer (some ⟨bq, 0, none⟩), .string s] w (RetQ w lo bq gQS { q with f := upd q.f 4 (.val (.string s)) }) := by
  have H := hide h
  obtain ⟨⟨u, h1⟩, h2⟩ := h.cell 4 (by decide)
  clear h
  go_enter Tryz.func113, Tryz.ntmps113
  go_wp2
  go_returns
  exact ⟨rfl, H.out.set (by decide) (by decide) rfl, Below.setCell_lo _ H.out.lo_le⟩

set_option maxHeartbeats 400000 in
theorem set_114 {w : World} {lo bq : Nat} {q : Q} (h : QAt w lo bq gQS q) (_hlo : lo ≤ w.heap.size) (s : ByteArray) :
    Calls Tryz.prog 114 #[.pointer (some ⟨bq, 0, none⟩), .string s] w (RetQ w lo bq gQS { q with f := upd q.f 5 (.val (.string s)) }) := by
  have H := hide h
  obtain ⟨⟨u, h1⟩, h2⟩ := h.cell 5 (by decide)
  clear h
  go_enter Tryz.func114, Tryz.ntmps114
  go_wp2
  go_returns
  exact ⟨rfl, H.out.set (by decide) (by decide) rfl, Below.setCell_lo _ H.out.lo_le⟩

set_option maxHeartbeats 400000 in
theorem set_115 {w : World} {lo bq : Nat} {q : Q} (h : QAt w lo bq gQS q) (_hlo : lo ≤ w.heap.size) (s : ByteArray) :
    Calls Tryz.prog 115 #[.pointer (some ⟨bq, 0, none⟩), .string s] w (RetQ w lo bq gQS { q with f := upd q.f 20 (.val (.string s)) }) := by
  have H := hide h
  obtain ⟨⟨u, h1⟩, h2⟩ := h.cell 20 (by decide)
  clear h
  go_enter Tryz.func115, Tryz.ntmps115
  go_wp2
  go_returns
  exact ⟨rfl, H.out.set (by decide) (by decide) rfl, Below.setCell_lo _ H.out.lo_le⟩

set_option maxHeartbeats 400000 in
theorem set_116 {w : World} {lo bq : Nat} {q : Q} (h : QAt w lo bq gQS q) (hlo : lo ≤ w.heap.size) (x : Nat) :
    Calls Tryz.prog 116 #[.pointer (some ⟨bq, 0, none⟩), .float .f64 x] w (RetQ w lo bq gQS { q with f := upd q.f 19 (.opt 22 (.float .f64 x)) }) := by
  have H := hide h
  obtain ⟨⟨u, h1⟩, h2⟩ := h.cell 19 (by decide)
  have h3 := h.lt
  clear h
  go_enter Tryz.func116, Tryz.ntmps116
  go_wp2
  go_returns
  exact ⟨rfl, ptr_ok H.out hlo 19 22 (by decide) (by decide) _ (by decide) (by decide)⟩

set_option maxHeartbeats 400000 in
theorem set_117 {w : World} {lo bq : Nat} {q : Q} (h : QAt w lo bq gQS q) (_hlo : lo ≤ w.heap.size) (s : ByteArray) :
    Calls Tryz.prog 117 #[.pointer (some ⟨bq, 0, none⟩), .string s] w (RetQ w lo bq gQS { q with f := upd q.f 24 (.val (.string s)) }) := by
  have H := hide h
  obtain ⟨⟨u, h1⟩, h2⟩ := h.cell 24 (by decide)
  clear h
  go_enter Tryz.func117, Tryz.ntmps117
  go_wp2
  go_returns
  exact ⟨rfl, H.out.set (by decide) (by decide) rfl, Below.setCell_lo _ H.out.lo_le⟩

set_option maxHeartbeats 400000 in
theorem set_118 {w : World} {lo bq : Nat} {q : Q} (h : QAt w lo bq gQS q) (_hlo : lo ≤ w.heap.size) (s : ByteArray) :
    Calls Tryz.prog 118 #[.pointer (some ⟨bq, 0, none⟩), .string s] w (RetQ w lo bq gQS { q with f := upd q.f 27 (.val (.string s)) }) := by
  have H := hide h
  obtain ⟨⟨u, h1⟩, h2⟩ := h.cell 27 (by decide)
  clear h
  go_enter Tryz.func118, Tryz.ntmps118
  go_wp2
  go_returns
  exact ⟨rfl, H.out.set (by decide) (by decide) rfl, Below.setCell_lo _ H.out.lo_le⟩

set_option maxHeartbeats 400000 in
theorem set_119 {w : World} {lo bq : Nat} {q : Q} (h : QAt w lo bq gQS q) (_hlo : lo ≤ w.heap.size) (s : ByteArray) :
    Calls Tryz.prog 119 #[.pointer (some ⟨bq, 0, none⟩), .string s] w (RetQ w lo bq gQS { q with f := upd q.f 23 (.val (.string s)) }) := by
  have H := hide h
  obtain ⟨⟨u, h1⟩, h2⟩ := h.cell 23 (by decide)
  clear h
  go_enter Tryz.func119, Tryz.ntmps119
  go_wp2
  go_returns
  exact ⟨rfl, H.out.set (by decide) (by decide) rfl, Below.setCell_lo _ H.out.lo_le⟩

end Go.Proofs.YtbcnhcpgloncdaaGreatDoor

/-
  Field AND FieldWithBoost OF THE FOUR BUILDERS.
-/
namespace Go.Proofs.YtbcnhcpgloncdaaGreatDoor
open Go.RowKit Go.Sort Go.ChangeMaps Go.MapKept

theorem QCore.setF {w : World} {lo bq : Nat} {g : Geo} {q : Q} {c : Array Value} {bm : Nat} (h : QCore w lo bq g q c bm) (v : Value) : QCore (w.setCell ⟨bq, g.iF, none⟩ v) lo bq g q (c.setIfInBounds g.iF v) bm := by
  obtain ⟨h1, h2, h3, h4, h5, h6⟩ := h
  have hg := grownBy_setCell w bq g.iF v
  have hbig := g.big
  have other : ∀ k o, w.heap[k]? = some o → o ≠ Obj.cells c g.T (0, 0) → (w.setCell ⟨bq, g.iF, none⟩ v).heap[k]? = some o := fun k o hk hne =>
    (hg.block k (lt_of_block hk) (by rintro ⟨⟩; rw [h2] at hk; exact hne (Option.some.inj hk).symm)).trans hk
  have fat : ∀ fv u', FAt w lo fv u' → FAt (w.setCell ⟨bq, g.iF, none⟩ v) lo fv u' := fun fv u' hf => by
    cases fv with
    | val v => exact hf
    | nop => exact hf
    | opt t v =>
      obtain ⟨p, p1, p2, p3, p4, p5⟩ := hf
      exact ⟨p, p1, p2, p3, p4, other p _ p5 (by intro e; injection e with e1 e2; have e3 : (_ : Nat) = _ := e2; omega)⟩
  refine ⟨h1, heap_setCell h2, by simpa using h3, ?_, ?_, fun j u' ha hb hj => ?_⟩
  · rw [Array.getElem?_setIfInBounds_ne g.ne]; exact h4
  · obtain ⟨Lp, b1, b2, b3, b4⟩ := h5
    obtain ⟨es, cl, hb⟩ := b2.block
    refine ⟨Lp, b1, b2.same ((other bm _ hb (by intro e; cases e)).trans hb.symm), b3, fun i k y hi => ?_⟩
    obtain ⟨p, p5, p6, p7⟩ := b4 i k y hi
    exact ⟨p, p5, p6, other p _ p7 (by intro e; injection e with e1 e2; have e3 : (_ : Nat) = _ := e2; omega)⟩
  · rw [Array.getElem?_setIfInBounds_ne (Ne.symm ha)] at hj
    exact fat _ _ (h6 j u' ha hb hj)

theorem ownsRow_setT {w : World} {lo bq i : Nat} {t : Nat} {c : Array Value} (hb : w.heap[bq]? = some (.cells c t (0, 0))) (ht : t ≠ 9) {v : Value} {n : Nat} {xs : List Value} (h : w.ownsRow lo 9 1 v n xs) (u : Value) :
    (w.setCell ⟨bq, i, none⟩ u).ownsRow lo 9 1 v n xs := by
  refine ⟨h.1, ?_⟩
  rcases h.2 with h0 | ⟨gg, cap, cur, r1, r2, r3, r4⟩
  · exact Or.inl h0
  · refine Or.inr ⟨gg, cap, cur, r1, r2, ((grownBy_setCell w bq i u).block gg (lt_of_block r3) ?_).trans r3, r4⟩
    rintro ⟨⟩
    rw [hb] at r3
    have := Option.some.inj r3
    injection this with e1 e2
    exact ht e2

/-- A field laid behind the others. -/
theorem QCore.push {w w1 w2 : World} {lo bq : Nat} {g : Geo} {q : Q} {c : Array Value} {bm : Nat} {vF v' : Value} (hc : QCore w lo bq g q c bm) (hown : w.ownsRow lo 9 1 vF q.fields.length (q.fields.map Value.string))
    (hlo : lo ≤ w.heap.size) (hb : Below w.heap.size w w1) {s : ByteArray} (hown' : w2.ownsRow lo 9 1 v' (q.fields.length + 1) (q.fields.map Value.string ++ [.string s])) (hg : w1.grownBy w2 vF.ownBlock) :
    QCore (w2.setCell ⟨bq, g.iF, none⟩ v') lo bq g { q with fields := q.fields ++ [s] } (c.setIfInBounds g.iF v') bm ∧ (c.setIfInBounds g.iF v')[g.iF]? = some v' ∧
    (w2.setCell ⟨bq, g.iF, none⟩ v').ownsRow lo 9 1 v' (q.fields ++ [s]).length ((q.fields ++ [s]).map Value.string) ∧ Below lo w (w2.setCell ⟨bq, g.iF, none⟩ v') := by
  have hc1 := hc.kept (loose_none w) (below_grown hb)
  have hown1 := ownsRow_kept hown hb
  have hc2 := hc1.kept (ownsRow_loose hown1) hg
  have hbig := g.big
  obtain ⟨hc2', h2, h3, -⟩ := id hc2
  refine ⟨hc2.setF v', ?_, ?_, ?_⟩
  · have := g.ltF
    rw [Array.getElem?_setIfInBounds_self_of_lt (by omega)]
  · have := ownsRow_setT (i := g.iF) h2 (by omega) hown' v'
    simpa using this
  · refine ((hb.mono hlo).trans ?_).trans (Below.setCell_lo _ hc.1)
    refine ⟨hg.os, hg.tape, hg.output, hg.size, fun k hk => ?_⟩
    refine hg.block k (Nat.lt_of_lt_of_le hk (Nat.le_trans hlo hb.size)) ?_
    intro e
    rcases hown1.2 with ⟨rfl, -⟩ | ⟨gg, cap, cur, rfl, r2, -⟩
    · cases e
    · cases e; have r3 : lo ≤ gg := r2; have hk' : gg < lo := hk; omega

/-- A boost put behind the others. -/
theorem QCore.boost {w w' : World} {lo bq : Nat} {g : Geo} {q : Q} {c : Array Value} {bm : Nat} {vF : Value} (hc : QCore w lo bq g q c bm) (hF : c[g.iF]? = some vF) (hown : w.ownsRow lo 9 1 vF q.fields.length (q.fields.map Value.string))
    {Lp : List (ByteArray × Value)} (hm : MapIs w bm Lp) (hl : Lp.length = q.boosts.length) (hL : ∀ (i : Nat) (k : ByteArray) (x : Nat), q.boosts[i]? = some (k, x) → ∃ p : Nat, lo ≤ p ∧ Lp[i]? = some (k, Value.pointer (some ⟨p, 0, none⟩)) ∧ w.heap[p]? = some (.cells #[.float .f64 x] 22 (0, 0)))
    {s : ByteArray} {x p : Nat} (hp : lo ≤ p) (hpb : w.heap[p]? = some (.cells #[.float .f64 x] 22 (0, 0))) (hm' : MapIs w' bm (Lp ++ [(s, Value.pointer (some ⟨p, 0, none⟩))])) (hg : w.grownBy w' (some bm)) :
    QAt w' lo bq g { q with boosts := q.boosts ++ [(s, x)] } ∧ (lo ≤ w.heap.size → Below lo w w') := by
  obtain ⟨h1, h2, h3, h4, ⟨L0, hbm, -⟩, h6⟩ := hc
  obtain ⟨es, cl, hb⟩ := hm.block
  have other : ∀ k o, w.heap[k]? = some o → (∀ es cl, o ≠ Obj.map es cl) → w'.heap[k]? = some o := fun k o hk hne =>
    (hg.block k (lt_of_block hk) (by rintro ⟨⟩; rw [hb] at hk; exact hne _ _ (Option.some.inj hk).symm)).trans hk
  have lit : ∀ (p : Nat) (v : Value) (t : Nat), w.heap[p]? = some (.cells #[v] t (0, 0)) → w'.heap[p]? = some (.cells #[v] t (0, 0)) := fun p v t h => other p _ h (fun _ _ e => by cases e)
  refine ⟨⟨c, bm, vF, ⟨h1, other bq _ h2 (fun _ _ e => by cases e), h3, h4, ⟨_, hbm, hm', by simp [hl], fun i k y hi => ?_⟩, fun i u a b d => ?_⟩, hF, ?_⟩, fun hlo => ?_⟩
  · rcases Nat.lt_or_ge i q.boosts.length with hi' | hi'
    · have hi2 : (q.boosts ++ [(s, x)])[i]? = some (k, y) := hi
      rw [List.getElem?_append_left hi'] at hi2
      obtain ⟨p', p5, p6, p7⟩ := hL i k y hi2
      exact ⟨p', p5, by rw [List.getElem?_append_left (by omega)]; exact p6, lit _ _ _ p7⟩
    · have hi2 : (q.boosts ++ [(s, x)])[i]? = some (k, y) := hi
      rw [List.getElem?_append_right hi'] at hi2
      rcases Nat.eq_or_lt_of_le hi' with e | hlt
      · rw [← e] at hi2
        simp at hi2
        obtain ⟨rfl, rfl⟩ := hi2
        refine ⟨p, hp, ?_, lit _ _ _ hpb⟩
        rw [List.getElem?_append_right (by omega), hl, ← e]
        simp
      · rw [List.getElem?_eq_none (by simp; omega)] at hi2; cases hi2
  · have hf := h6 i u a b d
    show FAt w' lo (q.f i) u
    cases hq : q.f i with
    | val v => rw [hq] at hf; exact hf
    | nop => rw [hq] at hf; exact hf
    | opt t v =>
      rw [hq] at hf
      obtain ⟨p', p1, p2, p3, p4, p5⟩ := hf
      exact ⟨p', p1, p2, p3, p4, lit _ _ _ p5⟩
  · refine ⟨hown.1, ?_⟩
    rcases hown.2 with h0 | ⟨gg, cap, cur, r1, r2, r3, r4⟩
    · exact Or.inl h0
    · exact Or.inr ⟨gg, cap, cur, r1, r2, other gg _ r3 (fun _ _ e => by cases e), r4⟩
  · exact ⟨hg.os, hg.tape, hg.output, hg.size, fun k hk => hg.block k (by omega) (by rintro ⟨⟩; omega)⟩

theorem QCore.cellB {w : World} {lo bq : Nat} {g : Geo} {q : Q} {c : Array Value} {bm : Nat} (h : QCore w lo bq g q c bm) : w.cell? ⟨bq, g.iB, none⟩ = some (.map (some bm)) := by
  obtain ⟨h1, h2, h3, h4, -⟩ := h
  rw [cell_of_row w bq g.iB c g.T (0, 0) h2]; exact h4
theorem heap_alloc_two (w : World) (a b : Obj) : ((w.alloc a).alloc b).heap[w.heap.size + 1]? = some b := by
  have := heap_alloc_new (w.alloc a) b
  simpa using this
theorem box_kept {w w' : World} {a b : Obj} {lo : Nat} {v : Value} {n : Nat} {xs : List Value} (h : w.ownsRow lo 9 1 v n xs) (hg : ((w.alloc a).alloc b).grownBy w' v.ownBlock) {bq i : Nat} (hq : bq < w.heap.size) (u : Value) :
    (w'.setCell ⟨bq, i, none⟩ u).heap[w.heap.size]? = some a := by
  rw [heap_setCell_other _ _ _ _ (by simp; omega), hg.block _ (by simp; omega) ?_]
  · have := (MapKept.heap_alloc (w.alloc a) b).2 w.heap.size (by simp)
    rw [this]
    exact heap_alloc_new w a
  · intro e
    rcases h.2 with ⟨rfl, -⟩ | ⟨gg, cap, cur, rfl, r2, r3, -⟩
    · cases e
    · have e1 : w.heap.size = gg := by simpa [Value.ownBlock] using e
      have := lt_of_block r3
      omega
theorem QCore.cellF {w : World} {lo bq : Nat} {g : Geo} {q : Q} {c : Array Value} {bm : Nat} {vF : Value} (h : QCore w lo bq g q c bm) (hF : c[g.iF]? = some vF) : w.cell? ⟨bq, g.iF, none⟩ = some vF ∧ w.frozen? ⟨bq, g.iF, none⟩ = false := by
  obtain ⟨h1, h2, h3, -⟩ := h
  exact ⟨by rw [cell_of_row w bq g.iF c g.T (0, 0) h2]; exact hF, frozen_of_row w bq g.iF c g.T h2⟩
theorem QCore.after {w w1 w2 : World} {lo bq : Nat} {g : Geo} {q : Q} {c : Array Value} {bm : Nat} {vF : Value} (h : QCore w lo bq g q c bm) (hown : w.ownsRow lo 9 1 vF q.fields.length (q.fields.map Value.string)) (hb : Below w.heap.size w w1) (hg : w1.grownBy w2 vF.ownBlock) : QCore w2 lo bq g q c bm :=
  (h.kept (loose_none w) (below_grown hb)).kept (ownsRow_loose (ownsRow_kept hown hb)) hg

set_option maxHeartbeats 400000 in
theorem set_34 {w : World} {lo bq : Nat} {q : Q} (h : QAt w lo bq gMM q) (hlo : lo ≤ w.heap.size) (hn : q.fields.length ≤ 4194304) (s : ByteArray) :
    Calls Tryz.prog 34 #[.pointer (some ⟨bq, 0, none⟩), .string s] w (RetQ w lo bq gMM { q with fields := q.fields ++ [s] }) := by
  obtain ⟨c, bm, vF, hc, hF, hown⟩ := h
  obtain ⟨hcs, hfr⟩ := hc.cellF hF
  have hlt := lt_of_block hc.2.1
  have HO := hide hown
  have HC := hide hc
  have HF := hide hF
  clear hc hF hown
  dsimp only [gMM] at hcs hfr
  go_enter Tryz.func34, Tryz.ntmps34
  go_wp2_with (first | (at_builtin; refine wpList_append_blk _ rfl _ _ 23 rfl lo 9 _ 1 16 Tryz.underlying23 Tryz.info9 rfl (by decide) vF _ (q.fields.map Value.string) rfl ((HO.out.alloc _)) w.heap.size 1 1 #[.string s] 9 rfl (heap_alloc_new _ _) rfl (by simp [Value.oneCell']) (by omega) (by omega) (by simp; omega) ?_; intro v' w' hown' hgrow; have HG := hide hgrow; have HO' := hide hown'; obtain ⟨ao, cp, rfl, -⟩ := World.ownsRow.form hown'; clear hown' hgrow; obtain ⟨hcs2, hfr2⟩ := (HC.out.after HO.out (by go_grown) HG.out).cellF HF.out; dsimp only [gMM] at hcs2 hfr2) | go_in)
  go_returns
  obtain ⟨p1, p2, p3, p4⟩ := QCore.push HC.out HO.out hlo (by go_grown) HO'.out HG.out
  exact ⟨rfl, ⟨_, _, _, p1, p2, p3⟩, p4⟩

set_option maxHeartbeats 800000 in
theorem set_35 {w : World} {lo bq : Nat} {q : Q} (h : QAt w lo bq gMM q) (hlo : lo ≤ w.heap.size) (hn : q.fields.length ≤ 4194304) (hn2 : q.boosts.length ≤ 4194304) (s : ByteArray) (hs : s.size ≤ maxLen) (x : Nat) :
    Calls Tryz.prog 35 #[.pointer (some ⟨bq, 0, none⟩), .string s, .float .f64 x] w (RetQ w lo bq gMM { q with fields := q.fields ++ [s], boosts := q.boosts ++ [(s, x)] }) := by
  obtain ⟨c, bm, vF, hc, hF, hown⟩ := h
  obtain ⟨hcs, hfr⟩ := hc.cellF hF
  have hlt := lt_of_block hc.2.1
  have HO := hide hown
  have HC := hide hc
  have HF := hide hF
  clear hc hF hown
  dsimp only [gMM] at hcs hfr
  go_enter Tryz.func35, Tryz.ntmps35
  go_wp2_with (first | (at_builtin; refine wpList_append_blk _ rfl _ _ 23 rfl lo 9 _ 1 16 Tryz.underlying23 Tryz.info9 rfl (by decide) vF _ (q.fields.map Value.string) rfl ((HO.out.alloc _).alloc _) (w.heap.size + 1) 1 1 #[.string s] 9 rfl (heap_alloc_two _ _ _) rfl (by simp [Value.oneCell']) (by omega) (by omega) (by simp; omega) ?_; intro v' w' hown' hgrow; have HG := hide hgrow; have HO' := hide hown'; obtain ⟨ao, cp, rfl, -⟩ := World.ownsRow.form hown'; clear hown' hgrow; obtain ⟨hcs2, hfr2⟩ := (HC.out.after HO.out (by go_grown) HG.out).cellF HF.out; have hcB := (HC.out.after HO.out (by go_grown) HG.out).cellB; dsimp only [gMM] at hcs2 hfr2 hcB) | (at_mapUpdate; obtain ⟨p1, p2, p3, p4⟩ := QCore.push HC.out HO.out hlo (by go_grown) HO'.out HG.out; have P1 := hide p1; have P2 := hide p2; have P3 := hide p3; have P4 := hide p4; obtain ⟨Lp, b1, b2, b3, b4⟩ := p1.2.2.2.2.1; have B2 := hide b2; have B3 := hide b3; have B4 := hide b4; clear p1 p2 p3 p4 b2 b3 b4; refine wpList_mapUpdate_own _ rfl _ _ _ 104 rfl 9 105 key9 Tryz.underlying104 RV bm Lp.length (putAll Lp) rfl B2.out (by rw [B3.out]; exact Nat.lt_of_le_of_lt hn2 (by unfold maxLen; omega)) _ _ (KL s) rfl rfl (key_ok hs) (.held (.pointer (some ⟨w.heap.size, 0, none⟩))) [] rfl ?_; intro w4 hm4 hg4; have HM4 := hide hm4; have HG4 := hide hg4; clear hm4 hg4) | go_in)
  go_returns
  have hm' : MapIs w4 bm (Lp ++ [(s, Value.pointer (some ⟨w.heap.size, 0, none⟩))]) := by
    unfold MapIs
    rw [putAll_snoc, List.length_append]
    exact HM4.out
  have hpb : (w'.setCell ⟨bq, gMM.iF, none⟩ (Value.slice ao (q.fields.length + 1) cp)).heap[w.heap.size]? = some (.cells #[.float .f64 x] 22 (0, 0)) :=
    box_kept HO.out HG.out hlt _
  obtain ⟨r1, r2⟩ := QCore.boost P1.out P2.out P3.out B2.out B3.out B4.out hlo hpb hm' HG4.out
  exact ⟨rfl, r1, P4.out.trans (r2 (Nat.le_trans hlo P4.out.size))⟩
set_option maxHeartbeats 400000 in
theorem set_55 {w : World} {lo bq : Nat} {q : Q} (h : QAt w lo bq gCF q) (hlo : lo ≤ w.heap.size) (hn : q.fields.length ≤ 4194304) (s : ByteArray) :
    Calls Tryz.prog 55 #[.pointer (some ⟨bq, 0, none⟩), .string s] w (RetQ w lo bq gCF { q with fields := q.fields ++ [s] }) := by
  obtain ⟨c, bm, vF, hc, hF, hown⟩ := h
  obtain ⟨hcs, hfr⟩ := hc.cellF hF
  have hlt := lt_of_block hc.2.1
  have HO := hide hown
  have HC := hide hc
  have HF := hide hF
  clear hc hF hown
  dsimp only [gCF] at hcs hfr
  go_enter Tryz.func55, Tryz.ntmps55
  go_wp2_with (first | (at_builtin; refine wpList_append_blk _ rfl _ _ 23 rfl lo 9 _ 1 16 Tryz.underlying23 Tryz.info9 rfl (by decide) vF _ (q.fields.map Value.string) rfl ((HO.out.alloc _)) w.heap.size 1 1 #[.string s] 9 rfl (heap_alloc_new _ _) rfl (by simp [Value.oneCell']) (by omega) (by omega) (by simp; omega) ?_; intro v' w' hown' hgrow; have HG := hide hgrow; have HO' := hide hown'; obtain ⟨ao, cp, rfl, -⟩ := World.ownsRow.form hown'; clear hown' hgrow; obtain ⟨hcs2, hfr2⟩ := (HC.out.after HO.out (by go_grown) HG.out).cellF HF.out; dsimp only [gCF] at hcs2 hfr2) | go_in)
  go_returns
  obtain ⟨p1, p2, p3, p4⟩ := QCore.push HC.out HO.out hlo (by go_grown) HO'.out HG.out
  exact ⟨rfl, ⟨_, _, _, p1, p2, p3⟩, p4⟩

set_option maxHeartbeats 800000 in
theorem set_56 {w : World} {lo bq : Nat} {q : Q} (h : QAt w lo bq gCF q) (hlo : lo ≤ w.heap.size) (hn : q.fields.length ≤ 4194304) (hn2 : q.boosts.length ≤ 4194304) (s : ByteArray) (hs : s.size ≤ maxLen) (x : Nat) :
    Calls Tryz.prog 56 #[.pointer (some ⟨bq, 0, none⟩), .string s, .float .f64 x] w (RetQ w lo bq gCF { q with fields := q.fields ++ [s], boosts := q.boosts ++ [(s, x)] }) := by
  obtain ⟨c, bm, vF, hc, hF, hown⟩ := h
  obtain ⟨hcs, hfr⟩ := hc.cellF hF
  have hlt := lt_of_block hc.2.1
  have HO := hide hown
  have HC := hide hc
  have HF := hide hF
  clear hc hF hown
  dsimp only [gCF] at hcs hfr
  go_enter Tryz.func56, Tryz.ntmps56
  go_wp2_with (first | (at_builtin; refine wpList_append_blk _ rfl _ _ 23 rfl lo 9 _ 1 16 Tryz.underlying23 Tryz.info9 rfl (by decide) vF _ (q.fields.map Value.string) rfl ((HO.out.alloc _).alloc _) (w.heap.size + 1) 1 1 #[.string s] 9 rfl (heap_alloc_two _ _ _) rfl (by simp [Value.oneCell']) (by omega) (by omega) (by simp; omega) ?_; intro v' w' hown' hgrow; have HG := hide hgrow; have HO' := hide hown'; obtain ⟨ao, cp, rfl, -⟩ := World.ownsRow.form hown'; clear hown' hgrow; obtain ⟨hcs2, hfr2⟩ := (HC.out.after HO.out (by go_grown) HG.out).cellF HF.out; have hcB := (HC.out.after HO.out (by go_grown) HG.out).cellB; dsimp only [gCF] at hcs2 hfr2 hcB) | (at_mapUpdate; obtain ⟨p1, p2, p3, p4⟩ := QCore.push HC.out HO.out hlo (by go_grown) HO'.out HG.out; have P1 := hide p1; have P2 := hide p2; have P3 := hide p3; have P4 := hide p4; obtain ⟨Lp, b1, b2, b3, b4⟩ := p1.2.2.2.2.1; have B2 := hide b2; have B3 := hide b3; have B4 := hide b4; clear p1 p2 p3 p4 b2 b3 b4; refine wpList_mapUpdate_own _ rfl _ _ _ 104 rfl 9 105 key9 Tryz.underlying104 RV bm Lp.length (putAll Lp) rfl B2.out (by rw [B3.out]; exact Nat.lt_of_le_of_lt hn2 (by unfold maxLen; omega)) _ _ (KL s) rfl rfl (key_ok hs) (.held (.pointer (some ⟨w.heap.size, 0, none⟩))) [] rfl ?_; intro w4 hm4 hg4; have HM4 := hide hm4; have HG4 := hide hg4; clear hm4 hg4) | go_in)
  go_returns
  have hm' : MapIs w4 bm (Lp ++ [(s, Value.pointer (some ⟨w.heap.size, 0, none⟩))]) := by
    unfold MapIs
    rw [putAll_snoc, List.length_append]
    exact HM4.out
  have hpb : (w'.setCell ⟨bq, gCF.iF, none⟩ (Value.slice ao (q.fields.length + 1) cp)).heap[w.heap.size]? = some (.cells #[.float .f64 x] 22 (0, 0)) :=
    box_kept HO.out HG.out hlt _
  obtain ⟨r1, r2⟩ := QCore.boost P1.out P2.out P3.out B2.out B3.out B4.out hlo hpb hm' HG4.out
  exact ⟨rfl, r1, P4.out.trans (r2 (Nat.le_trans hlo P4.out.size))⟩
set_option maxHeartbeats 400000 in
theorem set_77 {w : World} {lo bq : Nat} {q : Q} (h : QAt w lo bq gSQ q) (hlo : lo ≤ w.heap.size) (hn : q.fields.length ≤ 4194304) (s : ByteArray) :
    Calls Tryz.prog 77 #[.pointer (some ⟨bq, 0, none⟩), .string s] w (RetQ w lo bq gSQ { q with fields := q.fields ++ [s] }) := by
  obtain ⟨c, bm, vF, hc, hF, hown⟩ := h
  obtain ⟨hcs, hfr⟩ := hc.cellF hF
  have hlt := lt_of_block hc.2.1
  have HO := hide hown
  have HC := hide hc
  have HF := hide hF
  clear hc hF hown
  dsimp only [gSQ] at hcs hfr
  go_enter Tryz.func77, Tryz.ntmps77
  go_wp2_with (first | (at_builtin; refine wpList_append_blk _ rfl _ _ 23 rfl lo 9 _ 1 16 Tryz.underlying23 Tryz.info9 rfl (by decide) vF _ (q.fields.map Value.string) rfl ((HO.out.alloc _)) w.heap.size 1 1 #[.string s] 9 rfl (heap_alloc_new _ _) rfl (by simp [Value.oneCell']) (by omega) (by omega) (by simp; omega) ?_; intro v' w' hown' hgrow; have HG := hide hgrow; have HO' := hide hown'; obtain ⟨ao, cp, rfl, -⟩ := World.ownsRow.form hown'; clear hown' hgrow; obtain ⟨hcs2, hfr2⟩ := (HC.out.after HO.out (by go_grown) HG.out).cellF HF.out; dsimp only [gSQ] at hcs2 hfr2) | go_in)
  go_returns
  obtain ⟨p1, p2, p3, p4⟩ := QCore.push HC.out HO.out hlo (by go_grown) HO'.out HG.out
  exact ⟨rfl, ⟨_, _, _, p1, p2, p3⟩, p4⟩

set_option maxHeartbeats 800000 in
theorem set_78 {w : World} {lo bq : Nat} {q : Q} (h : QAt w lo bq gSQ q) (hlo : lo ≤ w.heap.size) (hn : q.fields.length ≤ 4194304) (hn2 : q.boosts.length ≤ 4194304) (s : ByteArray) (hs : s.size ≤ maxLen) (x : Nat) :
    Calls Tryz.prog 78 #[.pointer (some ⟨bq, 0, none⟩), .string s, .float .f64 x] w (RetQ w lo bq gSQ { q with fields := q.fields ++ [s], boosts := q.boosts ++ [(s, x)] }) := by
  obtain ⟨c, bm, vF, hc, hF, hown⟩ := h
  obtain ⟨hcs, hfr⟩ := hc.cellF hF
  have hlt := lt_of_block hc.2.1
  have HO := hide hown
  have HC := hide hc
  have HF := hide hF
  clear hc hF hown
  dsimp only [gSQ] at hcs hfr
  go_enter Tryz.func78, Tryz.ntmps78
  go_wp2_with (first | (at_builtin; refine wpList_append_blk _ rfl _ _ 23 rfl lo 9 _ 1 16 Tryz.underlying23 Tryz.info9 rfl (by decide) vF _ (q.fields.map Value.string) rfl ((HO.out.alloc _).alloc _) (w.heap.size + 1) 1 1 #[.string s] 9 rfl (heap_alloc_two _ _ _) rfl (by simp [Value.oneCell']) (by omega) (by omega) (by simp; omega) ?_; intro v' w' hown' hgrow; have HG := hide hgrow; have HO' := hide hown'; obtain ⟨ao, cp, rfl, -⟩ := World.ownsRow.form hown'; clear hown' hgrow; obtain ⟨hcs2, hfr2⟩ := (HC.out.after HO.out (by go_grown) HG.out).cellF HF.out; have hcB := (HC.out.after HO.out (by go_grown) HG.out).cellB; dsimp only [gSQ] at hcs2 hfr2 hcB) | (at_mapUpdate; obtain ⟨p1, p2, p3, p4⟩ := QCore.push HC.out HO.out hlo (by go_grown) HO'.out HG.out; have P1 := hide p1; have P2 := hide p2; have P3 := hide p3; have P4 := hide p4; obtain ⟨Lp, b1, b2, b3, b4⟩ := p1.2.2.2.2.1; have B2 := hide b2; have B3 := hide b3; have B4 := hide b4; clear p1 p2 p3 p4 b2 b3 b4; refine wpList_mapUpdate_own _ rfl _ _ _ 104 rfl 9 105 key9 Tryz.underlying104 RV bm Lp.length (putAll Lp) rfl B2.out (by rw [B3.out]; exact Nat.lt_of_le_of_lt hn2 (by unfold maxLen; omega)) _ _ (KL s) rfl rfl (key_ok hs) (.held (.pointer (some ⟨w.heap.size, 0, none⟩))) [] rfl ?_; intro w4 hm4 hg4; have HM4 := hide hm4; have HG4 := hide hg4; clear hm4 hg4) | go_in)
  go_returns
  have hm' : MapIs w4 bm (Lp ++ [(s, Value.pointer (some ⟨w.heap.size, 0, none⟩))]) := by
    unfold MapIs
    rw [putAll_snoc, List.length_append]
    exact HM4.out
  have hpb : (w'.setCell ⟨bq, gSQ.iF, none⟩ (Value.slice ao (q.fields.length + 1) cp)).heap[w.heap.size]? = some (.cells #[.float .f64 x] 22 (0, 0)) :=
    box_kept HO.out HG.out hlt _
  obtain ⟨r1, r2⟩ := QCore.boost P1.out P2.out P3.out B2.out B3.out B4.out hlo hpb hm' HG4.out
  exact ⟨rfl, r1, P4.out.trans (r2 (Nat.le_trans hlo P4.out.size))⟩
set_option maxHeartbeats 400000 in
theorem set_95 {w : World} {lo bq : Nat} {q : Q} (h : QAt w lo bq gQS q) (hlo : lo ≤ w.heap.size) (hn : q.fields.length ≤ 4194304) (s : ByteArray) :
    Calls Tryz.prog 95 #[.pointer (some ⟨bq, 0, none⟩), .string s] w (RetQ w lo bq gQS { q with fields := q.fields ++ [s] }) := by
  obtain ⟨c, bm, vF, hc, hF, hown⟩ := h
  obtain ⟨hcs, hfr⟩ := hc.cellF hF
  have hlt := lt_of_block hc.2.1
  have HO := hide hown
  have HC := hide hc
  have HF := hide hF
  clear hc hF hown
  dsimp only [gQS] at hcs hfr
  go_enter Tryz.func95, Tryz.ntmps95
  go_wp2_with (first | (at_builtin; refine wpList_append_blk _ rfl _ _ 23 rfl lo 9 _ 1 16 Tryz.underlying23 Tryz.info9 rfl (by decide) vF _ (q.fields.map Value.string) rfl ((HO.out.alloc _)) w.heap.size 1 1 #[.string s] 9 rfl (heap_alloc_new _ _) rfl (by simp [Value.oneCell']) (by omega) (by omega) (by simp; omega) ?_; intro v' w' hown' hgrow; have HG := hide hgrow; have HO' := hide hown'; obtain ⟨ao, cp, rfl, -⟩ := World.ownsRow.form hown'; clear hown' hgrow; obtain ⟨hcs2, hfr2⟩ := (HC.out.after HO.out (by go_grown) HG.out).cellF HF.out; dsimp only [gQS] at hcs2 hfr2) | go_in)
  go_returns
  obtain ⟨p1, p2, p3, p4⟩ := QCore.push HC.out HO.out hlo (by go_grown) HO'.out HG.out
  exact ⟨rfl, ⟨_, _, _, p1, p2, p3⟩, p4⟩

set_option maxHeartbeats 800000 in
theorem set_96 {w : World} {lo bq : Nat} {q : Q} (h : QAt w lo bq gQS q) (hlo : lo ≤ w.heap.size) (hn : q.fields.length ≤ 4194304) (hn2 : q.boosts.length ≤ 4194304) (s : ByteArray) (hs : s.size ≤ maxLen) (x : Nat) :
    Calls Tryz.prog 96 #[.pointer (some ⟨bq, 0, none⟩), .string s, .float .f64 x] w (RetQ w lo bq gQS { q with fields := q.fields ++ [s], boosts := q.boosts ++ [(s, x)] }) := by
  obtain ⟨c, bm, vF, hc, hF, hown⟩ := h
  obtain ⟨hcs, hfr⟩ := hc.cellF hF
  have hlt := lt_of_block hc.2.1
  have HO := hide hown
  have HC := hide hc
  have HF := hide hF
  clear hc hF hown
  dsimp only [gQS] at hcs hfr
  go_enter Tryz.func96, Tryz.ntmps96
  go_wp2_with (first | (at_builtin; refine wpList_append_blk _ rfl _ _ 23 rfl lo 9 _ 1 16 Tryz.underlying23 Tryz.info9 rfl (by decide) vF _ (q.fields.map Value.string) rfl ((HO.out.alloc _).alloc _) (w.heap.size + 1) 1 1 #[.string s] 9 rfl (heap_alloc_two _ _ _) rfl (by simp [Value.oneCell']) (by omega) (by omega) (by simp; omega) ?_; intro v' w' hown' hgrow; have HG := hide hgrow; have HO' := hide hown'; obtain ⟨ao, cp, rfl, -⟩ := World.ownsRow.form hown'; clear hown' hgrow; obtain ⟨hcs2, hfr2⟩ := (HC.out.after HO.out (by go_grown) HG.out).cellF HF.out; have hcB := (HC.out.after HO.out (by go_grown) HG.out).cellB; dsimp only [gQS] at hcs2 hfr2 hcB) | (at_mapUpdate; obtain ⟨p1, p2, p3, p4⟩ := QCore.push HC.out HO.out hlo (by go_grown) HO'.out HG.out; have P1 := hide p1; have P2 := hide p2; have P3 := hide p3; have P4 := hide p4; obtain ⟨Lp, b1, b2, b3, b4⟩ := p1.2.2.2.2.1; have B2 := hide b2; have B3 := hide b3; have B4 := hide b4; clear p1 p2 p3 p4 b2 b3 b4; refine wpList_mapUpdate_own _ rfl _ _ _ 104 rfl 9 105 key9 Tryz.underlying104 RV bm Lp.length (putAll Lp) rfl B2.out (by rw [B3.out]; exact Nat.lt_of_le_of_lt hn2 (by unfold maxLen; omega)) _ _ (KL s) rfl rfl (key_ok hs) (.held (.pointer (some ⟨w.heap.size, 0, none⟩))) [] rfl ?_; intro w4 hm4 hg4; have HM4 := hide hm4; have HG4 := hide hg4; clear hm4 hg4) | go_in)
  go_returns
  have hm' : MapIs w4 bm (Lp ++ [(s, Value.pointer (some ⟨w.heap.size, 0, none⟩))]) := by
    unfold MapIs
    rw [putAll_snoc, List.length_append]
    exact HM4.out
  have hpb : (w'.setCell ⟨bq, gQS.iF, none⟩ (Value.slice ao (q.fields.length + 1) cp)).heap[w.heap.size]? = some (.cells #[.float .f64 x] 22 (0, 0)) :=
    box_kept HO.out HG.out hlt _
  obtain ⟨r1, r2⟩ := QCore.boost P1.out P2.out P3.out B2.out B3.out B4.out hlo hpb hm' HG4.out
  exact ⟨rfl, r1, P4.out.trans (r2 (Nat.le_trans hlo P4.out.size))⟩
end Go.Proofs.YtbcnhcpgloncdaaGreatDoor

namespace Go.Proofs.YtbcnhcpgloncdaaGreatDoor
open Go.RowKit Go.Sort Go.ChangeMaps Go.MapKept

/-- A scalar as the plain value that a caller has. -/
def plainV (t : T) : Value := if t.kind = 1 then .iface 9 (.string t.text) else if t.kind = 2 then .iface 22 (.float .f64 t.num) else .iface 4 (.bool t.yes)
def RetVal (u : Value) (w : World) (e : Ending) (w' : World) : Prop := e = .returned u ∧ Below w.heap.size w w'

set_option maxHeartbeats 400000 in
theorem plain_any {w : World} {ok : Nat → Prop} {v : Value} {t : T} (h : TreeAt w ok v t) (hs : t.kind = 1 ∨ t.kind = 2 ∨ t.kind = 3) : Calls Tryz.prog 33 #[v] w (RetVal (plainV t) w) := by
  obtain ⟨a, cap, a', cap', c, rfl, -⟩ := h.open
  unfold plainV
  obtain ⟨k, tx, n, y, ks, ts⟩ := t
  simp only [T.kind, T.text, T.num, T.yes, T.keys, T.kids] at *
  clear h
  rcases hs with rfl | rfl | rfl
  all_goals
    go_enter Tryz.func33, Tryz.ntmps33
    go_wp2
    go_returns
    exact ⟨by simp, by go_grown⟩

def fvOf (v : Value) : FV := match v with
  | .pointer none => .nop
  | v => .val v
theorem fvOf_at (w : World) (lo : Nat) (u : Value) : FAt w lo (fvOf u) u := by
  cases u <;> try rfl
  rename_i p
  cases p <;> rfl
/-- A builder's new query; c: its cells. -/
def initQ (c : Array Value) (ks : List ByteArray) : Q := { fields := ks, boosts := [], f := fun i => fvOf (c[i]?.getD .nilIface) }
def RetNew (w : World) (lo : Nat) (g : Geo) (q : Q) (e : Ending) (w' : World) : Prop := ∃ bq, e = .returned (.pointer (some ⟨bq, 0, none⟩)) ∧ QAt w' lo bq g q ∧ Below w.heap.size w w'

theorem QCore.new {w : World} {lo bq bm : Nat} {g : Geo} (c0 c : Array Value) (h0 : ∀ i, i ≠ g.iF → i ≠ g.iB → c[i]? = c0[i]?) (hN : c.size = g.N) (hq : lo ≤ bq) (hb : w.heap[bq]? = some (.cells c g.T (0, 0))) (hB : c[g.iB]? = some (.map (some bm))) (hm : MapIs w bm []) (hbm : lo ≤ bm) (ks : List ByteArray) :
    QCore w lo bq g (initQ c0 ks) c bm := by
  refine ⟨hq, hb, hN, hB, ⟨[], hbm, hm, rfl, fun i k x hi => by simp [initQ] at hi⟩, fun i u a b hi => ?_⟩
  have := h0 i a b
  rw [hi] at this
  show FAt w lo (fvOf (c0[i]?.getD .nilIface)) u
  rw [← this]
  exact fvOf_at w lo u

theorem strs_news {w w' : World} {ok : Nat → Prop} {ao : Option Addr} {ks : List ByteArray} (hc : ∀ (i : Nat) (k : ByteArray), ks[i]? = some k → ∃ b o, ao = some ⟨b, o, none⟩ ∧ ok b ∧ w.cell? ⟨b, o + i, none⟩ = some (Value.string k)) (hb : Below w.heap.size w w') :
    ∀ j u, (ks.map Value.string)[j]? = some u → ∃ ad : Addr, ao = some ad ∧ w'.cell? (ad.add j) = some u := by
  intro j u hu
  rw [List.getElem?_map] at hu
  cases hk : ks[j]? with
  | none => rw [hk] at hu; cases hu
  | some k =>
    rw [hk] at hu
    cases hu
    obtain ⟨b, o, rfl, -, hcell⟩ := hc j k hk
    refine ⟨_, rfl, ?_⟩
    rw [show (⟨b, o, none⟩ : Addr).add j = ⟨b, o + j, none⟩ by unfold Addr.add; split <;> simp_all]
    exact (hb.cell (World.block_lt_of_cell? w _ hcell)).trans hcell

def cMM (u : Value) : Array Value := #[u, .slice none 0 0, .map none, .string ⟨#[]⟩, .string ⟨#[]⟩, .string ⟨#[]⟩, .pointer none, .pointer none, .string ⟨#[]⟩, .pointer none, .pointer none, .string ⟨#[]⟩, .string ⟨#[]⟩, .string ⟨#[]⟩, .pointer none, .pointer none, .pointer none, .string ⟨#[]⟩, .string ⟨#[]⟩]

theorem ownsRow_nil (w : World) (lo : Nat) : w.ownsRow lo 9 1 (.slice none 0 0) 0 [] := ⟨rfl, Or.inl ⟨rfl, rfl⟩⟩

theorem new_put {w w1 w2 : World} {lo bq bm : Nat} {g : Geo} {c0 c : Array Value} {ks : List ByteArray} {v' : Value} (h : QCore w1 lo bq g (initQ c0 []) c bm) (hb : Below w.heap.size w w1) (hg : w1.grownBy w2 none) (hq : w.heap.size ≤ bq) {n : Nat} (hn : n = ks.length)
    (hown : w2.ownsRow lo 9 1 v' n (ks.map Value.string)) : QAt (w2.setCell ⟨bq, g.iF, none⟩ v') lo bq g (initQ c0 ks) ∧ Below w.heap.size w (w2.setCell ⟨bq, g.iF, none⟩ v') := by
  subst hn
  have h2 := h.kept (loose_none w1) hg
  have hbig := g.big
  obtain ⟨a1, a2, a3, -⟩ := id h2
  have hlt := g.ltF
  refine ⟨⟨c.setIfInBounds g.iF v', bm, v', ?_, ?_, ownsRow_setT a2 (by omega) hown v'⟩, ?_⟩
  · exact h2.setF v'
  · rw [Array.getElem?_setIfInBounds_self_of_lt (by omega)]
  · refine (hb.trans ⟨hg.os, hg.tape, hg.output, hg.size, fun k hk => hg.block k (Nat.lt_of_lt_of_le hk hb.size) (by simp)⟩).trans (Below.setCell_lo _ hq)

set_option maxHeartbeats 400000 in
theorem new_32 {w : World} {ok : Nat → Prop} {lo : Nat} (hlo : lo ≤ w.heap.size) (u : Value) (hu : ∃ t x, u = .iface t x) {v : Value} {ks : List ByteArray} (hk : StrsAt w ok v ks) (hl : ks.length ≤ 4194304) :
    Calls Tryz.prog 32 #[u, v] w (RetNew w lo gMM (initQ (cMM u) ks)) := by
  obtain ⟨ty, x, rfl⟩ := hu
  obtain ⟨ao, cap, rfl, hcap, hc⟩ := hk
  have HC := hide hc
  clear hc
  have hmk : ∀ w : World, (Instr.makeMap 104 none).run Tryz.prog w = .ok (.map (some w.heap.size)) (w.alloc (.map #[] 0)) := run_makeMap 104
  have H1 : Hid (QCore ((w.alloc (.map #[] 0)).alloc (.cells ((cMM (.iface ty x)).setIfInBounds 2 (.map (some w.heap.size))) 109 (0, 0))) lo (w.heap.size + 1) gMM (initQ (cMM (.iface ty x)) []) ((cMM (.iface ty x)).setIfInBounds 2 (.map (some w.heap.size))) w.heap.size) :=
    hide (QCore.new (g := gMM) (cMM (.iface ty x)) ((cMM (.iface ty x)).setIfInBounds 2 (.map (some w.heap.size))) (fun i _ hB => Array.getElem?_setIfInBounds_ne (Ne.symm hB)) rfl (by omega) (heap_alloc_two _ _ _) rfl ((MapIs.made w).same ((MapKept.heap_alloc _ _).2 _ (by simp))) hlo [])
  go_enter Tryz.func32, Tryz.ntmps32
  go_wp2_with (first | (at_builtin; refine wpList_append_any _ rfl _ _ 23 rfl lo 9 _ 1 16 Tryz.underlying23 Tryz.info9 rfl (by decide) (.slice none 0 0) 0 [] rfl (ownsRow_nil _ _) ao ks.length cap (ks.map Value.string) rfl (by simp) (strs_news HC.out (by go_grown)) (by simp [Value.oneCell']) (by omega) (by omega) (by simp; omega) ?_; intro v' w' hown' hgrow; rw [Nat.zero_add, List.nil_append] at hown'; have HG := hide hgrow; have HO' := hide hown'; obtain ⟨a2, cp, rfl, -⟩ := World.ownsRow.form hown'; clear hown' hgrow; obtain ⟨hcs2, hfr2⟩ := (QCore.kept H1.out (loose_none _) HG.out).cellF (vF := .slice none 0 0) rfl; dsimp only [gMM] at hcs2 hfr2) | go_in)
  go_returns
  obtain ⟨r1, r2⟩ := new_put H1.out (w := w) (by go_grown) HG.out (by omega) rfl HO'.out
  exact ⟨_, rfl, r1, r2⟩
def cCF (u : Value) : Array Value := #[u, .slice none 0 0, .map none, .pointer none, .string ⟨#[]⟩, .string ⟨#[]⟩, .string ⟨#[]⟩]

set_option maxHeartbeats 400000 in
theorem new_54 {w : World} {ok : Nat → Prop} {lo : Nat} (hlo : lo ≤ w.heap.size) (u : Value) (hu : ∃ t x, u = .iface t x) {v : Value} {ks : List ByteArray} (hk : StrsAt w ok v ks) (hl : ks.length ≤ 4194304) :
    Calls Tryz.prog 54 #[u, v] w (RetNew w lo gCF (initQ (cCF u) ks)) := by
  obtain ⟨ty, x, rfl⟩ := hu
  obtain ⟨ao, cap, rfl, hcap, hc⟩ := hk
  have HC := hide hc
  clear hc
  have hmk : ∀ w : World, (Instr.makeMap 104 none).run Tryz.prog w = .ok (.map (some w.heap.size)) (w.alloc (.map #[] 0)) := run_makeMap 104
  have H1 : Hid (QCore ((w.alloc (.map #[] 0)).alloc (.cells ((cCF (.iface ty x)).setIfInBounds 2 (.map (some w.heap.size))) 118 (0, 0))) lo (w.heap.size + 1) gCF (initQ (cCF (.iface ty x)) []) ((cCF (.iface ty x)).setIfInBounds 2 (.map (some w.heap.size))) w.heap.size) :=
    hide (QCore.new (g := gCF) (cCF (.iface ty x)) ((cCF (.iface ty x)).setIfInBounds 2 (.map (some w.heap.size))) (fun i _ hB => Array.getElem?_setIfInBounds_ne (Ne.symm hB)) rfl (by omega) (heap_alloc_two _ _ _) rfl ((MapIs.made w).same ((MapKept.heap_alloc _ _).2 _ (by simp))) hlo [])
  go_enter Tryz.func54, Tryz.ntmps54
  go_wp2_with (first | (at_builtin; refine wpList_append_any _ rfl _ _ 23 rfl lo 9 _ 1 16 Tryz.underlying23 Tryz.info9 rfl (by decide) (.slice none 0 0) 0 [] rfl (ownsRow_nil _ _) ao ks.length cap (ks.map Value.string) rfl (by simp) (strs_news HC.out (by go_grown)) (by simp [Value.oneCell']) (by omega) (by omega) (by simp; omega) ?_; intro v' w' hown' hgrow; rw [Nat.zero_add, List.nil_append] at hown'; have HG := hide hgrow; have HO' := hide hown'; obtain ⟨a2, cp, rfl, -⟩ := World.ownsRow.form hown'; clear hown' hgrow; obtain ⟨hcs2, hfr2⟩ := (QCore.kept H1.out (loose_none _) HG.out).cellF (vF := .slice none 0 0) rfl; dsimp only [gCF] at hcs2 hfr2) | go_in)
  go_returns
  obtain ⟨r1, r2⟩ := new_put H1.out (w := w) (by go_grown) HG.out (by omega) rfl HO'.out
  exact ⟨_, rfl, r1, r2⟩
theorem heap_alloc_three (w : World) (a b c : Obj) : (((w.alloc a).alloc b).alloc c).heap[w.heap.size + 2]? = some c := by
  have := heap_alloc_new ((w.alloc a).alloc b) c
  simpa using this
theorem heap_three_old (w : World) (a b c : Obj) : (((w.alloc a).alloc b).alloc c).heap[w.heap.size + 1 - 1]? = some a := by
  rw [Nat.add_sub_cancel, (MapKept.heap_alloc ((w.alloc a).alloc b) c).2 _ (by simp; omega), (MapKept.heap_alloc (w.alloc a) b).2 _ (by simp)]
  exact heap_alloc_new w a
theorem MapIs.same' {w w' : World} {b b' : Nat} {L : List (ByteArray × Value)} (h : MapIs w b L) (he : b = b') (hb : w'.heap[b]? = w.heap[b]?) : MapIs w' b' L := by
  subst he
  exact h.same hb
theorem run_make0 (w : World) : (Instr.makeSlice 23 (.int .i64 0) (.int .i64 0)).run Tryz.prog w = .ok (.slice (some ⟨w.heap.size, 0, none⟩) 0 0) (w.alloc (.cells #[] 9 (0, 0))) := by
  have e : madeCells #[Value.string ⟨#[]⟩] 0 = #[] := by simp [madeCells]
  have h := run_make_row' (P := Tryz.prog) 23 9 (.string ⟨#[]⟩) 16 Tryz.underlying23 Tryz.info9 rfl .i64 .i64 0 (by omega) (by omega) w
  rw [e] at h
  exact h

theorem new_own {w : World} {lo bq bm : Nat} {g : Geo} {c0 c : Array Value} (h : QCore w lo bq g (initQ c0 []) c bm) (hF : c[g.iF]? = some (.slice (some ⟨bm - 1, 0, none⟩) 0 0)) (hr : w.heap[bm - 1]? = some (.cells #[] 9 (0, 0))) (hlo : lo ≤ bm - 1) : QAt w lo bq g (initQ c0 []) :=
  ⟨c, bm, _, h, hF, rfl, Or.inr ⟨bm - 1, 0, #[], rfl, hlo, hr, Nat.le_refl _, Nat.zero_le _, rfl, rfl⟩⟩

def cSQ (u : Value) : Array Value := #[u, .string ⟨#[]⟩, .string ⟨#[]⟩, .string ⟨#[]⟩, .slice none 0 0, .map none, .string ⟨#[]⟩, .string ⟨#[]⟩, .pointer none, .pointer none, .pointer none, .pointer none, .string ⟨#[]⟩, .string ⟨#[]⟩, .pointer none, .int .i64 (-1), .int .i64 (-1), .pointer none]

set_option maxHeartbeats 400000 in
set_option maxRecDepth 100000 in
theorem new_76 {w : World} {lo : Nat} (hlo : lo ≤ w.heap.size) (s : ByteArray) :
    Calls Tryz.prog 76 #[.string s] w (RetNew w lo gSQ (initQ (cSQ (.string s)) [])) := by
  have hmk : ∀ w : World, (Instr.makeMap 104 none).run Tryz.prog w = .ok (.map (some w.heap.size)) (w.alloc (.map #[] 0)) := run_makeMap 104
  have hms := run_make0
  have H1 : Hid (QAt (((w.alloc (.cells #[] 9 (0, 0))).alloc (.map #[] 0)).alloc (.cells (((cSQ (.string s)).setIfInBounds 4 (.slice (some ⟨w.heap.size, 0, none⟩) 0 0)).setIfInBounds 5 (.map (some (w.heap.size + 1)))) 123 (0, 0))) lo (w.heap.size + 2) gSQ (initQ (cSQ (.string s)) [])) :=
    hide (new_own (bm := w.heap.size + 1) (QCore.new (g := gSQ) (cSQ (.string s)) (((cSQ (.string s)).setIfInBounds 4 (.slice (some ⟨w.heap.size, 0, none⟩) 0 0)).setIfInBounds 5 (.map (some (w.heap.size + 1)))) (fun i hF hB => (Array.getElem?_setIfInBounds_ne (Ne.symm hB)).trans (Array.getElem?_setIfInBounds_ne (Ne.symm hF))) rfl (by omega) (heap_alloc_three _ _ _ _) rfl ((MapIs.made (w.alloc (.cells #[] 9 (0, 0)))).same' (by simp) ((MapKept.heap_alloc _ _).2 _ (by simp))) (by omega) []) rfl (heap_three_old _ _ _ _) (by omega))
  go_enter Tryz.func76, Tryz.ntmps76
  go_wp2
  go_returns
  exact ⟨_, rfl, H1.out, by go_grown⟩

def cQS (u : Value) : Array Value := #[u, .string ⟨#[]⟩, .string ⟨#[]⟩, .string ⟨#[]⟩, .string ⟨#[]⟩, .string ⟨#[]⟩, .pointer none, .pointer none, .pointer none, .pointer none, .string ⟨#[]⟩, .pointer none, .string ⟨#[]⟩, .pointer none, .pointer none, .string ⟨#[]⟩, .pointer none, .slice none 0 0, .map none, .pointer none, .string ⟨#[]⟩, .string ⟨#[]⟩, .pointer none, .string ⟨#[]⟩, .string ⟨#[]⟩, .pointer none, .pointer none, .string ⟨#[]⟩]

set_option maxHeartbeats 400000 in
set_option maxRecDepth 100000 in
theorem new_94 {w : World} {lo : Nat} (hlo : lo ≤ w.heap.size) (s : ByteArray) :
    Calls Tryz.prog 94 #[.string s] w (RetNew w lo gQS (initQ (cQS (.string s)) [])) := by
  have hmk : ∀ w : World, (Instr.makeMap 104 none).run Tryz.prog w = .ok (.map (some w.heap.size)) (w.alloc (.map #[] 0)) := run_makeMap 104
  have hms := run_make0
  have H1 : Hid (QAt (((w.alloc (.cells #[] 9 (0, 0))).alloc (.map #[] 0)).alloc (.cells (((cQS (.string s)).setIfInBounds 17 (.slice (some ⟨w.heap.size, 0, none⟩) 0 0)).setIfInBounds 18 (.map (some (w.heap.size + 1)))) 125 (0, 0))) lo (w.heap.size + 2) gQS (initQ (cQS (.string s)) [])) :=
    hide (new_own (bm := w.heap.size + 1) (QCore.new (g := gQS) (cQS (.string s)) (((cQS (.string s)).setIfInBounds 17 (.slice (some ⟨w.heap.size, 0, none⟩) 0 0)).setIfInBounds 18 (.map (some (w.heap.size + 1)))) (fun i hF hB => (Array.getElem?_setIfInBounds_ne (Ne.symm hB)).trans (Array.getElem?_setIfInBounds_ne (Ne.symm hF))) rfl (by omega) (heap_alloc_three _ _ _ _) rfl ((MapIs.made (w.alloc (.cells #[] 9 (0, 0)))).same' (by simp) ((MapKept.heap_alloc _ _).2 _ (by simp))) (by omega) []) rfl (heap_three_old _ _ _ _) (by omega))
  go_enter Tryz.func94, Tryz.ntmps94
  go_wp2
  go_returns
  exact ⟨_, rfl, H1.out, by go_grown⟩

end Go.Proofs.YtbcnhcpgloncdaaGreatDoor
