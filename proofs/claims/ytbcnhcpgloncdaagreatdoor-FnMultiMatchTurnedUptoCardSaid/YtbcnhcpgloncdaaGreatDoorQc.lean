/-
  Field AND FieldWithBoost OF THE FOUR BUILDERS.
-/
import Derived.Test.YtbcnhcpgloncdaaGreatDoorQb
import Derived.Deep.RegionHeld3
namespace Go.Proofs.YtbcnhcpgloncdaaGreatDoor
open Go.RowKit Go.Sort Go.ChangeMaps Go.MapKept

theorem QCore.setF {w : World} {lo bq : Nat} {g : Geo} {q : Q} {c : Array Value} {bm : Nat} (h : QCore w lo bq g q c bm) (v : Value) : QCore (w.setCell ⟨bq, g.iF, none⟩ v) lo bq g q (c.setIfInBounds g.iF v) bm := by
  obtain ⟨h1, h2, h3, h4, h5, h6⟩ := h
  have hg := grownBy_setCell w bq g.iF v
  have hbig := g.big
  have other : ∀ k o, w.heap[k]? = some o → o ≠ Obj.cells c g.T (0, 0) → (w.setCell ⟨bq, g.iF, none⟩ v).heap[k]? = some o := fun k o hk hne =>
    (hg.block k (lt_of_block hk) (by rintro ⟨⟩; rw [h2] at hk; exact hne (Option.some.inj hk).symm)).trans hk
  have fat : ∀ fv u', FAt w lo fv u' → FAt (w.setCell ⟨bq, g.iF, none⟩ v) lo fv u' := fun fv u' hf => by
    cases fv with
    | val v => exact hf
    | nop => exact hf
    | opt t v =>
      obtain ⟨p, p1, p2, p3, p4, p5⟩ := hf
      exact ⟨p, p1, p2, p3, p4, other p _ p5 (by intro e; injection e with e1 e2; have e3 : (_ : Nat) = _ := e2; omega)⟩
  refine ⟨h1, heap_setCell h2, by simpa using h3, ?_, ?_, fun j u' ha hb hj => ?_⟩
  · rw [Array.getElem?_setIfInBounds_ne g.ne]; exact h4
  · obtain ⟨Lp, b1, b2, b3, b4⟩ := h5
    obtain ⟨es, cl, hb⟩ := b2.block
    refine ⟨Lp, b1, b2.same ((other bm _ hb (by intro e; cases e)).trans hb.symm), b3, fun i k y hi => ?_⟩
    obtain ⟨p, p5, p6, p7⟩ := b4 i k y hi
    exact ⟨p, p5, p6, other p _ p7 (by intro e; injection e with e1 e2; have e3 : (_ : Nat) = _ := e2; omega)⟩
  · rw [Array.getElem?_setIfInBounds_ne (Ne.symm ha)] at hj
    exact fat _ _ (h6 j u' ha hb hj)

theorem ownsRow_setT {w : World} {lo bq i : Nat} {t : Nat} {c : Array Value} (hb : w.heap[bq]? = some (.cells c t (0, 0))) (ht : t ≠ 9) {v : Value} {n : Nat} {xs : List Value} (h : w.ownsRow lo 9 1 v n xs) (u : Value) :
    (w.setCell ⟨bq, i, none⟩ u).ownsRow lo 9 1 v n xs := by
  refine ⟨h.1, ?_⟩
  rcases h.2 with h0 | ⟨gg, cap, cur, r1, r2, r3, r4⟩
  · exact Or.inl h0
  · refine Or.inr ⟨gg, cap, cur, r1, r2, ((grownBy_setCell w bq i u).block gg (lt_of_block r3) ?_).trans r3, r4⟩
    rintro ⟨⟩
    rw [hb] at r3
    have := Option.some.inj r3
    injection this with e1 e2
    exact ht e2

/-- A field laid behind the others. -/
theorem QCore.push {w w1 w2 : World} {lo bq : Nat} {g : Geo} {q : Q} {c : Array Value} {bm : Nat} {vF v' : Value} (hc : QCore w lo bq g q c bm) (hown : w.ownsRow lo 9 1 vF q.fields.length (q.fields.map Value.string))
    (hlo : lo ≤ w.heap.size) (hb : Below w.heap.size w w1) {s : ByteArray} (hown' : w2.ownsRow lo 9 1 v' (q.fields.length + 1) (q.fields.map Value.string ++ [.string s])) (hg : w1.grownBy w2 vF.ownBlock) :
    QCore (w2.setCell ⟨bq, g.iF, none⟩ v') lo bq g { q with fields := q.fields ++ [s] } (c.setIfInBounds g.iF v') bm ∧ (c.setIfInBounds g.iF v')[g.iF]? = some v' ∧
    (w2.setCell ⟨bq, g.iF, none⟩ v').ownsRow lo 9 1 v' (q.fields ++ [s]).length ((q.fields ++ [s]).map Value.string) ∧ Below lo w (w2.setCell ⟨bq, g.iF, none⟩ v') := by
  have hc1 := hc.kept (loose_none w) (below_grown hb)
  have hown1 := ownsRow_kept hown hb
  have hc2 := hc1.kept (ownsRow_loose hown1) hg
  have hbig := g.big
  obtain ⟨hc2', h2, h3, -⟩ := id hc2
  refine ⟨hc2.setF v', ?_, ?_, ?_⟩
  · have := g.ltF
    rw [Array.getElem?_setIfInBounds_self_of_lt (by omega)]
  · have := ownsRow_setT (i := g.iF) h2 (by omega) hown' v'
    simpa using this
  · refine ((hb.mono hlo).trans ?_).trans (Below.setCell_lo _ hc.1)
    refine ⟨hg.os, hg.tape, hg.output, hg.size, fun k hk => ?_⟩
    refine hg.block k (Nat.lt_of_lt_of_le hk (Nat.le_trans hlo hb.size)) ?_
    intro e
    rcases hown1.2 with ⟨rfl, -⟩ | ⟨gg, cap, cur, rfl, r2, -⟩
    · cases e
    · cases e; have r3 : lo ≤ gg := r2; have hk' : gg < lo := hk; omega

/-- A boost put behind the others. -/
theorem QCore.boost {w w' : World} {lo bq : Nat} {g : Geo} {q : Q} {c : Array Value} {bm : Nat} {vF : Value} (hc : QCore w lo bq g q c bm) (hF : c[g.iF]? = some vF) (hown : w.ownsRow lo 9 1 vF q.fields.length (q.fields.map Value.string))
    {Lp : List (ByteArray × Value)} (hm : MapIs w bm Lp) (hl : Lp.length = q.boosts.length) (hL : ∀ (i : Nat) (k : ByteArray) (x : Nat), q.boosts[i]? = some (k, x) → ∃ p : Nat, lo ≤ p ∧ Lp[i]? = some (k, Value.pointer (some ⟨p, 0, none⟩)) ∧ w.heap[p]? = some (.cells #[.float .f64 x] 22 (0, 0)))
    {s : ByteArray} {x p : Nat} (hp : lo ≤ p) (hpb : w.heap[p]? = some (.cells #[.float .f64 x] 22 (0, 0))) (hm' : MapIs w' bm (Lp ++ [(s, Value.pointer (some ⟨p, 0, none⟩))])) (hg : w.grownBy w' (some bm)) :
    QAt w' lo bq g { q with boosts := q.boosts ++ [(s, x)] } ∧ (lo ≤ w.heap.size → Below lo w w') := by
  obtain ⟨h1, h2, h3, h4, ⟨L0, hbm, -⟩, h6⟩ := hc
  obtain ⟨es, cl, hb⟩ := hm.block
  have other : ∀ k o, w.heap[k]? = some o → (∀ es cl, o ≠ Obj.map es cl) → w'.heap[k]? = some o := fun k o hk hne =>
    (hg.block k (lt_of_block hk) (by rintro ⟨⟩; rw [hb] at hk; exact hne _ _ (Option.some.inj hk).symm)).trans hk
  have lit : ∀ (p : Nat) (v : Value) (t : Nat), w.heap[p]? = some (.cells #[v] t (0, 0)) → w'.heap[p]? = some (.cells #[v] t (0, 0)) := fun p v t h => other p _ h (fun _ _ e => by cases e)
  refine ⟨⟨c, bm, vF, ⟨h1, other bq _ h2 (fun _ _ e => by cases e), h3, h4, ⟨_, hbm, hm', by simp [hl], fun i k y hi => ?_⟩, fun i u a b d => ?_⟩, hF, ?_⟩, fun hlo => ?_⟩
  · rcases Nat.lt_or_ge i q.boosts.length with hi' | hi'
    · have hi2 : (q.boosts ++ [(s, x)])[i]? = some (k, y) := hi
      rw [List.getElem?_append_left hi'] at hi2
      obtain ⟨p', p5, p6, p7⟩ := hL i k y hi2
      exact ⟨p', p5, by rw [List.getElem?_append_left (by omega)]; exact p6, lit _ _ _ p7⟩
    · have hi2 : (q.boosts ++ [(s, x)])[i]? = some (k, y) := hi
      rw [List.getElem?_append_right hi'] at hi2
      rcases Nat.eq_or_lt_of_le hi' with e | hlt
      · rw [← e] at hi2
        simp at hi2
        obtain ⟨rfl, rfl⟩ := hi2
        refine ⟨p, hp, ?_, lit _ _ _ hpb⟩
        rw [List.getElem?_append_right (by omega), hl, ← e]
        simp
      · rw [List.getElem?_eq_none (by simp; omega)] at hi2; cases hi2
  · have hf := h6 i u a b d
    show FAt w' lo (q.f i) u
    cases hq : q.f i with
    | val v => rw [hq] at hf; exact hf
    | nop => rw [hq] at hf; exact hf
    | opt t v =>
      rw [hq] at hf
      obtain ⟨p', p1, p2, p3, p4, p5⟩ := hf
      exact ⟨p', p1, p2, p3, p4, lit _ _ _ p5⟩
  · refine ⟨hown.1, ?_⟩
    rcases hown.2 with h0 | ⟨gg, cap, cur, r1, r2, r3, r4⟩
    · exact Or.inl h0
    · exact Or.inr ⟨gg, cap, cur, r1, r2, other gg _ r3 (fun _ _ e => by cases e), r4⟩
  · exact ⟨hg.os, hg.tape, hg.output, hg.size, fun k hk => hg.block k (by omega) (by rintro ⟨⟩; omega)⟩

theorem QCore.cellB {w : World} {lo bq : Nat} {g : Geo} {q : Q} {c : Array Value} {bm : Nat} (h : QCore w lo bq g q c bm) : w.cell? ⟨bq, g.iB, none⟩ = some (.map (some bm)) := by
  obtain ⟨h1, h2, h3, h4, -⟩ := h
  rw [cell_of_row w bq g.iB c g.T (0, 0) h2]; exact h4
theorem heap_alloc_two (w : World) (a b : Obj) : ((w.alloc a).alloc b).heap[w.heap.size + 1]? = some b := by
  have := heap_alloc_new (w.alloc a) b
  simpa using this
theorem box_kept {w w' : World} {a b : Obj} {lo : Nat} {v : Value} {n : Nat} {xs : List Value} (h : w.ownsRow lo 9 1 v n xs) (hg : ((w.alloc a).alloc b).grownBy w' v.ownBlock) {bq i : Nat} (hq : bq < w.heap.size) (u : Value) :
    (w'.setCell ⟨bq, i, none⟩ u).heap[w.heap.size]? = some a := by
  rw [heap_setCell_other _ _ _ _ (by simp; omega), hg.block _ (by simp; omega) ?_]
  · have := (MapKept.heap_alloc (w.alloc a) b).2 w.heap.size (by simp)
    rw [this]
    exact heap_alloc_new w a
  · intro e
    rcases h.2 with ⟨rfl, -⟩ | ⟨gg, cap, cur, rfl, r2, r3, -⟩
    · cases e
    · have e1 : w.heap.size = gg := by simpa [Value.ownBlock] using e
      have := lt_of_block r3
      omega
theorem QCore.cellF {w : World} {lo bq : Nat} {g : Geo} {q : Q} {c : Array Value} {bm : Nat} {vF : Value} (h : QCore w lo bq g q c bm) (hF : c[g.iF]? = some vF) : w.cell? ⟨bq, g.iF, none⟩ = some vF ∧ w.frozen? ⟨bq, g.iF, none⟩ = false := by
  obtain ⟨h1, h2, h3, -⟩ := h
  exact ⟨by rw [cell_of_row w bq g.iF c g.T (0, 0) h2]; exact hF, frozen_of_row w bq g.iF c g.T h2⟩
theorem QCore.after {w w1 w2 : World} {lo bq : Nat} {g : Geo} {q : Q} {c : Array Value} {bm : Nat} {vF : Value} (h : QCore w lo bq g q c bm) (hown : w.ownsRow lo 9 1 vF q.fields.length (q.fields.map Value.string)) (hb : Below w.heap.size w w1) (hg : w1.grownBy w2 vF.ownBlock) : QCore w2 lo bq g q c bm :=
  (h.kept (loose_none w) (below_grown hb)).kept (ownsRow_loose (ownsRow_kept hown hb)) hg

set_option maxHeartbeats 400000 in
theorem set_34 {w : World} {lo bq : Nat} {q : Q} (h : QAt w lo bq gMM q) (hlo : lo ≤ w.heap.size) (hn : q.fields.length ≤ 4194304) (s : ByteArray) :
    Calls Tryz.prog 34 #[.pointer (some ⟨bq, 0, none⟩), .string s] w (RetQ w lo bq gMM { q with fields := q.fields ++ [s] }) := by
  obtain ⟨c, bm, vF, hc, hF, hown⟩ := h
  obtain ⟨hcs, hfr⟩ := hc.cellF hF
  have hlt := lt_of_block hc.2.1
  have HO := hide hown
  have HC := hide hc
  have HF := hide hF
  clear hc hF hown
  dsimp only [gMM] at hcs hfr
  go_enter Tryz.func34, Tryz.ntmps34
  go_wp2_with (first | (at_builtin; refine wpList_append_blk _ rfl _ _ 23 rfl lo 9 _ 1 16 Tryz.underlying23 Tryz.info9 rfl (by decide) vF _ (q.fields.map Value.string) rfl ((HO.out.alloc _)) w.heap.size 1 1 #[.string s] 9 rfl (heap_alloc_new _ _) rfl (by simp [Value.oneCell']) (by omega) (by omega) (by simp; omega) ?_; intro v' w' hown' hgrow; have HG := hide hgrow; have HO' := hide hown'; obtain ⟨ao, cp, rfl, -⟩ := World.ownsRow.form hown'; clear hown' hgrow; obtain ⟨hcs2, hfr2⟩ := (HC.out.after HO.out (by go_grown) HG.out).cellF HF.out; dsimp only [gMM] at hcs2 hfr2) | go_in)
  go_returns
  obtain ⟨p1, p2, p3, p4⟩ := QCore.push HC.out HO.out hlo (by go_grown) HO'.out HG.out
  exact ⟨rfl, ⟨_, _, _, p1, p2, p3⟩, p4⟩

set_option maxHeartbeats 800000 in
theorem set_35 {w : World} {lo bq : Nat} {q : Q} (h : QAt w lo bq gMM q) (hlo : lo ≤ w.heap.size) (hn : q.fields.length ≤ 4194304) (hn2 : q.boosts.length ≤ 4194304) (s : ByteArray) (hs : s.size ≤ maxLen) (x : Nat) :
    Calls Tryz.prog 35 #[.pointer (some ⟨bq, 0, none⟩), .string s, .float .f64 x] w (RetQ w lo bq gMM { q with fields := q.fields ++ [s], boosts := q.boosts ++ [(s, x)] }) := by
  obtain ⟨c, bm, vF, hc, hF, hown⟩ := h
  obtain ⟨hcs, hfr⟩ := hc.cellF hF
  have hlt := lt_of_block hc.2.1
  have HO := hide hown
  have HC := hide hc
  have HF := hide hF
  clear hc hF hown
  dsimp only [gMM] at hcs hfr
  go_enter Tryz.func35, Tryz.ntmps35
  go_wp2_with (first | (at_builtin; refine wpList_append_blk _ rfl _ _ 23 rfl lo 9 _ 1 16 Tryz.underlying23 Tryz.info9 rfl (by decide) vF _ (q.fields.map Value.string) rfl ((HO.out.alloc _).alloc _) (w.heap.size + 1) 1 1 #[.string s] 9 rfl (heap_alloc_two _ _ _) rfl (by simp [Value.oneCell']) (by omega) (by omega) (by simp; omega) ?_; intro v' w' hown' hgrow; have HG := hide hgrow; have HO' := hide hown'; obtain ⟨ao, cp, rfl, -⟩ := World.ownsRow.form hown'; clear hown' hgrow; obtain ⟨hcs2, hfr2⟩ := (HC.out.after HO.out (by go_grown) HG.out).cellF HF.out; have hcB := (HC.out.after HO.out (by go_grown) HG.out).cellB; dsimp only [gMM] at hcs2 hfr2 hcB) | (at_mapUpdate; obtain ⟨p1, p2, p3, p4⟩ := QCore.push HC.out HO.out hlo (by go_grown) HO'.out HG.out; have P1 := hide p1; have P2 := hide p2; have P3 := hide p3; have P4 := hide p4; obtain ⟨Lp, b1, b2, b3, b4⟩ := p1.2.2.2.2.1; have B2 := hide b2; have B3 := hide b3; have B4 := hide b4; clear p1 p2 p3 p4 b2 b3 b4; refine wpList_mapUpdate_own _ rfl _ _ _ 104 rfl 9 105 key9 Tryz.underlying104 RV bm Lp.length (putAll Lp) rfl B2.out (by rw [B3.out]; exact Nat.lt_of_le_of_lt hn2 (by unfold maxLen; omega)) _ _ (KL s) rfl rfl (key_ok hs) (.held (.pointer (some ⟨w.heap.size, 0, none⟩))) [] rfl ?_; intro w4 hm4 hg4; have HM4 := hide hm4; have HG4 := hide hg4; clear hm4 hg4) | go_in)
  go_returns
  have hm' : MapIs w4 bm (Lp ++ [(s, Value.pointer (some ⟨w.heap.size, 0, none⟩))]) := by
    unfold MapIs
    rw [putAll_snoc, List.length_append]
    exact HM4.out
  have hpb : (w'.setCell ⟨bq, gMM.iF, none⟩ (Value.slice ao (q.fields.length + 1) cp)).heap[w.heap.size]? = some (.cells #[.float .f64 x] 22 (0, 0)) :=
    box_kept HO.out HG.out hlt _
  obtain ⟨r1, r2⟩ := QCore.boost P1.out P2.out P3.out B2.out B3.out B4.out hlo hpb hm' HG4.out
  exact ⟨rfl, r1, P4.out.trans (r2 (Nat.le_trans hlo P4.out.size))⟩
set_option maxHeartbeats 400000 in
theorem set_55 {w : World} {lo bq : Nat} {q : Q} (h : QAt w lo bq gCF q) (hlo : lo ≤ w.heap.size) (hn : q.fields.length ≤ 4194304) (s : ByteArray) :
    Calls Tryz.prog 55 #[.pointer (some ⟨bq, 0, none⟩), .string s] w (RetQ w lo bq gCF { q with fields := q.fields ++ [s] }) := by
  obtain ⟨c, bm, vF, hc, hF, hown⟩ := h
  obtain ⟨hcs, hfr⟩ := hc.cellF hF
  have hlt := lt_of_block hc.2.1
  have HO := hide hown
  have HC := hide hc
  have HF := hide hF
  clear hc hF hown
  dsimp only [gCF] at hcs hfr
  go_enter Tryz.func55, Tryz.ntmps55
  go_wp2_with (first | (at_builtin; refine wpList_append_blk _ rfl _ _ 23 rfl lo 9 _ 1 16 Tryz.underlying23 Tryz.info9 rfl (by decide) vF _ (q.fields.map Value.string) rfl ((HO.out.alloc _)) w.heap.size 1 1 #[.string s] 9 rfl (heap_alloc_new _ _) rfl (by simp [Value.oneCell']) (by omega) (by omega) (by simp; omega) ?_; intro v' w' hown' hgrow; have HG := hide hgrow; have HO' := hide hown'; obtain ⟨ao, cp, rfl, -⟩ := World.ownsRow.form hown'; clear hown' hgrow; obtain ⟨hcs2, hfr2⟩ := (HC.out.after HO.out (by go_grown) HG.out).cellF HF.out; dsimp only [gCF] at hcs2 hfr2) | go_in)
  go_returns
  obtain ⟨p1, p2, p3, p4⟩ := QCore.push HC.out HO.out hlo (by go_grown) HO'.out HG.out
  exact ⟨rfl, ⟨_, _, _, p1, p2, p3⟩, p4⟩

set_option maxHeartbeats 800000 in
theorem set_56 {w : World} {lo bq : Nat} {q : Q} (h : QAt w lo bq gCF q) (hlo : lo ≤ w.heap.size) (hn : q.fields.length ≤ 4194304) (hn2 : q.boosts.length ≤ 4194304) (s : ByteArray) (hs : s.size ≤ maxLen) (x : Nat) :
    Calls Tryz.prog 56 #[.pointer (some ⟨bq, 0, none⟩), .string s, .float .f64 x] w (RetQ w lo bq gCF { q with fields := q.fields ++ [s], boosts := q.boosts ++ [(s, x)] }) := by
  obtain ⟨c, bm, vF, hc, hF, hown⟩ := h
  obtain ⟨hcs, hfr⟩ := hc.cellF hF
  have hlt := lt_of_block hc.2.1
  have HO := hide hown
  have HC := hide hc
  have HF := hide hF
  clear hc hF hown
  dsimp only [gCF] at hcs hfr
  go_enter Tryz.func56, Tryz.ntmps56
  go_wp2_with (first | (at_builtin; refine wpList_append_blk _ rfl _ _ 23 rfl lo 9 _ 1 16 Tryz.underlying23 Tryz.info9 rfl (by decide) vF _ (q.fields.map Value.string) rfl ((HO.out.alloc _).alloc _) (w.heap.size + 1) 1 1 #[.string s] 9 rfl (heap_alloc_two _ _ _) rfl (by simp [Value.oneCell']) (by omega) (by omega) (by simp; omega) ?_; intro v' w' hown' hgrow; have HG := hide hgrow; have HO' := hide hown'; obtain ⟨ao, cp, rfl, -⟩ := World.ownsRow.form hown'; clear hown' hgrow; obtain ⟨hcs2, hfr2⟩ := (HC.out.after HO.out (by go_grown) HG.out).cellF HF.out; have hcB := (HC.out.after HO.out (by go_grown) HG.out).cellB; dsimp only [gCF] at hcs2 hfr2 hcB) | (at_mapUpdate; obtain ⟨p1, p2, p3, p4⟩ := QCore.push HC.out HO.out hlo (by go_grown) HO'.out HG.out; have P1 := hide p1; have P2 := hide p2; have P3 := hide p3; have P4 := hide p4; obtain ⟨Lp, b1, b2, b3, b4⟩ := p1.2.2.2.2.1; have B2 := hide b2; have B3 := hide b3; have B4 := hide b4; clear p1 p2 p3 p4 b2 b3 b4; refine wpList_mapUpdate_own _ rfl _ _ _ 104 rfl 9 105 key9 Tryz.underlying104 RV bm Lp.length (putAll Lp) rfl B2.out (by rw [B3.out]; exact Nat.lt_of_le_of_lt hn2 (by unfold maxLen; omega)) _ _ (KL s) rfl rfl (key_ok hs) (.held (.pointer (some ⟨w.heap.size, 0, none⟩))) [] rfl ?_; intro w4 hm4 hg4; have HM4 := hide hm4; have HG4 := hide hg4; clear hm4 hg4) | go_in)
  go_returns
  have hm' : MapIs w4 bm (Lp ++ [(s, Value.pointer (some ⟨w.heap.size, 0, none⟩))]) := by
    unfold MapIs
    rw [putAll_snoc, List.length_append]
    exact HM4.out
  have hpb : (w'.setCell ⟨bq, gCF.iF, none⟩ (Value.slice ao (q.fields.length + 1) cp)).heap[w.heap.size]? = some (.cells #[.float .f64 x] 22 (0, 0)) :=
    box_kept HO.out HG.out hlt _
  obtain ⟨r1, r2⟩ := QCore.boost P1.out P2.out P3.out B2.out B3.out B4.out hlo hpb hm' HG4.out
  exact ⟨rfl, r1, P4.out.trans (r2 (Nat.le_trans hlo P4.out.size))⟩
set_option maxHeartbeats 400000 in
theorem set_77 {w : World} {lo bq : Nat} {q : Q} (h : QAt w lo bq gSQ q) (hlo : lo ≤ w.heap.size) (hn : q.fields.length ≤ 4194304) (s : ByteArray) :
    Calls Tryz.prog 77 #[.pointer (some ⟨bq, 0, none⟩), .string s] w (RetQ w lo bq gSQ { q with fields := q.fields ++ [s] }) := by
  obtain ⟨c, bm, vF, hc, hF, hown⟩ := h
  obtain ⟨hcs, hfr⟩ := hc.cellF hF
  have hlt := lt_of_block hc.2.1
  have HO := hide hown
  have HC := hide hc
  have HF := hide hF
  clear hc hF hown
  dsimp only [gSQ] at hcs hfr
  go_enter Tryz.func77, Tryz.ntmps77
  go_wp2_with (first | (at_builtin; refine wpList_append_blk _ rfl _ _ 23 rfl lo 9 _ 1 16 Tryz.underlying23 Tryz.info9 rfl (by decide) vF _ (q.fields.map Value.string) rfl ((HO.out.alloc _)) w.heap.size 1 1 #[.string s] 9 rfl (heap_alloc_new _ _) rfl (by simp [Value.oneCell']) (by omega) (by omega) (by simp; omega) ?_; intro v' w' hown' hgrow; have HG := hide hgrow; have HO' := hide hown'; obtain ⟨ao, cp, rfl, -⟩ := World.ownsRow.form hown'; clear hown' hgrow; obtain ⟨hcs2, hfr2⟩ := (HC.out.after HO.out (by go_grown) HG.out).cellF HF.out; dsimp only [gSQ] at hcs2 hfr2) | go_in)
  go_returns
  obtain ⟨p1, p2, p3, p4⟩ := QCore.push HC.out HO.out hlo (by go_grown) HO'.out HG.out
  exact ⟨rfl, ⟨_, _, _, p1, p2, p3⟩, p4⟩

set_option maxHeartbeats 800000 in
theorem set_78 {w : World} {lo bq : Nat} {q : Q} (h : QAt w lo bq gSQ q) (hlo : lo ≤ w.heap.size) (hn : q.fields.length ≤ 4194304) (hn2 : q.boosts.length ≤ 4194304) (s : ByteArray) (hs : s.size ≤ maxLen) (x : Nat) :
    Calls Tryz.prog 78 #[.pointer (some ⟨bq, 0, none⟩), .string s, .float .f64 x] w (RetQ w lo bq gSQ { q with fields := q.fields ++ [s], boosts := q.boosts ++ [(s, x)] }) := by
  obtain ⟨c, bm, vF, hc, hF, hown⟩ := h
  obtain ⟨hcs, hfr⟩ := hc.cellF hF
  have hlt := lt_of_block hc.2.1
  have HO := hide hown
  have HC := hide hc
  have HF := hide hF
  clear hc hF hown
  dsimp only [gSQ] at hcs hfr
  go_enter Tryz.func78, Tryz.ntmps78
  go_wp2_with (first | (at_builtin; refine wpList_append_blk _ rfl _ _ 23 rfl lo 9 _ 1 16 Tryz.underlying23 Tryz.info9 rfl (by decide) vF _ (q.fields.map Value.string) rfl ((HO.out.alloc _).alloc _) (w.heap.size + 1) 1 1 #[.string s] 9 rfl (heap_alloc_two _ _ _) rfl (by simp [Value.oneCell']) (by omega) (by omega) (by simp; omega) ?_; intro v' w' hown' hgrow; have HG := hide hgrow; have HO' := hide hown'; obtain ⟨ao, cp, rfl, -⟩ := World.ownsRow.form hown'; clear hown' hgrow; obtain ⟨hcs2, hfr2⟩ := (HC.out.after HO.out (by go_grown) HG.out).cellF HF.out; have hcB := (HC.out.after HO.out (by go_grown) HG.out).cellB; dsimp only [gSQ] at hcs2 hfr2 hcB) | (at_mapUpdate; obtain ⟨p1, p2, p3, p4⟩ := QCore.push HC.out HO.out hlo (by go_grown) HO'.out HG.out; have P1 := hide p1; have P2 := hide p2; have P3 := hide p3; have P4 := hide p4; obtain ⟨Lp, b1, b2, b3, b4⟩ := p1.2.2.2.2.1; have B2 := hide b2; have B3 := hide b3; have B4 := hide b4; clear p1 p2 p3 p4 b2 b3 b4; refine wpList_mapUpdate_own _ rfl _ _ _ 104 rfl 9 105 key9 Tryz.underlying104 RV bm Lp.length (putAll Lp) rfl B2.out (by rw [B3.out]; exact Nat.lt_of_le_of_lt hn2 (by unfold maxLen; omega)) _ _ (KL s) rfl rfl (key_ok hs) (.held (.pointer (some ⟨w.heap.size, 0, none⟩))) [] rfl ?_; intro w4 hm4 hg4; have HM4 := hide hm4; have HG4 := hide hg4; clear hm4 hg4) | go_in)
  go_returns
  have hm' : MapIs w4 bm (Lp ++ [(s, Value.pointer (some ⟨w.heap.size, 0, none⟩))]) := by
    unfold MapIs
    rw [putAll_snoc, List.length_append]
    exact HM4.out
  have hpb : (w'.setCell ⟨bq, gSQ.iF, none⟩ (Value.slice ao (q.fields.length + 1) cp)).heap[w.heap.size]? = some (.cells #[.float .f64 x] 22 (0, 0)) :=
    box_kept HO.out HG.out hlt _
  obtain ⟨r1, r2⟩ := QCore.boost P1.out P2.out P3.out B2.out B3.out B4.out hlo hpb hm' HG4.out
  exact ⟨rfl, r1, P4.out.trans (r2 (Nat.le_trans hlo P4.out.size))⟩
set_option maxHeartbeats 400000 in
theorem set_95 {w : World} {lo bq : Nat} {q : Q} (h : QAt w lo bq gQS q) (hlo : lo ≤ w.heap.size) (hn : q.fields.length ≤ 4194304) (s : ByteArray) :
    Calls Tryz.prog 95 #[.pointer (some ⟨bq, 0, none⟩), .string s] w (RetQ w lo bq gQS { q with fields := q.fields ++ [s] }) := by
  obtain ⟨c, bm, vF, hc, hF, hown⟩ := h
  obtain ⟨hcs, hfr⟩ := hc.cellF hF
  have hlt := lt_of_block hc.2.1
  have HO := hide hown
  have HC := hide hc
  have HF := hide hF
  clear hc hF hown
  dsimp only [gQS] at hcs hfr
  go_enter Tryz.func95, Tryz.ntmps95
  go_wp2_with (first | (at_builtin; refine wpList_append_blk _ rfl _ _ 23 rfl lo 9 _ 1 16 Tryz.underlying23 Tryz.info9 rfl (by decide) vF _ (q.fields.map Value.string) rfl ((HO.out.alloc _)) w.heap.size 1 1 #[.string s] 9 rfl (heap_alloc_new _ _) rfl (by simp [Value.oneCell']) (by omega) (by omega) (by simp; omega) ?_; intro v' w' hown' hgrow; have HG := hide hgrow; have HO' := hide hown'; obtain ⟨ao, cp, rfl, -⟩ := World.ownsRow.form hown'; clear hown' hgrow; obtain ⟨hcs2, hfr2⟩ := (HC.out.after HO.out (by go_grown) HG.out).cellF HF.out; dsimp only [gQS] at hcs2 hfr2) | go_in)
  go_returns
  obtain ⟨p1, p2, p3, p4⟩ := QCore.push HC.out HO.out hlo (by go_grown) HO'.out HG.out
  exact ⟨rfl, ⟨_, _, _, p1, p2, p3⟩, p4⟩

set_option maxHeartbeats 800000 in
theorem set_96 {w : World} {lo bq : Nat} {q : Q} (h : QAt w lo bq gQS q) (hlo : lo ≤ w.heap.size) (hn : q.fields.length ≤ 4194304) (hn2 : q.boosts.length ≤ 4194304) (s : ByteArray) (hs : s.size ≤ maxLen) (x : Nat) :
    Calls Tryz.prog 96 #[.pointer (some ⟨bq, 0, none⟩), .string s, .float .f64 x] w (RetQ w lo bq gQS { q with fields := q.fields ++ [s], boosts := q.boosts ++ [(s, x)] }) := by
  obtain ⟨c, bm, vF, hc, hF, hown⟩ := h
  obtain ⟨hcs, hfr⟩ := hc.cellF hF
  have hlt := lt_of_block hc.2.1
  have HO := hide hown
  have HC := hide hc
  have HF := hide hF
  clear hc hF hown
  dsimp only [gQS] at hcs hfr
  go_enter Tryz.func96, Tryz.ntmps96
  go_wp2_with (first | (at_builtin; refine wpList_append_blk _ rfl _ _ 23 rfl lo 9 _ 1 16 Tryz.underlying23 Tryz.info9 rfl (by decide) vF _ (q.fields.map Value.string) rfl ((HO.out.alloc _).alloc _) (w.heap.size + 1) 1 1 #[.string s] 9 rfl (heap_alloc_two _ _ _) rfl (by simp [Value.oneCell']) (by omega) (by omega) (by simp; omega) ?_; intro v' w' hown' hgrow; have HG := hide hgrow; have HO' := hide hown'; obtain ⟨ao, cp, rfl, -⟩ := World.ownsRow.form hown'; clear hown' hgrow; obtain ⟨hcs2, hfr2⟩ := (HC.out.after HO.out (by go_grown) HG.out).cellF HF.out; have hcB := (HC.out.after HO.out (by go_grown) HG.out).cellB; dsimp only [gQS] at hcs2 hfr2 hcB) | (at_mapUpdate; obtain ⟨p1, p2, p3, p4⟩ := QCore.push HC.out HO.out hlo (by go_grown) HO'.out HG.out; have P1 := hide p1; have P2 := hide p2; have P3 := hide p3; have P4 := hide p4; obtain ⟨Lp, b1, b2, b3, b4⟩ := p1.2.2.2.2.1; have B2 := hide b2; have B3 := hide b3; have B4 := hide b4; clear p1 p2 p3 p4 b2 b3 b4; refine wpList_mapUpdate_own _ rfl _ _ _ 104 rfl 9 105 key9 Tryz.underlying104 RV bm Lp.length (putAll Lp) rfl B2.out (by rw [B3.out]; exact Nat.lt_of_le_of_lt hn2 (by unfold maxLen; omega)) _ _ (KL s) rfl rfl (key_ok hs) (.held (.pointer (some ⟨w.heap.size, 0, none⟩))) [] rfl ?_; intro w4 hm4 hg4; have HM4 := hide hm4; have HG4 := hide hg4; clear hm4 hg4) | go_in)
  go_returns
  have hm' : MapIs w4 bm (Lp ++ [(s, Value.pointer (some ⟨w.heap.size, 0, none⟩))]) := by
    unfold MapIs
    rw [putAll_snoc, List.length_append]
    exact HM4.out
  have hpb : (w'.setCell ⟨bq, gQS.iF, none⟩ (Value.slice ao (q.fields.length + 1) cp)).heap[w.heap.size]? = some (.cells #[.float .f64 x] 22 (0, 0)) :=
    box_kept HO.out HG.out hlt _
  obtain ⟨r1, r2⟩ := QCore.boost P1.out P2.out P3.out B2.out B3.out B4.out hlo hpb hm' HG4.out
  exact ⟨rfl, r1, P4.out.trans (r2 (Nat.le_trans hlo P4.out.size))⟩
end Go.Proofs.YtbcnhcpgloncdaaGreatDoor
