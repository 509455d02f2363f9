/-
  impl.listOf AND WHAT 't.Kids = append(t.Kids, ..)' DOES.
-/
import Derived.Test.YtbcnhcpgloncdaaGreatDoorQi
import Derived.Deep.AppendLies
import Derived.Deep.RegionLaw
namespace Go.Proofs.YtbcnhcpgloncdaaGreatDoor
open Go.RowKit Go.Sort Go.ChangeMaps Go.MapKept Go.Lib

/-- A row of trees that the call owns; the trees lie beside it. -/
def KidsAt (w : World) (base : Nat) (vK : Value) (kids : List Value) (ts : List T) : Prop :=
  w.ownsRow base 26 6 vK ts.length (cellsOf kids) ∧ TreesAt w (fun j => base ≤ j ∧ vK.ownBlock ≠ some j) kids ts

theorem KidsAt.nil (w : World) (base : Nat) : KidsAt w base (.slice none 0 0) [] [] := ⟨⟨rfl, Or.inl ⟨rfl, rfl⟩⟩, TreesAt.nil _ _⟩

theorem KidsAt.below {w w' : World} {base : Nat} {vK : Value} {kids : List Value} {ts : List T} (h : KidsAt w base vK kids ts) (hb : Below w.heap.size w w') : KidsAt w' base vK kids ts := by
  refine ⟨⟨h.1.1, ?_⟩, h.2.same (Same.of_below hb)⟩
  rcases h.1.2 with h0 | ⟨gg, cap, cur, h1, h2, h3, h4⟩
  · exact Or.inl h0
  · exact Or.inr ⟨gg, cap, cur, h1, h2, (hb.block gg (lt_of_block h3)).trans h3, h4⟩

theorem own_lt {w : World} {base e size : Nat} {v : Value} {n : Nat} {xs : List Value} (h : w.ownsRow base e size v n xs) {g : Nat} (hg : v.ownBlock = some g) : base ≤ g ∧ g < w.heap.size := by
  rcases h.2 with ⟨rfl, -⟩ | ⟨gg, cap, cur, rfl, h2, h3, -⟩
  · cases hg
  · have e : gg = g := by simpa [Value.ownBlock] using hg
    subst e
    exact ⟨h2, lt_of_block h3⟩

/-- A tree laid behind the others. -/
theorem KidsAt.push {w w2 w3 : World} {base : Nat} {vK v : Value} {kids : List Value} {ts : List T} {t : T} {g cap : Nat} (h : KidsAt w base vK kids ts) (hbase : base ≤ w.heap.size) (hb : Below w.heap.size w w2) (ht : TreeAt w2 (newB w.heap.size) v t)
    (hown : w3.ownsRow base 26 6 (.slice (some ⟨g, 0, none⟩) (ts.length + 1) cap) (ts.length + 1) (cellsOf kids ++ v.cells.toList)) (hg : w2.grownBy w3 vK.ownBlock) (hat : vK.ownBlock = some g ∨ g = w2.heap.size) :
    KidsAt w3 base (.slice (some ⟨g, 0, none⟩) (ts.length + 1) cap) (kids ++ [v]) (ts ++ [t]) := by
  have sm : ∀ j, j < w2.heap.size → vK.ownBlock ≠ some j → w3.heap[j]? = w2.heap[j]? := fun j hj hne => hg.block j hj (fun e => hne e.symm)
  refine ⟨by rw [cellsOf_append, cellsOf_one]; simpa using hown, ?_⟩
  have h2 : TreesAt w2 (fun j => base ≤ j ∧ vK.ownBlock ≠ some j ∧ j < w.heap.size) kids ts := (h.2.weaken (fun k hk hlt => ⟨hk.1, hk.2, hlt⟩)).same (fun k hk hlt => hb.block k hlt)
  have h3 : TreesAt w3 (fun j => base ≤ j ∧ vK.ownBlock ≠ some j ∧ j < w.heap.size) kids ts := h2.same (fun k hk hlt => sm k hlt hk.2.1)
  have t2 : TreeAt w2 (fun j => base ≤ j ∧ vK.ownBlock ≠ some j ∧ j < w2.heap.size) v t := ht.weaken (fun k hk hlt => ⟨Nat.le_trans hbase hk, fun e => by have := (own_lt h.1 e).2; unfold newB at hk; omega, hlt⟩)
  have t3 : TreeAt w3 (fun j => base ≤ j ∧ vK.ownBlock ≠ some j ∧ j < w2.heap.size) v t := t2.same (fun k hk hlt => sm k hlt hk.2.1)
  have fin : ∀ j, vK.ownBlock ≠ some j → j < w2.heap.size → (Value.slice (some ⟨g, 0, none⟩) (ts.length + 1) cap).ownBlock ≠ some j := fun j h1 h2 e => by
    have e1 : g = j := by simpa [Value.ownBlock] using e
    subst e1
    rcases hat with h | h
    · exact h1 h
    · omega
  exact (h3.weaken (fun k hk _ => ⟨hk.1, fin k hk.2.1 (Nat.lt_of_lt_of_le hk.2.2 hb.size)⟩)).snoc (t3.weaken (fun k hk _ => ⟨hk.1, fin k hk.2.1 hk.2.2⟩))

/-- A block below the call's own rows stands. -/
theorem KidsAt.far {w w2 w3 : World} {base : Nat} {vK : Value} {kids : List Value} {ts : List T} (h : KidsAt w base vK kids ts) (hb : Below w.heap.size w w2) (hg : w2.grownBy w3 vK.ownBlock) {b : Nat} (h1 : b < base) (h2 : b < w.heap.size) : w3.heap[b]? = w.heap[b]? :=
  (hg.block b (Nat.lt_of_lt_of_le h2 hb.size) (fun e => by have := (own_lt h.1 e.symm).1; omega)).trans (hb.block b h2)
theorem KidsAt.belowPush {w w2 w3 : World} {base n : Nat} {vK : Value} {kids : List Value} {ts : List T} (h : KidsAt w base vK kids ts) (hb : Below w.heap.size w w2) (hg : w2.grownBy w3 vK.ownBlock) (h1 : n ≤ base) (h2 : n ≤ w.heap.size) : Below n w w3 :=
  ⟨hg.os.trans hb.os, hg.tape.trans hb.tape, hg.output.trans hb.output, Nat.le_trans hb.size hg.size, fun k hk => h.far hb hg (by omega) (by omega)⟩

section
variable {P : Program}
/-- append of one element that lies whole in a block of its own, at a step of a region that draws its order: and where the new row lies. -/
theorem step_append_one (w : World) {ops : Array Oper} {o : Oper} {a : Act} {K : Act → World → Prop} {Q : Exit → Act → World → Prop} {E : Prop} (hgd : o.guard = none) (s x : Operand) (t : TypeId)
    (ho : o.op = .call { callee := .builtin .append, args := #[s, x], argTypes := #[t, t] })
    (base : Nat) (e : TypeId) (z : Value) (size bytes : Nat) (ht : P.underlying t = some (.slice e)) (hi : (P.info? e).map (fun i => (i.zero, i.size, i.bytes)) = some (some z, size, bytes))
    (hzs : z.cells.size = size) (hsz : 0 < size)
    (v : Value) (n : Nat) (xs : List Value) (hs : a.eval s = v) (hown : w.ownsRow base e size v n xs)
    (g c : Nat) (news : Array Value) (te : TypeId) (hx : a.eval x = .slice (some ⟨g, 0, none⟩) 1 c) (hblk : w.heap[g]? = some (.cells news te (0, 0))) (hl : news.size = size)
    (h1 : ∀ u ∈ news.toList, u.oneCell' = true)
    (hsmall : (n + 1) * bytes ≤ 140737488355328) (hsmall' : n + 1 ≤ 140737488355328) (hbase : base ≤ w.heap.size)
    (h : ∀ g' cap w', w'.ownsRow base e size (.slice (some ⟨g', 0, none⟩) (n + 1) cap) (n + 1) (xs ++ news.toList) → w.grownBy w' v.ownBlock → (v.ownBlock = some g' ∨ g' = w.heap.size) → K (a.put o.dst (.slice (some ⟨g', 0, none⟩) (n + 1) cap)) w') :
    if Region.wanted o (yielded ops a.tmps) = true then Oper.wp P o a w K Q else E := by
  obtain ⟨i, hi, hz0, hz1, hz2⟩ := info_parts hi
  exact step_append_lies w hgd s x t ho base e i z size bytes ht hi hz0 hz1 hz2 hzs hsz v n xs hs hown ⟨g, 0, none⟩ 1 c news.toList hx (by simpa using hl)
    (fun j u hu => World.news_of_block hblk j u hu) h1 (by omega) (by unfold maxLen; omega) hsmall hbase _ rfl fun g' cap w' h2 h3 h4 _ => h g' cap w' h2 h3 h4

theorem wpList_append_one (w : World) {ops : Array Oper} {rest : List Oper} {o : Oper} {a : Act} {Q : Exit → Act → World → Prop} (hgd : o.guard = none) (s x : Operand) (t : TypeId)
    (ho : o.op = .call { callee := .builtin .append, args := #[s, x], argTypes := #[t, t] })
    (base : Nat) (e : TypeId) (z : Value) (size bytes : Nat) (ht : P.underlying t = some (.slice e)) (hi : (P.info? e).map (fun i => (i.zero, i.size, i.bytes)) = some (some z, size, bytes))
    (hzs : z.cells.size = size) (hsz : 0 < size)
    (v : Value) (n : Nat) (xs : List Value) (hs : a.eval s = v) (hown : w.ownsRow base e size v n xs)
    (g c : Nat) (news : Array Value) (te : TypeId) (hx : a.eval x = .slice (some ⟨g, 0, none⟩) 1 c) (hblk : w.heap[g]? = some (.cells news te (0, 0))) (hl : news.size = size)
    (h1 : ∀ u ∈ news.toList, u.oneCell' = true)
    (hsmall : (n + 1) * bytes ≤ 140737488355328) (hsmall' : n + 1 ≤ 140737488355328) (hbase : base ≤ w.heap.size)
    (h : ∀ g' cap w', w'.ownsRow base e size (.slice (some ⟨g', 0, none⟩) (n + 1) cap) (n + 1) (xs ++ news.toList) → w.grownBy w' v.ownBlock → (v.ownBlock = some g' ∨ g' = w.heap.size) → wpList P ops Q rest (a.put o.dst (.slice (some ⟨g', 0, none⟩) (n + 1) cap)) w') : wpList P ops Q (o :: rest) a w := by
  obtain ⟨i, hi, hz0, hz1, hz2⟩ := info_parts hi
  exact wpList_append_lies w hgd s x t ho base e i z size bytes ht hi hz0 hz1 hz2 hzs hsz v n xs hs hown ⟨g, 0, none⟩ 1 c news.toList hx (by simpa using hl)
    (fun j u hu => World.news_of_block hblk j u hu) h1 (by omega) (by unfold maxLen; omega) hsmall hbase _ rfl fun g' cap w' h2 h3 h4 _ => h g' cap w' h2 h3 h4
end

/-- The block that builds a tree of kids. -/
def KidBlk (w : World) (b : Nat) (k : Int) (vS vK : Value) : Prop := w.heap[b]? = some (.cells #[.int .i64 k, .string ⟨#[]⟩, .float .f64 0, .bool false, vS, vK] 26 (0, 0))

theorem KidsAt.far2 {w : World} {base : Nat} {vK : Value} {kids : List Value} {ts : List T} (h : KidsAt w base vK kids ts) {b i : Nat} (hb : b < base) (u : Value) : KidsAt (w.setCell ⟨b, i, none⟩ u) base vK kids ts := by
  refine ⟨⟨h.1.1, ?_⟩, h.2.same (same_setCell u (fun _ _ _ => rfl) (fun e => by have := e.1; omega))⟩
  rcases h.1.2 with h0 | ⟨gg, cap, cur, h1, h2, h3, h4⟩
  · exact Or.inl h0
  · exact Or.inr ⟨gg, cap, cur, h1, h2, ((grownBy_setCell w b i u).block gg (lt_of_block h3) (by rintro ⟨⟩; omega)).trans h3, h4⟩
/-- A round of 't.Kids = append(t.Kids, ..)'. -/
theorem KidsAt.round {w w2 w3 : World} {base n bt : Nat} {vK v vS : Value} {kk : Int} {kids : List Value} {ts : List T} {t : T} {g cap m : Nat} (h : KidsAt w base vK kids ts) (hm : m = ts.length) (hbase : base ≤ w.heap.size) (hb : Below w.heap.size w w2) (ht : TreeAt w2 (newB w.heap.size) v t)
    (hown : w3.ownsRow base 26 6 (.slice (some ⟨g, 0, none⟩) (m + 1) cap) (m + 1) (cellsOf kids ++ v.cells.toList)) (hg : w2.grownBy w3 vK.ownBlock) (hat : vK.ownBlock = some g ∨ g = w2.heap.size)
    (hblk : KidBlk w bt kk vS vK) (h1 : bt < base) (hn : n ≤ bt) :
    KidBlk (w3.setCell ⟨bt, 5, none⟩ (.slice (some ⟨g, 0, none⟩) (m + 1) cap)) bt kk vS (.slice (some ⟨g, 0, none⟩) (m + 1) cap) ∧
    KidsAt (w3.setCell ⟨bt, 5, none⟩ (.slice (some ⟨g, 0, none⟩) (m + 1) cap)) base (.slice (some ⟨g, 0, none⟩) (m + 1) cap) (kids ++ [v]) (ts ++ [t]) ∧ Below n w (w3.setCell ⟨bt, 5, none⟩ (.slice (some ⟨g, 0, none⟩) (m + 1) cap)) := by
  subst hm
  have hlt := lt_of_block hblk
  have e3 : w3.heap[bt]? = some (.cells #[.int .i64 kk, .string ⟨#[]⟩, .float .f64 0, .bool false, vS, vK] 26 (0, 0)) := (h.far hb hg h1 hlt).trans hblk
  exact ⟨heap_setCell_same _ _ _ _ _ _ e3, (h.push hbase hb ht hown hg hat).far2 h1 _, (h.belowPush hb hg (by omega) (by omega)).trans (Below.setCell_lo _ hn)⟩

set_option maxHeartbeats 2000000 in
set_option maxRecDepth 100000 in
theorem listOf_any (W : World) (ok : Nat → Prop) (v : Value) (ks : List ByteArray) (hv : StrsAt W ok v ks) (hl : ks.length ≤ 1073741824) : Calls Tryz.prog 147 #[v] W (RetLeaf W (tList ks)) := by
  obtain ⟨ao, cap, rfl, hcap, hc⟩ := hv
  have HC := hide hc
  clear hc
  go_enter Tryz.func147, Tryz.ntmps147
  go_wp2_with fail
  go_loopw [9] (fun i wr => ∃ (k : Nat) (vK : Value) (kids : List Value), k ≤ ks.length ∧ i = .int .i64 k ∧ Below (W.heap.size + 1) (W.alloc (.cells #[.int .i64 0, .string ⟨#[]⟩, .float .f64 0, .bool false, .slice none 0 0, .slice none 0 0] 26 (0, 0))) wr ∧ W.heap.size + 2 ≤ wr.heap.size ∧ KidBlk wr (W.heap.size + 1) 4 (.slice none 0 0) vK ∧ KidsAt wr (W.heap.size + 2) vK kids ((ks.take k).map tText)) (fun i _ => ks.length - (intOf i).toNat)
  case atStart => exact ⟨0, _, [], Nat.zero_le _, rfl, by go_grown, by simp, heap_alloc_two _ _ _, KidsAt.nil _ _⟩
  case round =>
    obtain ⟨k, vK, kids, hk, rfl, hbw, hsz, hblk, hkids⟩ := hrel
    have HBW := hide hbw
    have HK := hide hkids
    have HB := hide hblk
    have c5 : wr.cell? ⟨W.heap.size + 1, 5, none⟩ = some vK := by rw [cell_of_row wr _ 5 _ _ _ hblk]; rfl
    have f5 : wr.frozen? ⟨W.heap.size + 1, 5, none⟩ = false := frozen_of_row wr _ 5 _ _ hblk
    have hlen : ((ks.take k).map tText).length = k := by simp; omega
    have HLEN := hide hlen
    clear hbw hblk hlen
    by_cases hlt : k < ks.length
    · obtain ⟨b, o, rfl, hb, hcell⟩ := HC.out k ks[k] (by simp)
      have e0 : wr.cell? ⟨b, o + k, none⟩ = some (.string ks[k]) := by
        have hbl : b < W.heap.size := World.block_lt_of_cell? W _ hcell
        exact (HBW.out.cell (p := ⟨b, o + k, none⟩) (show b < W.heap.size + 1 by omega)).trans ((World.cell?_alloc_lt _ _ _ hbl).trans hcell)
      have i1 : (0 : Int) ≤ (k : Int) := by omega
      have i3 : (k : Int) < (ks.length : Int) := by omega
      clear hcell hkids
      go_wp2_with fail
      go_region_law (first | ((refine step_append_one _ (by rfl) (.tmp 14) (.tmp 18) 24 (by rfl) (W.heap.size + 2) 26 _ 6 88 Tryz.underlying24 Tryz.info26 rfl (by decide) vK _ (cellsOf kids) (by rfl) ((HK.out.below HB1.out).below (by go_grown)).1 w1.heap.size 1 _ 26 (by rfl) (by first | exact heap_alloc_new _ _ | exact (heap_alloc_new w1 _)) rfl (by intro u hu; simp at hu; rcases hu with rfl | rfl | rfl | rfl | rfl | rfl <;> rfl) (by rw [HLEN.out]; omega) (by rw [HLEN.out]; omega) (by have := HB1.out.size; simp at *; omega) ?_; intro g cp w3 hown3 hgrow3 hat3; have HO3 := hide hown3; have HG3 := hide hgrow3; have HA3 := hide hat3; have b3 := HK.out.far (HB1.out.alloc HB1.out.size _) hgrow3 (b := W.heap.size + 1) (by omega) (by omega); have c53 : w3.cell? ⟨W.heap.size + 1, 5, none⟩ = some vK := (World.cell?_of_block b3).trans c5; have f53 : w3.frozen? ⟨W.heap.size + 1, 5, none⟩ = false := (World.frozen?_of_block b3).trans f5; clear b3 hown3 hgrow3 hat3)) | (go_simp; go_at_call 127; refine (treeOf_text _ _).mono ?_; rintro e w1 ⟨v, rfl, ht, hb⟩; obtain ⟨a1, cap1, a2, cap2, cc, rfl, -⟩ := ht.open; have HT := hide ht; have HB1 : Hid (Below wr.heap.size wr w1) := hide (Below.trans (by go_grown) hb); have c5' : w1.cell? ⟨W.heap.size + 1, 5, none⟩ = some vK := (hb.cell (by simp; omega)).trans c5; have f5' : w1.frozen? ⟨W.heap.size + 1, 5, none⟩ = false := (hb.frozen (by simp; omega)).trans f5; have c5a : ∀ o, (w1.alloc o).cell? ⟨W.heap.size + 1, 5, none⟩ = some vK := fun o => (World.cell?_alloc_lt _ _ _ (World.block_lt_of_cell? _ _ c5')).trans c5'; clear ht hb))
      all_goals
        go_wp2_with fail
        go_round
        case rel =>
          obtain ⟨r1, r2, r3⟩ := KidsAt.round (n := W.heap.size + 1) HK.out HLEN.out.symm (by omega) (HB1.out.alloc HB1.out.size _) (HT.out.same (Same.of_below (by go_grown))) (by have := HO3.out; rw [HLEN.out] at this; exact this) HG3.out HA3.out HB.out (by omega) (by omega)
          have e9 : (ks.take (k + 1)).map tText = (ks.take k).map tText ++ [tText ks[k]] := by rw [List.take_succ_eq_append_getElem hlt, List.map_append]; rfl
          rw [← e9] at r2
          exact ⟨k + 1, _, _, by omega, by go_num, HBW.out.trans r3, Nat.le_trans hsz r3.size, r1, r2⟩
        case measure => simp [intOf]; omega
    · have hke : ks.take k = ks := List.take_of_length_le (by omega)
      have HKE : Hid (KidsAt wr (W.heap.size + 2) vK kids (ks.map tText)) := hide (by have := HK.out; rw [hke] at this; exact this)
      obtain ⟨a2, cap2, hvk, -⟩ := World.ownsRow.form HKE.out.1
      rw [List.length_map] at hvk
      subst hvk
      clear hke hkids HK
      have hb0 : wr.heap[W.heap.size]? = some (.cells #[.int .i64 0, .string ⟨#[]⟩, .float .f64 0, .bool false, .slice none 0 0, .slice none 0 0] 26 (0, 0)) := (HBW.out.block _ (by omega)).trans (heap_alloc_new _ _)
      have d0 : wr.cell? ⟨W.heap.size + 1, 0, none⟩ = some (.int .i64 4) := by rw [cell_of_row wr _ 0 _ _ _ HB.out]; rfl
      have d1 : wr.cell? ⟨W.heap.size + 1, 1, none⟩ = some (.string ⟨#[]⟩) := by rw [cell_of_row wr _ 1 _ _ _ HB.out]; rfl
      have d2 : wr.cell? ⟨W.heap.size + 1, 2, none⟩ = some (.float .f64 0) := by rw [cell_of_row wr _ 2 _ _ _ HB.out]; rfl
      have d3 : wr.cell? ⟨W.heap.size + 1, 3, none⟩ = some (.bool false) := by rw [cell_of_row wr _ 3 _ _ _ HB.out]; rfl
      have d4 : wr.cell? ⟨W.heap.size + 1, 4, none⟩ = some (.slice none 0 0) := by rw [cell_of_row wr _ 4 _ _ _ HB.out]; rfl
      have d5 : wr.cell? ⟨W.heap.size + 1, 5, none⟩ = some (.slice a2 ks.length cap2) := by rw [cell_of_row wr _ 5 _ _ _ HB.out]; rfl
      have c0 : wr.cell? ⟨W.heap.size, 0, none⟩ = some (.int .i64 0) := by rw [cell_of_row wr _ 0 _ _ _ hb0]; rfl
      have c1 : wr.cell? ⟨W.heap.size, 1, none⟩ = some (.string ⟨#[]⟩) := by rw [cell_of_row wr _ 1 _ _ _ hb0]; rfl
      have c2 : wr.cell? ⟨W.heap.size, 2, none⟩ = some (.float .f64 0) := by rw [cell_of_row wr _ 2 _ _ _ hb0]; rfl
      have c3 : wr.cell? ⟨W.heap.size, 3, none⟩ = some (.bool false) := by rw [cell_of_row wr _ 3 _ _ _ hb0]; rfl
      have c4 : wr.cell? ⟨W.heap.size, 4, none⟩ = some (.slice none 0 0) := by rw [cell_of_row wr _ 4 _ _ _ hb0]; rfl
      have c5 : wr.cell? ⟨W.heap.size, 5, none⟩ = some (.slice none 0 0) := by rw [cell_of_row wr _ 5 _ _ _ hb0]; rfl
      have hf : ∀ j, wr.frozen? ⟨W.heap.size, j, none⟩ = false := fun j => frozen_of_row wr _ j _ _ hb0
      have HZ := hide (set6 hb0 (.int .i64 4) (.string ⟨#[]⟩) (.float .f64 0) (.bool false) (.slice none 0 0) (.slice a2 ks.length cap2))
      have HS := hide (same6 (ok := newB (W.heap.size + 1)) (w1 := wr) (b := W.heap.size) (by simp [newB]) (.int .i64 4) (.string ⟨#[]⟩) (.float .f64 0) (.bool false) (.slice none 0 0) (.slice a2 ks.length cap2))
      have HL := hide (below6 (w1 := wr) (Nat.le_refl (W.heap.size)) (.int .i64 4) (.string ⟨#[]⟩) (.float .f64 0) (.bool false) (.slice none 0 0) (.slice a2 ks.length cap2))
      clear hb0
      go_wp2_with fail
      generalize ((((((wr.setCell ⟨W.heap.size, 0, none⟩ (.int .i64 4)).setCell ⟨W.heap.size, 1, none⟩ (.string ⟨#[]⟩)).setCell ⟨W.heap.size, 2, none⟩ (.float .f64 0)).setCell ⟨W.heap.size, 3, none⟩ (.bool false)).setCell ⟨W.heap.size, 4, none⟩ (.slice none 0 0)).setCell ⟨W.heap.size, 5, none⟩ (.slice a2 ks.length cap2)) = wz at *
      have e0 : wz.cell? ⟨W.heap.size, 0, none⟩ = some (.int .i64 4) := by rw [cell_of_row wz _ 0 _ _ _ HZ.out]; rfl
      have e1 : wz.cell? ⟨W.heap.size, 1, none⟩ = some (.string ⟨#[]⟩) := by rw [cell_of_row wz _ 1 _ _ _ HZ.out]; rfl
      have e2 : wz.cell? ⟨W.heap.size, 2, none⟩ = some (.float .f64 0) := by rw [cell_of_row wz _ 2 _ _ _ HZ.out]; rfl
      have e3 : wz.cell? ⟨W.heap.size, 3, none⟩ = some (.bool false) := by rw [cell_of_row wz _ 3 _ _ _ HZ.out]; rfl
      have e4 : wz.cell? ⟨W.heap.size, 4, none⟩ = some (.slice none 0 0) := by rw [cell_of_row wz _ 4 _ _ _ HZ.out]; rfl
      have e5 : wz.cell? ⟨W.heap.size, 5, none⟩ = some (.slice a2 ks.length cap2) := by rw [cell_of_row wz _ 5 _ _ _ HZ.out]; rfl
      refine bodyPost_ret (by simp [results, Tryz.results147, go_sem, e0, e1, e2, e3, e4, e5]; try rfl) rfl ?_
      refine ⟨_, rfl, ?_, ?_⟩
      · refine TreeAt.weaken (ok := newB (W.heap.size + 1)) (fun k hk _ => by unfold newB at *; omega) ?_
        refine TreeAt.same HS.out ?_
        exact tree_of_own (t := tList ks) (base := W.heap.size + 2) (ownsRow_nil _ _) HKE.out.1 (HKE.out.2.weaken (fun k hk _ => by unfold newB; omega)) (fun k hk => by cases hk) (fun k hk => by have := (own_lt HKE.out.1 hk).1; unfold newB; omega)
      · exact (Below.trans (by go_grown) (HBW.out.mono (by omega))).trans HL.out
set_option maxHeartbeats 1000000 in
set_option maxRecDepth 100000 in
theorem treeOf_list (w : World) (ok : Nat → Prop) (a : Option Addr) (n c : Nat) (ks : List ByteArray) (hv : StrsAt w ok (.slice a n c) ks) (hl : ks.length ≤ 1073741824) : Calls Tryz.prog 127 #[.iface 23 (.slice a n c)] w (RetLeaf w (tList ks)) := by
  go_enter Tryz.func127, Tryz.ntmps127
  go_wp2_with fail
  refine (listOf_any _ ok _ ks (hv.same (Same.of_below (by go_grown))) hl).mono ?_
  rintro e w1 ⟨v, rfl, ht, hb⟩
  obtain ⟨t, ht0⟩ : ∃ x, x = tList ks := ⟨_, rfl⟩
  rw [← ht0] at ht
  have HTE := hide ht0
  clear ht0
  obtain ⟨a9, cap9, a', cap', c9, rfl, -⟩ := ht.open
  have HT := hide ht
  have HB := hide hb
  have hblk : w1.heap[w.heap.size]? = some (.cells #[.int .i64 0, .string ⟨#[]⟩, .float .f64 0, .bool false, .slice none 0 0, .slice none 0 0] 26 (0, 0)) := (hb.block _ (by simp)).trans (heap_alloc_new _ _)
  clear ht hb
  have c0 : w1.cell? ⟨w.heap.size, 0, none⟩ = some (.int .i64 0) := by rw [cell_of_row w1 _ 0 _ _ _ hblk]; rfl
  have c1 : w1.cell? ⟨w.heap.size, 1, none⟩ = some (.string ⟨#[]⟩) := by rw [cell_of_row w1 _ 1 _ _ _ hblk]; rfl
  have c2 : w1.cell? ⟨w.heap.size, 2, none⟩ = some (.float .f64 0) := by rw [cell_of_row w1 _ 2 _ _ _ hblk]; rfl
  have c3 : w1.cell? ⟨w.heap.size, 3, none⟩ = some (.bool false) := by rw [cell_of_row w1 _ 3 _ _ _ hblk]; rfl
  have c4 : w1.cell? ⟨w.heap.size, 4, none⟩ = some (.slice none 0 0) := by rw [cell_of_row w1 _ 4 _ _ _ hblk]; rfl
  have c5 : w1.cell? ⟨w.heap.size, 5, none⟩ = some (.slice none 0 0) := by rw [cell_of_row w1 _ 5 _ _ _ hblk]; rfl
  have hf : ∀ j, w1.frozen? ⟨w.heap.size, j, none⟩ = false := fun j => frozen_of_row w1 _ j _ _ hblk
  have HZ := hide (set6 hblk (.int .i64 t.kind) (.string t.text) (.float .f64 t.num) (.bool t.yes) (.slice a9 t.keys.length cap9) (.slice a' t.kids.length cap'))
  have HS := hide (same6 (ok := newB (w.heap.size + 1)) (w1 := w1) (b := w.heap.size) (by simp [newB]) (.int .i64 t.kind) (.string t.text) (.float .f64 t.num) (.bool t.yes) (.slice a9 t.keys.length cap9) (.slice a' t.kids.length cap'))
  have HL := hide (below6 (w1 := w1) (Nat.le_refl (w.heap.size)) (.int .i64 t.kind) (.string t.text) (.float .f64 t.num) (.bool t.yes) (.slice a9 t.keys.length cap9) (.slice a' t.kids.length cap'))
  clear hblk
  go_wp2_with fail
  generalize ((((((w1.setCell ⟨w.heap.size, 0, none⟩ (.int .i64 t.kind)).setCell ⟨w.heap.size, 1, none⟩ (.string t.text)).setCell ⟨w.heap.size, 2, none⟩ (.float .f64 t.num)).setCell ⟨w.heap.size, 3, none⟩ (.bool t.yes)).setCell ⟨w.heap.size, 4, none⟩ (.slice a9 t.keys.length cap9)).setCell ⟨w.heap.size, 5, none⟩ (.slice a' t.kids.length cap')) = wz at *
  have e0 : wz.cell? ⟨w.heap.size, 0, none⟩ = some (.int .i64 t.kind) := by rw [cell_of_row wz _ 0 _ _ _ HZ.out]; rfl
  have e1 : wz.cell? ⟨w.heap.size, 1, none⟩ = some (.string t.text) := by rw [cell_of_row wz _ 1 _ _ _ HZ.out]; rfl
  have e2 : wz.cell? ⟨w.heap.size, 2, none⟩ = some (.float .f64 t.num) := by rw [cell_of_row wz _ 2 _ _ _ HZ.out]; rfl
  have e3 : wz.cell? ⟨w.heap.size, 3, none⟩ = some (.bool t.yes) := by rw [cell_of_row wz _ 3 _ _ _ HZ.out]; rfl
  have e4 : wz.cell? ⟨w.heap.size, 4, none⟩ = some (.slice a9 t.keys.length cap9) := by rw [cell_of_row wz _ 4 _ _ _ HZ.out]; rfl
  have e5 : wz.cell? ⟨w.heap.size, 5, none⟩ = some (.slice a' t.kids.length cap') := by rw [cell_of_row wz _ 5 _ _ _ HZ.out]; rfl
  refine bodyPost_ret (by simp [results, Tryz.results127, go_sem, e0, e1, e2, e3, e4, e5]; try rfl) rfl ?_
  refine ⟨_, rfl, ?_, ?_⟩
  · rw [← HTE.out]
    refine TreeAt.weaken (fun k hk _ => ?_) ((HT.out.weaken (ok' := newB (w.heap.size + 1)) (fun k hk _ => by simpa [newB] using hk)).same HS.out)
    unfold newB at *; omega
  · exact (Below.trans (by go_grown) (HB.out.mono (by simp))).trans HL.out

end Go.Proofs.YtbcnhcpgloncdaaGreatDoor
