/-
  VARIABLES THAT HOLD TREES; spec.Map.
-/
import Derived.Test.YtbcnhcpgloncdaaGreatDoorA8
namespace Go.Proofs.YtbcnhcpgloncdaaGreatDoor
open Go.RowKit Go.Sort Go.ChangeMaps Go.MapKept Go.Lib

/-- A variable's block that holds a tree. -/
def VarAt (w : World) (ok : Nat → Prop) (b : Nat) (t : T) : Prop :=
  ∃ a cap a' cap', w.heap[b]? = some (.cells #[.int .i64 t.kind, .string t.text, .float .f64 t.num, .bool t.yes, .slice a t.keys.length cap, .slice a' t.kids.length cap'] 26 (0, 0)) ∧ TreeAt w ok (.agg #[.int .i64 t.kind, .string t.text, .float .f64 t.num, .bool t.yes, .slice a t.keys.length cap, .slice a' t.kids.length cap']) t
theorem VarAt.store {w : World} {ok : Nat → Prop} {b : Nat} {t : T} {a a' : Option Addr} {cap cap' : Nat} {z0 z1 z2 z3 z4 z5 : Value} (hb : w.heap[b]? = some (.cells #[z0, z1, z2, z3, z4, z5] 26 (0, 0))) (hok : ¬ ok b)
    (ht : TreeAt w ok (.agg #[.int .i64 t.kind, .string t.text, .float .f64 t.num, .bool t.yes, .slice a t.keys.length cap, .slice a' t.kids.length cap']) t) : VarAt ((((((w.setCell ⟨b, 0, none⟩ (.int .i64 t.kind)).setCell ⟨b, 1, none⟩ (.string t.text)).setCell ⟨b, 2, none⟩ (.float .f64 t.num)).setCell ⟨b, 3, none⟩ (.bool t.yes)).setCell ⟨b, 4, none⟩ (.slice a t.keys.length cap)).setCell ⟨b, 5, none⟩ (.slice a' t.kids.length cap')) ok b t :=
  ⟨a, cap, a', cap', set6 hb _ _ _ _ _ _, ht.same (same6 hok _ _ _ _ _ _)⟩
theorem VarAt.same {w w' : World} {ok : Nat → Prop} {b : Nat} {t : T} (h : VarAt w ok b t) (hb : w'.heap[b]? = w.heap[b]?) (hs : Same ok w w') : VarAt w' ok b t := by
  obtain ⟨a, cap, a', cap', h1, h2⟩ := h
  exact ⟨a, cap, a', cap', hb.trans h1, h2.same hs⟩
theorem VarAt.lt {w : World} {ok : Nat → Prop} {b : Nat} {t : T} (h : VarAt w ok b t) : b < w.heap.size := by
  obtain ⟨a, cap, a', cap', h1, -⟩ := h
  exact lt_of_block h1
theorem VarAt.below {w w' : World} {ok : Nat → Prop} {b : Nat} {t : T} (h : VarAt w ok b t) (hb : Below w.heap.size w w') : VarAt w' ok b t := h.same (hb.block b h.lt) (Same.of_below hb)
theorem zero6 {w w' : World} {b : Nat} {z0 z1 z2 z3 z4 z5 : Value} (h : w.heap[b]? = some (.cells #[z0, z1, z2, z3, z4, z5] 26 (0, 0))) (hb : Below w.heap.size w w') : w'.heap[b]? = some (.cells #[z0, z1, z2, z3, z4, z5] 26 (0, 0)) := (hb.block b (lt_of_block h)).trans h
theorem other6 {w : World} {b c : Nat} (hne : c ≠ b) (v0 v1 v2 v3 v4 v5 : Value) : ((((((w.setCell ⟨b, 0, none⟩ (v0)).setCell ⟨b, 1, none⟩ (v1)).setCell ⟨b, 2, none⟩ (v2)).setCell ⟨b, 3, none⟩ (v3)).setCell ⟨b, 4, none⟩ (v4)).setCell ⟨b, 5, none⟩ (v5)).heap[c]? = w.heap[c]? := by
  refine (heap_setCell_other _ _ _ _ hne).trans ((heap_setCell_other _ _ _ _ hne).trans ((heap_setCell_other _ _ _ _ hne).trans ((heap_setCell_other _ _ _ _ hne).trans ((heap_setCell_other _ _ _ _ hne).trans (heap_setCell_other _ _ _ _ hne)))))

/-- The entries of pairs. -/
def pE (ps : List S) : List (ByteArray × T) := ps.map fun p => (p.name, p.value)
theorem pE_take {ps : List S} {k : Nat} {p : S} (h : ps[k]? = some p) : pE (ps.take (k + 1)) = pE (ps.take k) ++ [(p.name, p.value)] := by
  obtain ⟨hk, rfl⟩ := List.getElem?_eq_some_iff.1 h
  unfold pE
  rw [List.take_succ_eq_append_getElem hk, List.map_append]; rfl
theorem pE_len (ps : List S) (k : Nat) : (mapTree (pE (ps.take k))).keys.length ≤ ps.length := by
  rw [mapTree_len]
  refine Nat.le_trans (mapTree_le _) ?_
  unfold pE
  rw [List.length_map, List.length_take]; omega

set_option maxHeartbeats 4000000 in
set_option maxRecDepth 100000 in
theorem map_any (ok : Nat → Prop) (W : World) (v : Value) (ps : List S) (hok : ∀ k, W.heap.size ≤ k → ok k) (hv : SetsAt W ok v ps) (hl : ps.length ≤ 4194304) :
    Calls Tryz.prog 71 #[v] W (RetTree ok W (mapTree (pE ps))) := by
  have hv' := hv.weaken (ok' := fun j => ok j ∧ j ≠ W.heap.size ∧ j ≠ W.heap.size + 1) fun k h0 h => ⟨h0, by omega, by omega⟩
  obtain ⟨a, cap, c, rfl, hcap, hc, ht⟩ := hv'
  obtain ⟨ok', hok'⟩ : ∃ p : Nat → Prop, p = fun j => ok j ∧ j ≠ W.heap.size ∧ j ≠ W.heap.size + 1 := ⟨_, rfl⟩
  rw [← hok'] at hc ht
  have HOE := hide hok'
  have HOK : Hid (∀ k, W.heap.size + 2 ≤ k → ok' k) := hide (by rw [hok']; intro k hk; exact ⟨hok k (by omega), by omega, by omega⟩)
  have HN0 : Hid (¬ ok' W.heap.size) := hide (by rw [hok']; intro h; exact h.2.1 rfl)
  have HN1 : Hid (¬ ok' (W.heap.size + 1)) := hide (by rw [hok']; intro h; exact h.2.2 rfl)
  have HOO : Hid (∀ k, ok' k → ok k) := hide (by rw [hok']; intro k h; exact h.1)
  have HC := hide hc
  have HT := hide ht
  have HO1 := hide hok
  clear hok hv hc ht hok'
  go_enter Tryz.func71, Tryz.ntmps71
  go_wp2_with fail
  go_loopw [4] (fun i wr => ∃ k : Nat, k ≤ ps.length ∧ i = .int .i64 k ∧ Below W.heap.size W wr ∧ W.heap.size + 2 ≤ wr.heap.size ∧ wr.heap[W.heap.size]? = some (.cells #[.int .i64 0, .string ⟨#[]⟩, .float .f64 0, .bool false, .slice none 0 0, .slice none 0 0] 26 (0, 0)) ∧ VarAt wr ok' (W.heap.size + 1) (mapTree (pE (ps.take k)))) (fun i _ => ps.length - (intOf i).toNat)
  case atStart =>
    refine ⟨0, Nat.zero_le _, rfl, by go_grown, by simp, ?_, none, 0, none, 0, ?_, ?_⟩
    · exact (heap_alloc _ _).2 _ (by simp) |>.trans (heap_alloc_new _ _)
    · rw [show pE (ps.take 0) = [] from rfl, map_nil]; exact heap_alloc_two _ _ _
    · rw [show pE (ps.take 0) = [] from rfl, map_nil]; exact TreeAt.leaf _ _ _ _ _ _ _ _ _ _
  case round =>
    obtain ⟨k, hk, rfl, hbw, hsz, hz, hv⟩ := hrel
    obtain ⟨m, hm⟩ : ∃ x, x = mapTree (pE (ps.take k)) := ⟨_, rfl⟩
    rw [← hm] at hv
    have HM := hide hm
    have HBW := hide hbw
    have HZ0 := hide hz
    have HV := hide hv
    obtain ⟨ma, mc, mb, md, hb1, htm⟩ := hv
    have HTM := hide htm
    have HB1 := hide hb1
    have c0 : wr.cell? ⟨W.heap.size + 1, 0, none⟩ = some (.int .i64 m.kind) := (by rw [cell_of_row wr _ 0 _ _ _ hb1]; rfl)
    have c1 : wr.cell? ⟨W.heap.size + 1, 1, none⟩ = some (.string m.text) := (by rw [cell_of_row wr _ 1 _ _ _ hb1]; rfl)
    have c2 : wr.cell? ⟨W.heap.size + 1, 2, none⟩ = some (.float .f64 m.num) := (by rw [cell_of_row wr _ 2 _ _ _ hb1]; rfl)
    have c3 : wr.cell? ⟨W.heap.size + 1, 3, none⟩ = some (.bool m.yes) := (by rw [cell_of_row wr _ 3 _ _ _ hb1]; rfl)
    have c4 : wr.cell? ⟨W.heap.size + 1, 4, none⟩ = some (.slice ma m.keys.length mc) := (by rw [cell_of_row wr _ 4 _ _ _ hb1]; rfl)
    have c5 : wr.cell? ⟨W.heap.size + 1, 5, none⟩ = some (.slice mb m.kids.length md) := (by rw [cell_of_row wr _ 5 _ _ _ hb1]; rfl)
    have fz : ∀ j, wr.frozen? ⟨W.heap.size + 1, j, none⟩ = false := fun j => frozen_of_row wr _ j _ _ hb1
    clear hm hbw htm hb1
    by_cases hlt : k < ps.length
    · obtain ⟨p, hp⟩ : ∃ p, ps[k]? = some p := ⟨_, List.getElem?_eq_getElem hlt⟩
      obtain ⟨b, q, rfl, hb, hcell⟩ := HC.out k hlt
      obtain ⟨h0, htr⟩ := HT.out k p hp
      have hbl : b < W.heap.size := World.block_lt_of_cell? W _ (hcell 0 (by omega))
      have hold : ∀ j v, W.cell? ⟨b, j, none⟩ = some v → wr.cell? ⟨b, j, none⟩ = some v := fun j v h => (HBW.out.cell (p := ⟨b, j, none⟩) hbl).trans h
      have e0 := hold _ _ (hcell 0 (by omega))
      have e1 := hold _ _ (hcell 1 (by omega))
      have e2 := hold _ _ (hcell 2 (by omega))
      have e3 := hold _ _ (hcell 3 (by omega))
      have e4 := hold _ _ (hcell 4 (by omega))
      have e5 := hold _ _ (hcell 5 (by omega))
      have e6 := hold _ _ (hcell 6 (by omega))
      obtain ⟨xa, xc, ya, yc, cc, hv6, -⟩ := htr.open
      rw [hv6] at htr
      simp only [Value.agg.injEq, Array.mk.injEq, List.cons.injEq, and_true] at hv6
      obtain ⟨v1, v2, v3, v4, v5, v6⟩ := hv6
      rw [h0] at e0
      rw [v1] at e1; rw [v2] at e2; rw [v3] at e3; rw [v4] at e4; rw [v5] at e5; rw [v6] at e6
      simp only [Nat.add_zero] at e0
      have HTR : Hid (TreeAt wr ok' (.agg #[.int .i64 p.value.kind, .string p.value.text, .float .f64 p.value.num, .bool p.value.yes, .slice xa p.value.keys.length xc, .slice ya p.value.kids.length yc]) p.value) := hide (htr.same (Same.of_below HBW.out))
      have HP := hide hp
      have i1 : (0 : Int) ≤ (k : Int) := by omega
      have i3 : (k : Int) < (ps.length : Int) := by omega
      clear hcell h0 htr v1 v2 v3 v4 v5 v6 hp hold hz
      go_wp2_with fail
      go_region_law (go_simp; go_at_call 68; refine (with_any ok' _ p.name (fun j hj => HOK.out j (by have := hsz; simp at hj; omega)) (HTM.out.same (Same.of_below (by go_grown))) (HTR.out.same (Same.of_below (by go_grown))) (by rw [HM.out]; exact mapTree_len _) (by have := pE_len ps k; rw [← HM.out] at this; omega)).mono ?_; rintro e w1 ⟨v, rfl, ht, hb⟩; obtain ⟨n1, hn1⟩ : ∃ x, x = withL m p.name p.value := ⟨_, rfl⟩; rw [← hn1] at ht; obtain ⟨na, nc, nb, nd, cc2, rfl, -⟩ := ht.open; have HT1 := hide ht; have HN := hide hn1; have HB2 : Hid (Below wr.heap.size wr w1) := hide (Below.trans (by go_grown) (hb.mono (by simp))); clear ht hb hn1; have hb2 := zero6 HB1.out HB2.out; have d0 : w1.cell? ⟨W.heap.size + 1, 0, none⟩ = some (.int .i64 m.kind) := (by rw [cell_of_row w1 _ 0 _ _ _ hb2]; rfl); have d1 : w1.cell? ⟨W.heap.size + 1, 1, none⟩ = some (.string m.text) := (by rw [cell_of_row w1 _ 1 _ _ _ hb2]; rfl); have d2 : w1.cell? ⟨W.heap.size + 1, 2, none⟩ = some (.float .f64 m.num) := (by rw [cell_of_row w1 _ 2 _ _ _ hb2]; rfl); have d3 : w1.cell? ⟨W.heap.size + 1, 3, none⟩ = some (.bool m.yes) := (by rw [cell_of_row w1 _ 3 _ _ _ hb2]; rfl); have d4 : w1.cell? ⟨W.heap.size + 1, 4, none⟩ = some (.slice ma m.keys.length mc) := (by rw [cell_of_row w1 _ 4 _ _ _ hb2]; rfl); have d5 : w1.cell? ⟨W.heap.size + 1, 5, none⟩ = some (.slice mb m.kids.length md) := (by rw [cell_of_row w1 _ 5 _ _ _ hb2]; rfl); have fd : ∀ j, w1.frozen? ⟨W.heap.size + 1, j, none⟩ = false := fun j => frozen_of_row w1 _ j _ _ hb2; clear hb2)
      all_goals
        go_wp2_with fail
        go_round
        case rel =>
          refine ⟨k + 1, by omega, by go_num, (HBW.out.trans (HB2.out.mono (by omega))).trans (below6 (by omega) _ _ _ _ _ _), by have := HB2.out.size; simp; omega, (other6 (by omega) _ _ _ _ _ _).trans (zero6 HZ0.out HB2.out), ?_⟩
          have e : mapTree (pE (ps.take (k + 1))) = n1 := by rw [pE_take HP.out, ← with_map, ← HM.out, HN.out]
          rw [e]
          exact VarAt.store (zero6 HB1.out HB2.out) HN1.out HT1.out
        case measure => first | (simp [intOf]; done) | (simp [intOf]; omega)
    · have hke : ps.take k = ps := List.take_of_length_le (by omega)
      have z0 : wr.cell? ⟨W.heap.size, 0, none⟩ = some (.int .i64 0) := (by rw [cell_of_row wr _ 0 _ _ _ hz]; rfl)
      have z1 : wr.cell? ⟨W.heap.size, 1, none⟩ = some (.string ⟨#[]⟩) := (by rw [cell_of_row wr _ 1 _ _ _ hz]; rfl)
      have z2 : wr.cell? ⟨W.heap.size, 2, none⟩ = some (.float .f64 0) := (by rw [cell_of_row wr _ 2 _ _ _ hz]; rfl)
      have z3 : wr.cell? ⟨W.heap.size, 3, none⟩ = some (.bool false) := (by rw [cell_of_row wr _ 3 _ _ _ hz]; rfl)
      have z4 : wr.cell? ⟨W.heap.size, 4, none⟩ = some (.slice none 0 0) := (by rw [cell_of_row wr _ 4 _ _ _ hz]; rfl)
      have z5 : wr.cell? ⟨W.heap.size, 5, none⟩ = some (.slice none 0 0) := (by rw [cell_of_row wr _ 5 _ _ _ hz]; rfl)
      have fr : ∀ j, wr.frozen? ⟨W.heap.size, j, none⟩ = false := fun j => frozen_of_row wr _ j _ _ hz
      have HME : Hid (m = mapTree (pE ps)) := hide (by rw [HM.out, hke])
      clear hz hke
      go_wp2_with fail
      have HZ := hide (set6 HZ0.out (.int .i64 m.kind) (.string m.text) (.float .f64 m.num) (.bool m.yes) (.slice ma m.keys.length mc) (.slice mb m.kids.length md))
      have HS := hide (same6 (ok := ok') (w1 := wr) (b := W.heap.size) (HN0.out) (.int .i64 m.kind) (.string m.text) (.float .f64 m.num) (.bool m.yes) (.slice ma m.keys.length mc) (.slice mb m.kids.length md))
      have HL6 := hide (below6 (n := W.heap.size) (w1 := wr) (b := W.heap.size) (by omega) (.int .i64 m.kind) (.string m.text) (.float .f64 m.num) (.bool m.yes) (.slice ma m.keys.length mc) (.slice mb m.kids.length md))
      generalize ((((((wr.setCell ⟨W.heap.size, 0, none⟩ (.int .i64 m.kind)).setCell ⟨W.heap.size, 1, none⟩ (.string m.text)).setCell ⟨W.heap.size, 2, none⟩ (.float .f64 m.num)).setCell ⟨W.heap.size, 3, none⟩ (.bool m.yes)).setCell ⟨W.heap.size, 4, none⟩ (.slice ma m.keys.length mc)).setCell ⟨W.heap.size, 5, none⟩ (.slice mb m.kids.length md)) = wz at *
      have e0 : wz.cell? ⟨W.heap.size, 0, none⟩ = some (.int .i64 m.kind) := by rw [cell_of_row wz _ 0 _ _ _ HZ.out]; rfl
      have e1 : wz.cell? ⟨W.heap.size, 1, none⟩ = some (.string m.text) := by rw [cell_of_row wz _ 1 _ _ _ HZ.out]; rfl
      have e2 : wz.cell? ⟨W.heap.size, 2, none⟩ = some (.float .f64 m.num) := by rw [cell_of_row wz _ 2 _ _ _ HZ.out]; rfl
      have e3 : wz.cell? ⟨W.heap.size, 3, none⟩ = some (.bool m.yes) := by rw [cell_of_row wz _ 3 _ _ _ HZ.out]; rfl
      have e4 : wz.cell? ⟨W.heap.size, 4, none⟩ = some (.slice ma m.keys.length mc) := by rw [cell_of_row wz _ 4 _ _ _ HZ.out]; rfl
      have e5 : wz.cell? ⟨W.heap.size, 5, none⟩ = some (.slice mb m.kids.length md) := by rw [cell_of_row wz _ 5 _ _ _ HZ.out]; rfl
      refine bodyPost_ret (by simp [results, Tryz.results71, go_sem, e0, e1, e2, e3, e4, e5]; try rfl) rfl ?_
      refine ⟨_, rfl, ?_, ?_⟩
      · rw [← HME.out]
        exact (HTM.out.same HS.out).weaken fun k hk _ => HOO.out k hk
      · exact HBW.out.trans HL6.out
end Go.Proofs.YtbcnhcpgloncdaaGreatDoor

/-
  spec.within.
-/
namespace Go.Proofs.YtbcnhcpgloncdaaGreatDoor
open Go.RowKit Go.Sort Go.ChangeMaps Go.MapKept Go.Lib

theorem new_at (w : World) (c : Array Value) : (w.alloc (.cells c 26 (0, 0))).heap[w.heap.size]? = some (.cells c 26 (0, 0)) ∧ Below w.heap.size w (w.alloc (.cells c 26 (0, 0))) := ⟨heap_alloc_new _ _, by go_grown⟩
/-- The tree under the kind of a query. -/
def withinT (t : T) (key : ByteArray) : Option T := (atT t key).bind fun x => if t.keys.length = 1 ∧ x.kind = 5 then some x else none

theorem within_val {t x : T} {key : ByteArray} {is : Bool} (h : is = (atT t key).isSome) (hx : ∀ u, atT t key = some u → x = u) :
    (withinT t key).isSome = (is && ((t.keys.length : Int) == 1 && x.kind == 5)) ∧ ∀ u, withinT t key = some u → x = u := by
  unfold withinT
  cases ha : atT t key with
  | none => rw [ha] at h; subst h; exact ⟨rfl, fun u hu => by cases hu⟩
  | some y =>
    obtain rfl := hx y ha
    rw [ha] at h; subst h
    simp only [Option.bind_some, Option.isSome_some, Bool.true_and]
    by_cases h1 : t.keys.length = 1 <;> by_cases h2 : x.kind = 5
    · rw [if_pos ⟨h1, h2⟩]; exact ⟨by rw [h1, h2]; rfl, fun u hu => Option.some.inj hu⟩
    · rw [if_neg (fun e => h2 e.2)]; exact ⟨by simp [h2], fun u hu => by cases hu⟩
    · rw [if_neg (fun e => h1 e.1)]; exact ⟨by have : ¬ (t.keys.length : Int) = 1 := by omega
                                               simp [this], fun u hu => by cases hu⟩
    · rw [if_neg (fun e => h2 e.2)]; exact ⟨by simp [h2], fun u hu => by cases hu⟩

set_option maxHeartbeats 4000000 in
set_option maxRecDepth 100000 in
theorem within_any (ok : Nat → Prop) (W : World) (v : Value) (t : T) (key : ByteArray) (hok : ∀ k, W.heap.size ≤ k → ok k) (hv : TreeAt W ok v t) (hkind : t.kind = 5) (hl : t.keys.length = t.kids.length) (hb : t.kids.length ≤ 4611686018427387904) :
    Calls Tryz.prog 129 #[.string key, v] W (RetMaybe ok W (withinT t key)) := by
  have hv' := hv.weaken (ok' := fun j => ok j ∧ j ≠ W.heap.size + 1) fun k h0 h => ⟨h0, by omega⟩
  obtain ⟨ka, kac, ta, tac, c, rfl, -⟩ := hv'.open
  obtain ⟨ok', hok'⟩ : ∃ p : Nat → Prop, p = fun j => ok j ∧ j ≠ W.heap.size + 1 := ⟨_, rfl⟩
  rw [← hok'] at hv'
  have HOK : Hid (∀ k, W.heap.size + 2 ≤ k → ok' k) := hide (by rw [hok']; intro k hk; exact ⟨hok k (by omega), by omega⟩)
  have HN1 : Hid (¬ ok' (W.heap.size + 1)) := hide (by rw [hok']; intro h; exact h.2 rfl)
  have HOO : Hid (∀ k, ok' k → ok k) := hide (by rw [hok']; intro k h; exact h.1)
  have HV := hide hv'
  have hk5 : Hid (t.kind = 5) := hide hkind
  have HL := hide hl
  clear hv hv' hok hok' hkind hl
  go_enter Tryz.func129, Tryz.ntmps129
  go_wp2_with fail
  refine (at_any ok' t _ key _ (HV.out.same (Same.of_below (by go_grown))) hk5.out HL.out hb).mono ?_
  rintro e w1 ⟨v, x, rfl, hx, hxe, hb1⟩
  obtain ⟨xa, xc, ya, yc, c2, rfl, -⟩ := hx.open
  have HX := hide hx
  have HXE := hide hxe
  have hba : W.heap.size + 2 ≤ w1.heap.size := by have := hb1.size; simpa using this
  have hb0 : w1.heap[W.heap.size]? = some (.cells #[.int .i64 t.kind, .string t.text, .float .f64 t.num, .bool t.yes, .slice ka t.keys.length kac, .slice ta t.kids.length tac] 26 (0, 0)) := (hb1.block _ (by simp; omega)).trans ((MapKept.heap_alloc _ _).2 _ (by simp) |>.trans (heap_alloc_new _ _))
  have hr : w1.heap[W.heap.size + 1]? = some (.cells #[.int .i64 0, .string ⟨#[]⟩, .float .f64 0, .bool false, .slice none 0 0, .slice none 0 0] 26 (0, 0)) := (hb1.block _ (by simp)).trans (heap_alloc_two _ _ _)
  have HB : Hid (Below W.heap.size W w1) := hide (Below.trans (by go_grown) (hb1.mono (by simp; omega)))
  have HR := hide hr
  have HB0 := hide hb0
  clear hx hxe hb1 hb0 hr
  obtain ⟨is, his⟩ : ∃ b, b = (atT t key).isSome := ⟨_, rfl⟩
  have HIS := hide his
  rw [← his]
  clear his
  go_wp2_with fail
  obtain ⟨Nz0, Nb0⟩ := new_at w1 #[.int .i64 x.kind, .string x.text, .float .f64 x.num, .bool x.yes, .slice xa x.keys.length xc, .slice ya x.kids.length yc]
  have NZ := hide Nz0
  have NB := hide Nb0
  clear Nz0 Nb0
  generalize hwzN : w1.alloc (.cells #[.int .i64 x.kind, .string x.text, .float .f64 x.num, .bool x.yes, .slice xa x.keys.length xc, .slice ya x.kids.length yc] 26 (0, 0)) = wy at *
  have NS : w1.heap.size < wy.heap.size := lt_of_block NZ.out
  clear hwzN
  have H0 : wy.heap[W.heap.size]? = _ := zero6 HB0.out NB.out
  have H1 : wy.heap[W.heap.size + 1]? = _ := zero6 HR.out NB.out
  have HH1 := hide H1
  have c0 : wy.cell? ⟨W.heap.size, 0, none⟩ = some (.int .i64 t.kind) := (by rw [cell_of_row wy _ 0 _ _ _ H0]; rfl)
  have c1 : wy.cell? ⟨W.heap.size, 1, none⟩ = some (.string t.text) := (by rw [cell_of_row wy _ 1 _ _ _ H0]; rfl)
  have c2 : wy.cell? ⟨W.heap.size, 2, none⟩ = some (.float .f64 t.num) := (by rw [cell_of_row wy _ 2 _ _ _ H0]; rfl)
  have c3 : wy.cell? ⟨W.heap.size, 3, none⟩ = some (.bool t.yes) := (by rw [cell_of_row wy _ 3 _ _ _ H0]; rfl)
  have c4 : wy.cell? ⟨W.heap.size, 4, none⟩ = some (.slice ka t.keys.length kac) := (by rw [cell_of_row wy _ 4 _ _ _ H0]; rfl)
  have c5 : wy.cell? ⟨W.heap.size, 5, none⟩ = some (.slice ta t.kids.length tac) := (by rw [cell_of_row wy _ 5 _ _ _ H0]; rfl)
  have d0 : wy.cell? ⟨W.heap.size + 1, 0, none⟩ = some (.int .i64 0) := (by rw [cell_of_row wy _ 0 _ _ _ H1]; rfl)
  have d1 : wy.cell? ⟨W.heap.size + 1, 1, none⟩ = some (.string ⟨#[]⟩) := (by rw [cell_of_row wy _ 1 _ _ _ H1]; rfl)
  have d2 : wy.cell? ⟨W.heap.size + 1, 2, none⟩ = some (.float .f64 0) := (by rw [cell_of_row wy _ 2 _ _ _ H1]; rfl)
  have d3 : wy.cell? ⟨W.heap.size + 1, 3, none⟩ = some (.bool false) := (by rw [cell_of_row wy _ 3 _ _ _ H1]; rfl)
  have d4 : wy.cell? ⟨W.heap.size + 1, 4, none⟩ = some (.slice none 0 0) := (by rw [cell_of_row wy _ 4 _ _ _ H1]; rfl)
  have d5 : wy.cell? ⟨W.heap.size + 1, 5, none⟩ = some (.slice none 0 0) := (by rw [cell_of_row wy _ 5 _ _ _ H1]; rfl)
  have x0 : wy.cell? ⟨w1.heap.size, 0, none⟩ = some (.int .i64 x.kind) := (by rw [cell_of_row wy _ 0 _ _ _ NZ.out]; rfl)
  have x1 : wy.cell? ⟨w1.heap.size, 1, none⟩ = some (.string x.text) := (by rw [cell_of_row wy _ 1 _ _ _ NZ.out]; rfl)
  have x2 : wy.cell? ⟨w1.heap.size, 2, none⟩ = some (.float .f64 x.num) := (by rw [cell_of_row wy _ 2 _ _ _ NZ.out]; rfl)
  have x3 : wy.cell? ⟨w1.heap.size, 3, none⟩ = some (.bool x.yes) := (by rw [cell_of_row wy _ 3 _ _ _ NZ.out]; rfl)
  have x4 : wy.cell? ⟨w1.heap.size, 4, none⟩ = some (.slice xa x.keys.length xc) := (by rw [cell_of_row wy _ 4 _ _ _ NZ.out]; rfl)
  have x5 : wy.cell? ⟨w1.heap.size, 5, none⟩ = some (.slice ya x.kids.length yc) := (by rw [cell_of_row wy _ 5 _ _ _ NZ.out]; rfl)
  have fr : ∀ j, wy.frozen? ⟨W.heap.size + 1, j, none⟩ = false := fun j => frozen_of_row wy _ j _ _ H1
  clear H0 H1
  have HW : Hid ((withinT t key).isSome = (is && ((t.keys.length : Int) == 1 && x.kind == 5)) ∧ ∀ u, withinT t key = some u → x = u) := hide (within_val HIS.out HXE.out)
  clear HIS
  cases is
  · go_region
    all_goals
      go_wp2_with fail
      have HZ := hide (set6 HH1.out (.int .i64 x.kind) (.string x.text) (.float .f64 x.num) (.bool x.yes) (.slice xa x.keys.length xc) (.slice ya x.kids.length yc))
      have HS := hide (same6 (ok := ok') (w1 := wy) (b := W.heap.size + 1) (HN1.out) (.int .i64 x.kind) (.string x.text) (.float .f64 x.num) (.bool x.yes) (.slice xa x.keys.length xc) (.slice ya x.kids.length yc))
      have HL6 := hide (below6 (n := W.heap.size) (w1 := wy) (b := W.heap.size + 1) (by omega) (.int .i64 x.kind) (.string x.text) (.float .f64 x.num) (.bool x.yes) (.slice xa x.keys.length xc) (.slice ya x.kids.length yc))
      generalize ((((((wy.setCell ⟨W.heap.size + 1, 0, none⟩ (.int .i64 x.kind)).setCell ⟨W.heap.size + 1, 1, none⟩ (.string x.text)).setCell ⟨W.heap.size + 1, 2, none⟩ (.float .f64 x.num)).setCell ⟨W.heap.size + 1, 3, none⟩ (.bool x.yes)).setCell ⟨W.heap.size + 1, 4, none⟩ (.slice xa x.keys.length xc)).setCell ⟨W.heap.size + 1, 5, none⟩ (.slice ya x.kids.length yc)) = wz at *
      have e0 : wz.cell? ⟨W.heap.size + 1, 0, none⟩ = some (.int .i64 x.kind) := by rw [cell_of_row wz _ 0 _ _ _ HZ.out]; rfl
      have e1 : wz.cell? ⟨W.heap.size + 1, 1, none⟩ = some (.string x.text) := by rw [cell_of_row wz _ 1 _ _ _ HZ.out]; rfl
      have e2 : wz.cell? ⟨W.heap.size + 1, 2, none⟩ = some (.float .f64 x.num) := by rw [cell_of_row wz _ 2 _ _ _ HZ.out]; rfl
      have e3 : wz.cell? ⟨W.heap.size + 1, 3, none⟩ = some (.bool x.yes) := by rw [cell_of_row wz _ 3 _ _ _ HZ.out]; rfl
      have e4 : wz.cell? ⟨W.heap.size + 1, 4, none⟩ = some (.slice xa x.keys.length xc) := by rw [cell_of_row wz _ 4 _ _ _ HZ.out]; rfl
      have e5 : wz.cell? ⟨W.heap.size + 1, 5, none⟩ = some (.slice ya x.kids.length yc) := by rw [cell_of_row wz _ 5 _ _ _ HZ.out]; rfl
      refine bodyPost_ret (by simp [results, Tryz.results129, go_sem, e0, e1, e2, e3, e4, e5]; try rfl) rfl ?_
      refine ⟨_, x, by rw [HW.out.1]; rfl, ?_, HW.out.2, ?_⟩
      · exact (((HX.out.same (Same.of_below NB.out)).same HS.out).weaken fun k hk _ => HOO.out k hk).same (Same.of_below (by go_grown))
      · exact ((HB.out.trans (NB.out.mono (by omega))).trans HL6.out).trans (by go_grown)
  · cases h1 : ((t.keys.length : Int) == 1)
    · go_region
      all_goals
        go_wp2_with fail
        have HZ := hide (set6 HH1.out (.int .i64 x.kind) (.string x.text) (.float .f64 x.num) (.bool x.yes) (.slice xa x.keys.length xc) (.slice ya x.kids.length yc))
        have HS := hide (same6 (ok := ok') (w1 := wy) (b := W.heap.size + 1) (HN1.out) (.int .i64 x.kind) (.string x.text) (.float .f64 x.num) (.bool x.yes) (.slice xa x.keys.length xc) (.slice ya x.kids.length yc))
        have HL6 := hide (below6 (n := W.heap.size) (w1 := wy) (b := W.heap.size + 1) (by omega) (.int .i64 x.kind) (.string x.text) (.float .f64 x.num) (.bool x.yes) (.slice xa x.keys.length xc) (.slice ya x.kids.length yc))
        generalize ((((((wy.setCell ⟨W.heap.size + 1, 0, none⟩ (.int .i64 x.kind)).setCell ⟨W.heap.size + 1, 1, none⟩ (.string x.text)).setCell ⟨W.heap.size + 1, 2, none⟩ (.float .f64 x.num)).setCell ⟨W.heap.size + 1, 3, none⟩ (.bool x.yes)).setCell ⟨W.heap.size + 1, 4, none⟩ (.slice xa x.keys.length xc)).setCell ⟨W.heap.size + 1, 5, none⟩ (.slice ya x.kids.length yc)) = wz at *
        have e0 : wz.cell? ⟨W.heap.size + 1, 0, none⟩ = some (.int .i64 x.kind) := by rw [cell_of_row wz _ 0 _ _ _ HZ.out]; rfl
        have e1 : wz.cell? ⟨W.heap.size + 1, 1, none⟩ = some (.string x.text) := by rw [cell_of_row wz _ 1 _ _ _ HZ.out]; rfl
        have e2 : wz.cell? ⟨W.heap.size + 1, 2, none⟩ = some (.float .f64 x.num) := by rw [cell_of_row wz _ 2 _ _ _ HZ.out]; rfl
        have e3 : wz.cell? ⟨W.heap.size + 1, 3, none⟩ = some (.bool x.yes) := by rw [cell_of_row wz _ 3 _ _ _ HZ.out]; rfl
        have e4 : wz.cell? ⟨W.heap.size + 1, 4, none⟩ = some (.slice xa x.keys.length xc) := by rw [cell_of_row wz _ 4 _ _ _ HZ.out]; rfl
        have e5 : wz.cell? ⟨W.heap.size + 1, 5, none⟩ = some (.slice ya x.kids.length yc) := by rw [cell_of_row wz _ 5 _ _ _ HZ.out]; rfl
        refine bodyPost_ret (by simp [results, Tryz.results129, go_sem, e0, e1, e2, e3, e4, e5]; try rfl) rfl ?_
        refine ⟨_, x, by rw [HW.out.1]; rw [h1]; rfl, ?_, HW.out.2, ?_⟩
        · exact (((HX.out.same (Same.of_below NB.out)).same HS.out).weaken fun k hk _ => HOO.out k hk).same (Same.of_below (by go_grown))
        · exact ((HB.out.trans (NB.out.mono (by omega))).trans HL6.out).trans (by go_grown)
    · cases h2 : (x.kind == 5)
      · go_region
        all_goals
          go_wp2_with fail
          have HZ := hide (set6 HH1.out (.int .i64 x.kind) (.string x.text) (.float .f64 x.num) (.bool x.yes) (.slice xa x.keys.length xc) (.slice ya x.kids.length yc))
          have HS := hide (same6 (ok := ok') (w1 := wy) (b := W.heap.size + 1) (HN1.out) (.int .i64 x.kind) (.string x.text) (.float .f64 x.num) (.bool x.yes) (.slice xa x.keys.length xc) (.slice ya x.kids.length yc))
          have HL6 := hide (below6 (n := W.heap.size) (w1 := wy) (b := W.heap.size + 1) (by omega) (.int .i64 x.kind) (.string x.text) (.float .f64 x.num) (.bool x.yes) (.slice xa x.keys.length xc) (.slice ya x.kids.length yc))
          generalize ((((((wy.setCell ⟨W.heap.size + 1, 0, none⟩ (.int .i64 x.kind)).setCell ⟨W.heap.size + 1, 1, none⟩ (.string x.text)).setCell ⟨W.heap.size + 1, 2, none⟩ (.float .f64 x.num)).setCell ⟨W.heap.size + 1, 3, none⟩ (.bool x.yes)).setCell ⟨W.heap.size + 1, 4, none⟩ (.slice xa x.keys.length xc)).setCell ⟨W.heap.size + 1, 5, none⟩ (.slice ya x.kids.length yc)) = wz at *
          have e0 : wz.cell? ⟨W.heap.size + 1, 0, none⟩ = some (.int .i64 x.kind) := by rw [cell_of_row wz _ 0 _ _ _ HZ.out]; rfl
          have e1 : wz.cell? ⟨W.heap.size + 1, 1, none⟩ = some (.string x.text) := by rw [cell_of_row wz _ 1 _ _ _ HZ.out]; rfl
          have e2 : wz.cell? ⟨W.heap.size + 1, 2, none⟩ = some (.float .f64 x.num) := by rw [cell_of_row wz _ 2 _ _ _ HZ.out]; rfl
          have e3 : wz.cell? ⟨W.heap.size + 1, 3, none⟩ = some (.bool x.yes) := by rw [cell_of_row wz _ 3 _ _ _ HZ.out]; rfl
          have e4 : wz.cell? ⟨W.heap.size + 1, 4, none⟩ = some (.slice xa x.keys.length xc) := by rw [cell_of_row wz _ 4 _ _ _ HZ.out]; rfl
          have e5 : wz.cell? ⟨W.heap.size + 1, 5, none⟩ = some (.slice ya x.kids.length yc) := by rw [cell_of_row wz _ 5 _ _ _ HZ.out]; rfl
          refine bodyPost_ret (by simp [results, Tryz.results129, go_sem, e0, e1, e2, e3, e4, e5]; try rfl) rfl ?_
          refine ⟨_, x, by rw [HW.out.1]; rw [h1, h2]; rfl, ?_, HW.out.2, ?_⟩
          · exact (((HX.out.same (Same.of_below NB.out)).same HS.out).weaken fun k hk _ => HOO.out k hk).same (Same.of_below (by go_grown))
          · exact ((HB.out.trans (NB.out.mono (by omega))).trans HL6.out).trans (by go_grown)
      · go_region
        all_goals
          go_wp2_with fail
          have HZ := hide (set6 HH1.out (.int .i64 x.kind) (.string x.text) (.float .f64 x.num) (.bool x.yes) (.slice xa x.keys.length xc) (.slice ya x.kids.length yc))
          have HS := hide (same6 (ok := ok') (w1 := wy) (b := W.heap.size + 1) (HN1.out) (.int .i64 x.kind) (.string x.text) (.float .f64 x.num) (.bool x.yes) (.slice xa x.keys.length xc) (.slice ya x.kids.length yc))
          have HL6 := hide (below6 (n := W.heap.size) (w1 := wy) (b := W.heap.size + 1) (by omega) (.int .i64 x.kind) (.string x.text) (.float .f64 x.num) (.bool x.yes) (.slice xa x.keys.length xc) (.slice ya x.kids.length yc))
          generalize ((((((wy.setCell ⟨W.heap.size + 1, 0, none⟩ (.int .i64 x.kind)).setCell ⟨W.heap.size + 1, 1, none⟩ (.string x.text)).setCell ⟨W.heap.size + 1, 2, none⟩ (.float .f64 x.num)).setCell ⟨W.heap.size + 1, 3, none⟩ (.bool x.yes)).setCell ⟨W.heap.size + 1, 4, none⟩ (.slice xa x.keys.length xc)).setCell ⟨W.heap.size + 1, 5, none⟩ (.slice ya x.kids.length yc)) = wz at *
          have e0 : wz.cell? ⟨W.heap.size + 1, 0, none⟩ = some (.int .i64 x.kind) := by rw [cell_of_row wz _ 0 _ _ _ HZ.out]; rfl
          have e1 : wz.cell? ⟨W.heap.size + 1, 1, none⟩ = some (.string x.text) := by rw [cell_of_row wz _ 1 _ _ _ HZ.out]; rfl
          have e2 : wz.cell? ⟨W.heap.size + 1, 2, none⟩ = some (.float .f64 x.num) := by rw [cell_of_row wz _ 2 _ _ _ HZ.out]; rfl
          have e3 : wz.cell? ⟨W.heap.size + 1, 3, none⟩ = some (.bool x.yes) := by rw [cell_of_row wz _ 3 _ _ _ HZ.out]; rfl
          have e4 : wz.cell? ⟨W.heap.size + 1, 4, none⟩ = some (.slice xa x.keys.length xc) := by rw [cell_of_row wz _ 4 _ _ _ HZ.out]; rfl
          have e5 : wz.cell? ⟨W.heap.size + 1, 5, none⟩ = some (.slice ya x.kids.length yc) := by rw [cell_of_row wz _ 5 _ _ _ HZ.out]; rfl
          refine bodyPost_ret (by simp [results, Tryz.results129, go_sem, e0, e1, e2, e3, e4, e5]; try rfl) rfl ?_
          refine ⟨_, x, by rw [HW.out.1]; rw [h1, h2]; rfl, ?_, HW.out.2, ?_⟩
          · exact (((HX.out.same (Same.of_below NB.out)).same HS.out).weaken fun k hk _ => HOO.out k hk).same (Same.of_below (by go_grown))
          · exact ((HB.out.trans (NB.out.mono (by omega))).trans HL6.out).trans (by go_grown)
end Go.Proofs.YtbcnhcpgloncdaaGreatDoor
