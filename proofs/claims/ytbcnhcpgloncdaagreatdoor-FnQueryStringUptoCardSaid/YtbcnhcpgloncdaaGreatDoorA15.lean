/-
  spec.beside, spec.folded of a query's tree, spec.kinded of a query that is no multi_match.
-/
import Derived.Test.YtbcnhcpgloncdaaGreatDoorA12
namespace Go.Proofs.YtbcnhcpgloncdaaGreatDoor
open Go.RowKit Go.Sort Go.ChangeMaps Go.MapKept Go.Lib

set_option maxHeartbeats 2000000 in
set_option maxRecDepth 100000 in
theorem query_any (ok : Nat → Prop) (W : World) (v : Value) (kind : ByteArray) (ps : List S) (hok : ∀ k, W.heap.size ≤ k → ok k) (hv : SetsAt W ok v ps) (hl : ps.length ≤ 4194304) :
    Calls Tryz.prog 75 #[.string kind, v] W (RetTree ok W (mapTree [(kind, mapTree (pE ps))])) := by
  have HV := hide (hv.weaken (ok' := fun j => ok j ∧ j ≠ W.heap.size) fun k h0 h => ⟨h0, by omega⟩)
  have HOK := hide hok
  clear hv hok
  obtain ⟨ok', hok'⟩ : ∃ p : Nat → Prop, p = fun j => ok j ∧ j ≠ W.heap.size := ⟨_, rfl⟩
  rw [← hok'] at HV
  have HOK' : Hid (∀ k, W.heap.size + 1 ≤ k → ok' k) := hide (by rw [hok']; intro k hk; exact ⟨HOK.out k (by omega), by omega⟩)
  have HN0 : Hid (¬ ok' W.heap.size) := hide (by rw [hok']; intro h; exact h.2 rfl)
  have HOO : Hid (∀ k, ok' k → ok k) := hide (by rw [hok']; intro k h; exact h.1)
  clear hok'
  go_enter Tryz.func75, Tryz.ntmps75
  go_wp2_with fail
  refine (map_any ok' _ v ps (fun k hk => HOK'.out k (by simpa using hk)) (HV.out.same (Same.of_below (by go_grown))) hl).mono ?_
  rintro e w1 ⟨u, rfl, ht, hb⟩
  obtain ⟨x, hx⟩ : ∃ z, z = mapTree (pE ps) := ⟨_, rfl⟩
  rw [← hx] at ht
  have HXE := hide hx
  obtain ⟨xa, xc, ya, yc, c2, rfl, -⟩ := ht.open
  have HX := hide ht
  have hs1 : W.heap.size + 1 ≤ w1.heap.size := by have := hb.size; simpa using this
  have HB : Hid (Below W.heap.size W w1) := hide (Below.trans (by go_grown) (hb.mono (by simp)))
  have HR : Hid (w1.heap[W.heap.size]? = some (.cells #[.int .i64 0, .string ⟨#[]⟩, .float .f64 0, .bool false, .slice none 0 0, .slice none 0 0] 26 (0, 0))) := hide ((hb.block _ (by simp)).trans (heap_alloc_new _ _))
  clear hx ht hb
  go_wp2_with fail
  refine (map_any ok' _ _ [⟨kind, x⟩] (fun k hk => HOK'.out k (by simp at hk; omega)) (sets_one (g := w1.heap.size) (heap_alloc_new w1 _) (HOK'.out _ hs1) (HX.out.same (Same.of_below (by go_grown)))) (by simp)).mono ?_
  rintro e w2 ⟨u, rfl, ht, hb⟩
  obtain ⟨y, hy⟩ : ∃ z, z = mapTree (pE [⟨kind, x⟩]) := ⟨_, rfl⟩
  rw [← hy] at ht
  have HYE : Hid (y = mapTree [(kind, mapTree (pE ps))]) := hide (by rw [hy, ← HXE.out]; rfl)
  obtain ⟨ra, rc, rb, rd, c3, rfl, -⟩ := ht.open
  have HY := hide ht
  have HB2 : Hid (Below w1.heap.size w1 w2) := hide (Below.trans (by go_grown) (hb.mono (by simp)))
  have hr : w2.heap[W.heap.size]? = some (.cells #[.int .i64 0, .string ⟨#[]⟩, .float .f64 0, .bool false, .slice none 0 0, .slice none 0 0] 26 (0, 0)) := zero6 HR.out HB2.out
  have HR2 := hide hr
  clear hy ht hb
  have z0 : w2.cell? ⟨W.heap.size, 0, none⟩ = some (.int .i64 0) := (by rw [cell_of_row w2 _ 0 _ _ _ hr]; rfl)
  have z1 : w2.cell? ⟨W.heap.size, 1, none⟩ = some (.string ⟨#[]⟩) := (by rw [cell_of_row w2 _ 1 _ _ _ hr]; rfl)
  have z2 : w2.cell? ⟨W.heap.size, 2, none⟩ = some (.float .f64 0) := (by rw [cell_of_row w2 _ 2 _ _ _ hr]; rfl)
  have z3 : w2.cell? ⟨W.heap.size, 3, none⟩ = some (.bool false) := (by rw [cell_of_row w2 _ 3 _ _ _ hr]; rfl)
  have z4 : w2.cell? ⟨W.heap.size, 4, none⟩ = some (.slice none 0 0) := (by rw [cell_of_row w2 _ 4 _ _ _ hr]; rfl)
  have z5 : w2.cell? ⟨W.heap.size, 5, none⟩ = some (.slice none 0 0) := (by rw [cell_of_row w2 _ 5 _ _ _ hr]; rfl)
  have fr : ∀ j, w2.frozen? ⟨W.heap.size, j, none⟩ = false := fun j => frozen_of_row w2 _ j _ _ hr
  clear hr
  go_wp2_with fail
  have HZ := hide (set6 HR2.out (.int .i64 y.kind) (.string y.text) (.float .f64 y.num) (.bool y.yes) (.slice ra y.keys.length rc) (.slice rb y.kids.length rd))
  have HS := hide (same6 (ok := ok') (w1 := w2) (b := W.heap.size) (HN0.out) (.int .i64 y.kind) (.string y.text) (.float .f64 y.num) (.bool y.yes) (.slice ra y.keys.length rc) (.slice rb y.kids.length rd))
  have HL6 := hide (below6 (n := W.heap.size) (w1 := w2) (b := W.heap.size) (by omega) (.int .i64 y.kind) (.string y.text) (.float .f64 y.num) (.bool y.yes) (.slice ra y.keys.length rc) (.slice rb y.kids.length rd))
  generalize ((((((w2.setCell ⟨W.heap.size, 0, none⟩ (.int .i64 y.kind)).setCell ⟨W.heap.size, 1, none⟩ (.string y.text)).setCell ⟨W.heap.size, 2, none⟩ (.float .f64 y.num)).setCell ⟨W.heap.size, 3, none⟩ (.bool y.yes)).setCell ⟨W.heap.size, 4, none⟩ (.slice ra y.keys.length rc)).setCell ⟨W.heap.size, 5, none⟩ (.slice rb y.kids.length rd)) = wz at *
  have e0 : wz.cell? ⟨W.heap.size, 0, none⟩ = some (.int .i64 y.kind) := by rw [cell_of_row wz _ 0 _ _ _ HZ.out]; rfl
  have e1 : wz.cell? ⟨W.heap.size, 1, none⟩ = some (.string y.text) := by rw [cell_of_row wz _ 1 _ _ _ HZ.out]; rfl
  have e2 : wz.cell? ⟨W.heap.size, 2, none⟩ = some (.float .f64 y.num) := by rw [cell_of_row wz _ 2 _ _ _ HZ.out]; rfl
  have e3 : wz.cell? ⟨W.heap.size, 3, none⟩ = some (.bool y.yes) := by rw [cell_of_row wz _ 3 _ _ _ HZ.out]; rfl
  have e4 : wz.cell? ⟨W.heap.size, 4, none⟩ = some (.slice ra y.keys.length rc) := by rw [cell_of_row wz _ 4 _ _ _ HZ.out]; rfl
  have e5 : wz.cell? ⟨W.heap.size, 5, none⟩ = some (.slice rb y.kids.length rd) := by rw [cell_of_row wz _ 5 _ _ _ HZ.out]; rfl
  refine bodyPost_ret (by simp [results, Tryz.results75, go_sem, e0, e1, e2, e3, e4, e5]; try rfl) rfl ?_
  refine ⟨_, rfl, ?_, ?_⟩
  · rw [← HYE.out]
    exact (HY.out.same HS.out).weaken fun k hk _ => HOO.out k hk
  · exact (HB.out.trans (HB2.out.mono (by omega))).trans HL6.out

/-- folded of a query's tree whose entries are no maps. -/
theorem fold2_any (kind : List UInt8) (E : List (ByteArray × T)) (ok : Nat → Prop) (W : World) (v : Value) (hok : ∀ k, W.heap.size ≤ k → ok k) (hG : Glob W) (hv : TreeAt W ok v (mapTree [(bs kind, mapTree E)])) (hE : ∀ p ∈ E, (p.2.kind == 5) = false ∧ p.2.text.size < 35184372088832 ∧ p.1.size ≤ 9223372036854775807)
    (hk : kind.length ≤ 1000) (hl : E.length ≤ 4194304) : Calls Tryz.prog 70 #[v] W (RetTree ok W (mapTree [(bs kind, mapTree (foldEE E))])) := by
  have kid : ∀ (E : List (ByteArray × T)) (u : T), u ∈ (mapTree E).kids → ∃ p ∈ E, u = p.2 := fun E u h => mapTree_kid h
  have key : ∀ (E : List (ByteArray × T)) (k : ByteArray), k ∈ (mapTree E).keys → ∃ p ∈ E, k = p.1 := fun E k h => by
    rw [mapTree_keys] at h
    obtain ⟨l, hl, rfl⟩ := List.mem_map.1 h
    have := (mapKeys_mem E l).1 hl
    cases hq : lookL E (bs l) with
    | none => rw [hq] at this; cases this
    | some t => exact ⟨_, lookL_mem hq, rfl⟩
  have inner : ∀ (ok : Nat → Prop) (w : World) (v : Value), (∀ k, w.heap.size ≤ k → ok k) → Glob w → TreeAt w ok v (mapTree E) → Calls Tryz.prog 70 #[v] w (RetTree ok w (mapTree (foldEE E))) := fun ok w v h1 h2 h3 => by
    refine folded_map id (mapTree E) (fun u hu ok w v g1 g2 g3 => ?_) ok w v h1 h2 h3 (mapTree_kind _) (mapTree_len _) (Nat.le_trans (mapTree_le _) hl) (fun u hu => ?_) fun k hk => ?_
    · obtain ⟨p, hp, rfl⟩ := kid E u hu
      exact folded_leaf ok w v _ g1 g3 (hE p hp).1
    · obtain ⟨p, hp, rfl⟩ := kid E u hu
      exact (hE p hp).2.1
    · obtain ⟨p, hp, rfl⟩ := key E k hk
      exact (hE p hp).2.2
  have outer := folded_map (fun _ => mapTree (foldEE E)) (mapTree [(bs kind, mapTree E)]) (fun u hu ok w v g1 g2 g3 => by
      obtain ⟨p, hp, rfl⟩ := kid _ u hu
      obtain rfl : p = _ := by simpa using hp
      exact inner ok w v g1 g2 g3) ok W v hok hG hv (mapTree_kind _) (mapTree_len _) (Nat.le_trans (mapTree_le _) (by simp)) (fun u hu => by
      obtain ⟨p, hp, rfl⟩ := kid _ u hu
      obtain rfl : p = _ := by simpa using hp
      rw [show (mapTree (foldEE E)).text = ⟨#[]⟩ by rw [mapTree_eq]; rfl]
      decide) (fun k hk' => by
      obtain ⟨p, hp, rfl⟩ := key _ k hk'
      obtain rfl : p = _ := by simpa using hp
      show (bs kind).size ≤ _
      rw [bs_size]; omega)
  rw [fold_outer kind (mapTree E) (mapTree (foldEE E)) _ rfl (mapTree_kind _)] at outer
  exact outer

theorem within_none {kind : List UInt8} {X : T} (h : kind ≠ nMulti) : withinT (mapTree [(bs kind, X)]) (bs nMulti) = none := by
  unfold withinT
  rw [atT_map, lookL_one, if_neg (fun e => h (by have := (eqB_iff _ _).1 e; exact congrArg (fun x : ByteArray => x.data.toList) this))]
  rfl

set_option maxHeartbeats 2000000 in
set_option maxRecDepth 100000 in
theorem kinded_other (ok : Nat → Prop) (W : World) (v : Value) (t : T) (hok : ∀ k, W.heap.size ≤ k → ok k) (hv : TreeAt W ok v t) (hkind : t.kind = 5) (hl : t.keys.length = t.kids.length) (hb : t.kids.length ≤ 4194304) (hin : withinT t (bs nMulti) = none) :
    Calls Tryz.prog 69 #[v] W (RetTree ok W t) := by
  obtain ⟨ka, kac, ta, tac, c, rfl, -⟩ := hv.open
  have HV := hide hv
  have HW := hide (fun (w : World) (v : Value) (h1 : ∀ k, w.heap.size ≤ k → ok k) (h2 : TreeAt w ok v t) => within_any ok w v t (bs nMulti) h1 h2 hkind hl (by omega))
  have HOK := hide hok
  clear hv hok hkind hl
  go_enter Tryz.func69, Tryz.ntmps69
  go_wp2_with fail
  refine (HW.out _ _ (fun k hk => HOK.out k (by simp at hk; omega)) (HV.out.same (Same.of_below (by go_grown)))).mono ?_
  rintro e w1 ⟨u, x, rfl, hx, -, hb1⟩
  rw [hin, show (none : Option T).isSome = false from rfl]
  obtain ⟨xa, xc, ya, yc, c2, rfl, -⟩ := hx.open
  have hs1 : W.heap.size + 2 ≤ w1.heap.size := by have := hb1.size; simpa using this
  have HB : Hid (Below W.heap.size W w1) := hide (Below.trans (by go_grown) (hb1.mono (by simp; omega)))
  have hb0 : w1.heap[W.heap.size]? = some (.cells #[.int .i64 t.kind, .string t.text, .float .f64 t.num, .bool t.yes, .slice ka t.keys.length kac, .slice ta t.kids.length tac] 26 (0, 0)) := (hb1.block _ (by simp; omega)).trans ((MapKept.heap_alloc _ _).2 _ (by simp) |>.trans (heap_alloc_new _ _))
  have hr : w1.heap[W.heap.size + 1]? = some (.cells #[.int .i64 0, .string ⟨#[]⟩, .float .f64 0, .bool false, .slice none 0 0, .slice none 0 0] 26 (0, 0)) := (hb1.block _ (by simp)).trans (heap_alloc_two _ _ _)
  have HR := hide hr
  have HB0 := hide hb0
  clear hx hb1 hb0 hr
  go_upto_region 3 with fail
  obtain ⟨Nz0, Nb0⟩ := new_at w1 #[.int .i64 x.kind, .string x.text, .float .f64 x.num, .bool x.yes, .slice xa x.keys.length xc, .slice ya x.kids.length yc]
  have NZ := hide Nz0
  have NB := hide Nb0
  clear Nz0 Nb0
  generalize hwzN : w1.alloc (.cells #[.int .i64 x.kind, .string x.text, .float .f64 x.num, .bool x.yes, .slice xa x.keys.length xc, .slice ya x.kids.length yc] 26 (0, 0)) = wy at *
  have NS : w1.heap.size < wy.heap.size := lt_of_block NZ.out
  clear hwzN
  have H0 : wy.heap[W.heap.size]? = _ := zero6 HB0.out NB.out
  have H1 : wy.heap[W.heap.size + 1]? = _ := zero6 HR.out NB.out
  have HH1 := hide H1
  have c0 : wy.cell? ⟨W.heap.size, 0, none⟩ = some (.int .i64 t.kind) := (by rw [cell_of_row wy _ 0 _ _ _ H0]; rfl)
  have c1 : wy.cell? ⟨W.heap.size, 1, none⟩ = some (.string t.text) := (by rw [cell_of_row wy _ 1 _ _ _ H0]; rfl)
  have c2 : wy.cell? ⟨W.heap.size, 2, none⟩ = some (.float .f64 t.num) := (by rw [cell_of_row wy _ 2 _ _ _ H0]; rfl)
  have c3 : wy.cell? ⟨W.heap.size, 3, none⟩ = some (.bool t.yes) := (by rw [cell_of_row wy _ 3 _ _ _ H0]; rfl)
  have c4 : wy.cell? ⟨W.heap.size, 4, none⟩ = some (.slice ka t.keys.length kac) := (by rw [cell_of_row wy _ 4 _ _ _ H0]; rfl)
  have c5 : wy.cell? ⟨W.heap.size, 5, none⟩ = some (.slice ta t.kids.length tac) := (by rw [cell_of_row wy _ 5 _ _ _ H0]; rfl)
  have d0 : wy.cell? ⟨W.heap.size + 1, 0, none⟩ = some (.int .i64 0) := (by rw [cell_of_row wy _ 0 _ _ _ H1]; rfl)
  have d1 : wy.cell? ⟨W.heap.size + 1, 1, none⟩ = some (.string ⟨#[]⟩) := (by rw [cell_of_row wy _ 1 _ _ _ H1]; rfl)
  have d2 : wy.cell? ⟨W.heap.size + 1, 2, none⟩ = some (.float .f64 0) := (by rw [cell_of_row wy _ 2 _ _ _ H1]; rfl)
  have d3 : wy.cell? ⟨W.heap.size + 1, 3, none⟩ = some (.bool false) := (by rw [cell_of_row wy _ 3 _ _ _ H1]; rfl)
  have d4 : wy.cell? ⟨W.heap.size + 1, 4, none⟩ = some (.slice none 0 0) := (by rw [cell_of_row wy _ 4 _ _ _ H1]; rfl)
  have d5 : wy.cell? ⟨W.heap.size + 1, 5, none⟩ = some (.slice none 0 0) := (by rw [cell_of_row wy _ 5 _ _ _ H1]; rfl)
  have fr : ∀ j, wy.frozen? ⟨W.heap.size + 1, j, none⟩ = false := fun j => frozen_of_row wy _ j _ _ H1
  clear H0 H1
  obtain ⟨ok', hok'⟩ : ∃ p : Nat → Prop, p = fun j => ok j ∧ j ≠ W.heap.size + 1 := ⟨_, rfl⟩
  have HN1 : Hid (¬ ok' (W.heap.size + 1)) := hide (by rw [hok']; intro h; exact h.2 rfl)
  have HV' : Hid (TreeAt W ok' (.agg #[.int .i64 t.kind, .string t.text, .float .f64 t.num, .bool t.yes, .slice ka t.keys.length kac, .slice ta t.kids.length tac]) t) := hide (by rw [hok']; exact HV.out.weaken fun k h0 h => ⟨h0, by omega⟩)
  have HOO : Hid (∀ k, ok' k → ok k) := hide (by rw [hok']; intro k h; exact h.1)
  clear hok'
  go_wp2_with fail
  have HZ := hide (set6 HH1.out (.int .i64 t.kind) (.string t.text) (.float .f64 t.num) (.bool t.yes) (.slice ka t.keys.length kac) (.slice ta t.kids.length tac))
  have HS := hide (same6 (ok := ok') (w1 := wy) (b := W.heap.size + 1) (HN1.out) (.int .i64 t.kind) (.string t.text) (.float .f64 t.num) (.bool t.yes) (.slice ka t.keys.length kac) (.slice ta t.kids.length tac))
  have HL6 := hide (below6 (n := W.heap.size) (w1 := wy) (b := W.heap.size + 1) (by omega) (.int .i64 t.kind) (.string t.text) (.float .f64 t.num) (.bool t.yes) (.slice ka t.keys.length kac) (.slice ta t.kids.length tac))
  generalize ((((((wy.setCell ⟨W.heap.size + 1, 0, none⟩ (.int .i64 t.kind)).setCell ⟨W.heap.size + 1, 1, none⟩ (.string t.text)).setCell ⟨W.heap.size + 1, 2, none⟩ (.float .f64 t.num)).setCell ⟨W.heap.size + 1, 3, none⟩ (.bool t.yes)).setCell ⟨W.heap.size + 1, 4, none⟩ (.slice ka t.keys.length kac)).setCell ⟨W.heap.size + 1, 5, none⟩ (.slice ta t.kids.length tac)) = wz at *
  have e0 : wz.cell? ⟨W.heap.size + 1, 0, none⟩ = some (.int .i64 t.kind) := by rw [cell_of_row wz _ 0 _ _ _ HZ.out]; rfl
  have e1 : wz.cell? ⟨W.heap.size + 1, 1, none⟩ = some (.string t.text) := by rw [cell_of_row wz _ 1 _ _ _ HZ.out]; rfl
  have e2 : wz.cell? ⟨W.heap.size + 1, 2, none⟩ = some (.float .f64 t.num) := by rw [cell_of_row wz _ 2 _ _ _ HZ.out]; rfl
  have e3 : wz.cell? ⟨W.heap.size + 1, 3, none⟩ = some (.bool t.yes) := by rw [cell_of_row wz _ 3 _ _ _ HZ.out]; rfl
  have e4 : wz.cell? ⟨W.heap.size + 1, 4, none⟩ = some (.slice ka t.keys.length kac) := by rw [cell_of_row wz _ 4 _ _ _ HZ.out]; rfl
  have e5 : wz.cell? ⟨W.heap.size + 1, 5, none⟩ = some (.slice ta t.kids.length tac) := by rw [cell_of_row wz _ 5 _ _ _ HZ.out]; rfl
  refine bodyPost_ret (by simp [results, Tryz.results69, go_sem, e0, e1, e2, e3, e4, e5]; try rfl) rfl ?_
  refine ⟨_, rfl, ?_, ?_⟩
  · exact (((HV'.out.same (Same.of_below (HB.out.trans (NB.out.mono (by omega)))))).same HS.out).weaken fun k hk _ => HOO.out k hk
  · exact (HB.out.trans (NB.out.mono (by omega))).trans HL6.out
end Go.Proofs.YtbcnhcpgloncdaaGreatDoor

/-
  spec.Several: the query that should be.
-/
namespace Go.Proofs.YtbcnhcpgloncdaaGreatDoor
open Go.RowKit Go.Sort Go.ChangeMaps Go.MapKept Go.Lib

theorem sets_of_own80 {w : World} {ok : Nat → Prop} {base : Nat} {ss : List S} {v : Value} {vs : List Value}
    (hs : w.ownsRow base 80 7 v ss.length (cellsOf vs)) (ht : SettersAt w ok vs ss) (hok : ∀ k, v.ownBlock = some k → ok k) : SetsAt w ok v ss := by
  obtain ⟨a', cap', hvs, hna, -, hsc⟩ := World.ownsRow.form hs
  subst hvs
  refine ⟨a', cap', fun i j => (vs[i]?.getD default).cells[j]?.getD default, rfl, hna, fun i hi => ?_, fun i s hi => ?_⟩
  · have hil : i < vs.length := by rw [ht.1]; exact hi
    have hsz := ht.size
    have e : ∀ j, j < 7 → (cellsOf vs)[i * 7 + j]? = some ((vs[i]?.getD default).cells[j]?.getD default) := fun j hj => by
      rw [cellsOf_get 7 vs hsz i j vs[i] (List.getElem?_eq_getElem hil) hj]
      have h6 := hsz vs[i] (List.getElem_mem hil)
      simp [List.getElem?_eq_getElem hil, show j < vs[i].cells.size by omega]
    obtain ⟨g, rfl, hob, -, -⟩ := hsc (i * 7 + 0) _ (e 0 (by omega))
    refine ⟨g, 0, rfl, hok g hob, fun j hj => ?_⟩
    obtain ⟨g', e', -, -, hc⟩ := hsc (i * 7 + j) _ (e j hj)
    cases e'
    simpa using hc
  · have hil : i < vs.length := by rw [ht.1]; exact (List.getElem?_eq_some_iff.1 hi).1
    obtain ⟨c, hv, h1⟩ := ht.2 i vs[i] s (List.getElem?_eq_getElem hil) hi
    obtain ⟨a1, c1, a2, c2, cc, hv', -⟩ := h1.open
    rw [hv'] at h1
    simp only [Value.agg.injEq] at hv'
    subst hv'
    simpa [List.getElem?_eq_getElem hil, hv, Value.cells] using h1

theorem SettersAt.weaken {w : World} {ok ok' : Nat → Prop} {vs : List Value} {ss : List S} (hw : ∀ k, ok k → k < w.heap.size → ok' k) (h : SettersAt w ok vs ss) : SettersAt w ok' vs ss := ⟨h.1, fun i v s hv hs => by
  obtain ⟨c, hc, ht⟩ := h.2 i v s hv hs
  exact ⟨c, hc, ht.weaken hw⟩⟩
theorem pairs_push {w w3 : World} {N : Nat} {ok : Nat → Prop} {v : Value} {vs : List Value} {ps : List S} {p : S} {nv : Value} {g cap n : Nat}
    (hset : SettersAt w (fun j => ok j ∧ v.ownBlock ≠ some j) vs ps) (hp : SetAt w (fun j => ok j ∧ v.ownBlock ≠ some j) nv p)
    (hown3 : w3.ownsRow N 80 7 (.slice (some ⟨g, 0, none⟩) (n + 1) cap) (n + 1) (cellsOf vs ++ nv.cells.toList)) (hg : w.grownBy w3 v.ownBlock) (hat : v.ownBlock = some g ∨ g = w.heap.size) :
    w3.ownsRow N 80 7 (.slice (some ⟨g, 0, none⟩) (n + 1) cap) (n + 1) (cellsOf (vs ++ [nv])) ∧ SettersAt w3 (fun j => ok j ∧ (Value.slice (some ⟨g, 0, none⟩) (n + 1) cap).ownBlock ≠ some j) (vs ++ [nv]) (ps ++ [p]) := by
  refine ⟨by rw [cellsOf_append, cellsOf_one]; exact hown3, ?_⟩
  have h1 := (hset.snoc hp).weaken (ok' := fun j => (ok j ∧ v.ownBlock ≠ some j) ∧ j < w.heap.size) fun k h hl => ⟨h, hl⟩
  have h2 : SettersAt w3 (fun j => (ok j ∧ v.ownBlock ≠ some j) ∧ j < w.heap.size) (vs ++ [nv]) (ps ++ [p]) := h1.same fun k hk hl => hg.block k hl fun e => hk.1.2 e.symm
  refine h2.weaken fun k hk _ => ⟨hk.1.1, fun e => ?_⟩
  obtain rfl : g = k := by simpa [Value.ownBlock] using e
  rcases hat with h | h
  · exact hk.1.2 h
  · have := hk.2; omega

/-- kinded does its work on this kind of query. -/
def KindedOK (mm : Bool) (kind : List UInt8) : Prop := ∀ (E : List (ByteArray × T)) (ok : Nat → Prop) (W : World) (v : Value), (∀ k, W.heap.size ≤ k → ok k) → TreeAt W ok v (mapTree [(bs kind, mapTree E)]) → E.length ≤ 4194000 →
  Calls Tryz.prog 69 #[v] W (RetTree ok W (mapTree [(bs kind, mapTree (if mm = true then kindedE E else E))]))
theorem kinded_no {kind : List UInt8} (h : kind ≠ nMulti) : KindedOK false kind := fun E ok W v hok hv _ =>
  kinded_other ok W v _ hok hv (mapTree_kind _) (mapTree_len _) (Nat.le_trans (mapTree_le _) (by simp)) (within_none h)
theorem foldEE_len (E : List (ByteArray × T)) : (foldEE E).length ≤ E.length := by
  unfold foldEE foldE
  rw [List.length_map, List.length_zip, mapTree_len, Nat.min_self]
  exact mapTree_le E

theorem strs_one {w : World} {ok : Nat → Prop} {g : Nat} {s : ByteArray} (hb : w.heap[g]? = some (.cells #[.string s] 9 (0, 0))) (hg : ok g) : StrsAt w ok (.slice (some ⟨g, 0, none⟩) 1 1) [s] := by
  refine ⟨_, 1, rfl, Nat.le_refl _, fun i k hi => ⟨g, 0, rfl, hg, ?_⟩⟩
  match i, hi with
  | 0, hi => cases hi; rw [cell_of_row w g _ _ _ _ hb]; rfl
  | i + 1, hi => simp at hi

set_option maxHeartbeats 4000000 in
set_option maxRecDepth 100000 in
theorem several_any (B : Builder) (mm : Bool) (kind : List UInt8) (hK : KindedOK mm kind) (ok : Nat → Prop) (W : World) (vt vf vs : Value) (text : T) (fs : List ByteArray) (ss : List S) (hok : ∀ k, W.heap.size ≤ k → ok k) (hG : Glob W) (ht : TreeAt W ok vt text) (hf : StrsAt W ok vf fs) (hs : SetsAt W ok vs ss) (hl : fs.length ≤ 2097152) (hl' : ss.length ≤ 2097152)
    (hk : kind.length ≤ 1000) (hE : ∀ p ∈ pE (sevS B.rows text (fieldKids fs ss) ss), (p.2.kind == 5) = false ∧ p.2.text.size < 35184372088832 ∧ p.1.size ≤ 9223372036854775807) :
    Calls Tryz.prog 21 #[.string (bs kind), .string (bs B.nm), vt, vf, vs] W (RetTree ok W (mapTree [(bs kind, mapTree (finE mm (pE (sevS B.rows text (fieldKids fs ss) ss))))])) := by
  have HT := hide (ht.weaken (ok' := fun j => ok j ∧ j < W.heap.size) fun k h0 h => ⟨h0, h⟩)
  have HF := hide (hf.weaken (ok' := fun j => ok j ∧ j < W.heap.size) fun k h0 h => ⟨h0, h⟩)
  have HS := hide (hs.weaken (ok' := fun j => ok j ∧ j < W.heap.size) fun k h0 h => ⟨h0, h⟩)
  obtain ⟨ta, tac, tb, tbc, c0, rfl, -⟩ := HT.out.open
  have HOK := hide hok
  have HG := hide hG
  have HK := hide hK
  have HE := hide hE
  obtain ⟨ok', hok'⟩ : ∃ p : Nat → Prop, p = fun j => ok j ∧ j ≠ W.heap.size + 1 := ⟨_, rfl⟩
  have HOK' : Hid (∀ k, W.heap.size + 2 ≤ k → ok' k) := hide (by rw [hok']; intro k hk; exact ⟨HOK.out k (by omega), by omega⟩)
  have HN1 : Hid (¬ ok' (W.heap.size + 1)) := hide (by rw [hok']; intro h; exact h.2 rfl)
  have HOO : Hid (∀ k, ok' k → ok k) := hide (by rw [hok']; intro k h; exact h.1)
  have HO0 : Hid (∀ k, ok k ∧ k < W.heap.size → ok' k) := hide (by rw [hok']; intro k h; exact ⟨h.1, by omega⟩)
  clear ht hf hs hok hG hK hE hok'
  have HPL := hide (params_le B.rows ss)
  have hps : (paramsS B.rows ss).length ≤ 100 := Nat.le_trans HPL.out B.small
  have HFE : Hid (fieldKids fs ss = fieldKids fs ss) := hide rfl
  have HFL := hide (kids_le fs ss ss.length)
  go_enter Tryz.func21, Tryz.ntmps21
  go_wp2_with fail
  obtain ⟨Wa, hWa⟩ : ∃ z, z = (W.alloc (.cells #[.int .i64 text.kind, .string text.text, .float .f64 text.num, .bool text.yes, .slice ta text.keys.length tac, .slice tb text.kids.length tbc] 26 (0, 0))).alloc (.cells #[.int .i64 0, .string ⟨#[]⟩, .float .f64 0, .bool false, .slice none 0 0, .slice none 0 0] 26 (0, 0)) := ⟨_, rfl⟩
  have hz : Wa.heap.size = W.heap.size + 2 := by rw [hWa]; simp
  have HBa : Hid (Below W.heap.size W Wa) := hide (by rw [hWa]; go_grown)
  have HB0 : Hid (Wa.heap[W.heap.size]? = some (.cells #[.int .i64 text.kind, .string text.text, .float .f64 text.num, .bool text.yes, .slice ta text.keys.length tac, .slice tb text.kids.length tbc] 26 (0, 0))) := hide (by rw [hWa]; exact (MapKept.heap_alloc _ _).2 _ (by simp) |>.trans (heap_alloc_new _ _))
  have HR0 : Hid (Wa.heap[W.heap.size + 1]? = some (.cells #[.int .i64 0, .string ⟨#[]⟩, .float .f64 0, .bool false, .slice none 0 0, .slice none 0 0] 26 (0, 0))) := hide (by rw [hWa]; exact heap_alloc_two _ _ _)
  rw [← hWa]
  clear hWa
  refine (params_any B (fun j => ok j ∧ j < W.heap.size) ss vs Wa (HS.out.same (Same.of_below HBa.out)) (by omega)).mono ?_
  rintro e w1 ⟨v1, vs1, rfl, hown1, hset1, hb1⟩
  have HOW1 := hide hown1
  have HST1 := hide hset1
  have HB1 := hide hb1
  have hs1 := hb1.size
  clear hown1 hset1 hb1
  go_wp2_with fail
  have HST1' : Hid (SetsAt (w1.alloc (.cells #[.string (bs nField)] 9 (0, 0))) ok' v1 (paramsS B.rows ss)) := hide (by
    refine SetsAt.same (Same.of_below (by go_grown)) (sets_of_own80 HOW1.out ((HST1.out.weaken fun k hk _ => HO0.out k hk.1)) fun k hk => HOK'.out k (by have := (own_lt HOW1.out hk).1; omega))
  )
  refine (pick_any ok' (paramsS B.rows ss) [bs nField] v1 _ _ HST1'.out (strs_one (heap_alloc_new w1 _) (HOK'.out _ (by omega))) (by omega) (by simp)).mono ?_
  rintro e w2 ⟨v2, vs2, rfl, hown2, hset2, hb2⟩
  have hN1 : w1.heap.size + 1 ≤ w2.heap.size := by have := hb2.size; simpa using this
  have HOW2 : Hid (w2.ownsRow (w1.heap.size + 1) 80 7 v2 (pickS (paramsS B.rows ss) [bs nField]).length (cellsOf vs2)) := hide (by have := hown2; simpa using this)
  have HST2 : Hid (SettersAt w2 (fun j => ok' j ∧ j < w1.heap.size + 1) vs2 (pickS (paramsS B.rows ss) [bs nField])) := hide (by have := hset2; simpa using this)
  have HB2 : Hid (Below W.heap.size W w2) := hide ((HBa.out.trans (HB1.out.mono HBa.out.size)).trans (Below.trans (show Below W.heap.size w1 (w1.alloc (.cells #[.string (bs nField)] 9 (0, 0))) from (Below.refl _ _).alloc (by omega) _) (hb2.mono (by simp; omega))))
  have HB2a : Hid (Below Wa.heap.size Wa w2) := hide (HB1.out.trans (Below.trans (show Below Wa.heap.size w1 (w1.alloc (.cells #[.string (bs nField)] 9 (0, 0))) from (Below.refl _ _).alloc (by omega) _) (hb2.mono (by simp; omega))))
  clear hown2 hset2 hb2
  go_wp2_with fail
  refine (fieldsOf_any (fun j => ok j ∧ j < W.heap.size) fs ss vf vs w2 (HF.out.same (Same.of_below HB2.out)) (HS.out.same (Same.of_below HB2.out)) (by omega) (by omega)).mono ?_
  rintro e w3 ⟨v3, rfl, hs3, hb3⟩
  have HB3 := hide hb3
  have HS3 := hide hs3
  have hsz3 := hb3.size
  have HOW3 : Hid (w3.ownsRow (w1.heap.size + 1) 80 7 v2 (pickS (paramsS B.rows ss) [bs nField]).length (cellsOf vs2)) := hide (own_kept0 HOW2.out hb3)
  have HST3 : Hid (SettersAt w3 (fun j => ok' j ∧ v2.ownBlock ≠ some j) vs2 (pickS (paramsS B.rows ss) [bs nField])) := hide ((SettersAt.same (Same.of_below hb3) HST2.out).weaken fun k hk _ => ⟨hk.1, fun e => by have := (own_lt HOW2.out e).1; have := hk.2; omega⟩)
  have hpk : (pickS (paramsS B.rows ss) [bs nField]).length ≤ 100 := by
    unfold pickS
    exact Nat.le_trans (List.length_filter_le _ _) hps
  clear hb3
  obtain ⟨n2, hn2⟩ : ∃ n, n = (pickS (paramsS B.rows ss) [bs nField]).length := ⟨_, rfl⟩
  rw [← hn2] at hpk
  have HN2 := hide hn2
  clear hn2
  obtain ⟨a3, cap3, c3, rfl, hcap3, hc3, ht3⟩ := hs3
  obtain ⟨m3, hm3⟩ : ∃ m, m = (fieldsS (fieldKids fs ss)).length := ⟨_, rfl⟩
  have hm1 : m3 ≤ 1 := by
    rw [hm3]
    unfold fieldsS
    split <;> simp
  have HM3 := hide hm3
  have HC3 := hide hc3
  have HT3 := hide ht3
  rw [← hm3]
  clear hm3 hc3 ht3 HS3
  have HB23 : Hid (Below W.heap.size W w3 ∧ Below Wa.heap.size Wa w3) := hide ⟨HB2.out.trans (HB3.out.mono HB2.out.size), HB2a.out.trans (HB3.out.mono HB2a.out.size)⟩
  have hz3 : Wa.heap.size ≤ w1.heap.size := hs1
  rcases Nat.eq_zero_or_pos m3 with h0 | h0
  case' inl =>
    subst h0
    go_upto_region 2 with (at_builtin; go_loud (refine wpList_append_any _ rfl (.tmp 16) (.tmp 19) 81 rfl (w1.heap.size + 1) 80 _ 7 104 Tryz.underlying81 Tryz.info80 rfl (by decide) v2 n2 (cellsOf vs2) rfl (by rw [HN2.out]; exact HOW3.out) a3 0 cap3 [] rfl rfl (fun j u h => by simp at h) (fun u h => by simp at h) (by omega) (by omega) (by omega) ?_; intro v5 w5 hown5 hg5))
    have HP5 : Hid (∃ n5 vs5, n5 = (pickS (paramsS B.rows ss) [bs nField] ++ fieldsS (fieldKids fs ss)).length ∧ w5.ownsRow (w1.heap.size + 1) 80 7 v5 n5 (cellsOf vs5) ∧ SettersAt w5 (fun j => ok' j ∧ v5.ownBlock ≠ some j) vs5 (pickS (paramsS B.rows ss) [bs nField] ++ fieldsS (fieldKids fs ss))) := hide (by
      have he : fieldsS (fieldKids fs ss) = [] := List.eq_nil_of_length_eq_zero HM3.out.symm
      rw [he, List.append_nil]
      refine ⟨n2, vs2, HN2.out, by simpa using hown5, ?_⟩
      have h1 := (SettersAt.same (Same.of_below HB3.out) HST2.out).weaken (ok' := fun j => (ok' j ∧ j < w1.heap.size + 1)) fun k h hl => h
      have h2 : SettersAt w5 (fun j => ok' j ∧ j < w1.heap.size + 1) vs2 _ := h1.same fun k hk hl => hg5.block k hl fun e => by have := (own_lt HOW3.out e.symm).1; have := hk.2; omega
      exact h2.weaken fun k hk _ => ⟨hk.1, fun e => by have := (own_lt hown5 e).1; have := hk.2; omega⟩)
    have HG5 := hide hg5
    clear hown5 hg5
  case' inr =>
    obtain rfl : m3 = 1 := by omega
    obtain ⟨p, hp⟩ : ∃ p, fieldsS (fieldKids fs ss) = [p] := by
      have := HM3.out
      match h : fieldsS (fieldKids fs ss) with
      | [] => rw [h] at this; cases this
      | [p] => exact ⟨p, rfl⟩
      | _ :: _ :: _ => rw [h] at this; simp at this
    obtain ⟨b3, o3, rfl, hok3, hcell3⟩ := HC3.out 0 (by rw [hp]; exact Nat.zero_lt_one)
    obtain ⟨hn3, htp⟩ := HT3.out 0 p (by rw [hp]; rfl)
    obtain ⟨ea, eac, eb, ebc, ce, hv6, -⟩ := htp.open
    rw [hv6] at htp
    simp only [Value.agg.injEq, Array.mk.injEq, List.cons.injEq, and_true] at hv6
    obtain ⟨q1, q2, q3, q4, q5, q6⟩ := hv6
    have HNEW : Hid (∀ (j : Nat) u, [Value.string p.name, .int .i64 p.value.kind, .string p.value.text, .float .f64 p.value.num, .bool p.value.yes, .slice ea p.value.keys.length eac, .slice eb p.value.kids.length ebc][j]? = some u → w3.cell? ((⟨b3, o3, none⟩ : Addr).add j) = some u) := hide (by
      intro j u hu
      rw [show (⟨b3, o3, none⟩ : Addr).add j = ⟨b3, o3 + j, none⟩ by unfold Addr.add; split <;> simp_all]
      have hj : j < 7 := (List.getElem?_eq_some_iff.1 hu).1
      have h := hcell3 j hj
      rw [Nat.zero_mul, Nat.add_zero] at h
      rw [h]
      match j, hu with
      | 0, hu => cases hu; rw [hn3]
      | 1, hu => cases hu; rw [q1]
      | 2, hu => cases hu; rw [q2]
      | 3, hu => cases hu; rw [q3]
      | 4, hu => cases hu; rw [q4]
      | 5, hu => cases hu; rw [q5]
      | 6, hu => cases hu; rw [q6]
      | j + 7, hu => simp at hu)
    have HTP := hide htp
    have HPP := hide hp
    obtain ⟨i80, hi80, hy0, hy1, hy2⟩ := info_parts Tryz.info80
    clear hcell3 hn3 q1 q2 q3 q4 q5 q6 htp hp
    go_upto_region 2 with (at_builtin; go_loud (refine wpList_append_lies _ rfl (.tmp 16) (.tmp 19) 81 rfl (w1.heap.size + 1) 80 i80 _ 7 104 Tryz.underlying81 hi80 hy0 hy1 hy2 rfl (by decide) v2 n2 (cellsOf vs2) rfl (by rw [HN2.out]; exact HOW3.out) ⟨b3, o3, none⟩ 1 cap3 [.string p.name, .int .i64 p.value.kind, .string p.value.text, .float .f64 p.value.num, .bool p.value.yes, .slice ea p.value.keys.length eac, .slice eb p.value.kids.length ebc] rfl rfl HNEW.out (by intro u hu; simp at hu; rcases hu with rfl | rfl | rfl | rfl | rfl | rfl | rfl <;> rfl) (by decide) (by unfold maxLen; omega) (by omega) (by omega) _ rfl ?_; intro g5 cp5 w5 hown5 hg5 hat5 _))
    obtain ⟨v5, hv5⟩ : ∃ v, v = Value.slice (some ⟨g5, 0, none⟩) (n2 + 1) cp5 := ⟨_, rfl⟩
    have HP5 : Hid (∃ n5 vs5, n5 = (pickS (paramsS B.rows ss) [bs nField] ++ fieldsS (fieldKids fs ss)).length ∧ w5.ownsRow (w1.heap.size + 1) 80 7 v5 n5 (cellsOf vs5) ∧ SettersAt w5 (fun j => ok' j ∧ v5.ownBlock ≠ some j) vs5 (pickS (paramsS B.rows ss) [bs nField] ++ fieldsS (fieldKids fs ss))) := hide (by
      obtain ⟨r1, r2⟩ := pairs_push (N := w1.heap.size + 1) (nv := .agg #[.string p.name, .int .i64 p.value.kind, .string p.value.text, .float .f64 p.value.num, .bool p.value.yes, .slice ea p.value.keys.length eac, .slice eb p.value.kids.length ebc]) HST3.out ⟨_, rfl, HTP.out.weaken fun k hk _ => ⟨HOK'.out k (by unfold newB at hk; omega), fun e => by have := (own_lt HOW2.out e).2; unfold newB at hk; omega⟩⟩ hown5 hg5 hat5
      rw [HPP.out, hv5]
      exact ⟨n2 + 1, _, by rw [List.length_append, ← HN2.out]; rfl, r1, r2⟩)
    have HG5 := hide hg5
    rw [← hv5]
    clear hown5 hg5 hat5 hv5
  all_goals
    obtain ⟨n5, vs5, hn5, ho5, hst5⟩ := HP5.out
    have HN5 := hide hn5
    have HO5 := hide ho5
    have HST5 := hide hst5
    have hn5' : n5 ≤ 200 := by
      have := HM3.out
      rw [hn5, List.length_append, ← HN2.out]; omega
    have hgo : ∀ g, v2.ownBlock = some g → w1.heap.size + 1 ≤ g ∧ g < w2.heap.size := fun g hg => own_lt HOW2.out hg
    have HB5 : Hid (Below Wa.heap.size Wa w5) := hide ⟨HG5.out.os.trans HB23.out.2.os, HG5.out.tape.trans HB23.out.2.tape, HG5.out.output.trans HB23.out.2.output, Nat.le_trans HB23.out.2.size HG5.out.size, fun k hk => (HG5.out.block k (by omega) (fun e => by have := hgo k e.symm; omega)).trans (HB23.out.2.block k hk)⟩
    have hs5 : w3.heap.size ≤ w5.heap.size := HG5.out.size
    have hx5 : w5.heap[W.heap.size]? = some (.cells #[.int .i64 text.kind, .string text.text, .float .f64 text.num, .bool text.yes, .slice ta text.keys.length tac, .slice tb text.kids.length tbc] 26 (0, 0)) := (HB5.out.block _ (by omega)).trans HB0.out
    have hr5 : w5.heap[W.heap.size + 1]? = some (.cells #[.int .i64 0, .string ⟨#[]⟩, .float .f64 0, .bool false, .slice none 0 0, .slice none 0 0] 26 (0, 0)) := (HB5.out.block _ (by omega)).trans HR0.out
    have HR5 := hide hr5
    have c0 : w5.cell? ⟨W.heap.size, 0, none⟩ = some (.int .i64 text.kind) := (by rw [cell_of_row w5 _ 0 _ _ _ hx5]; rfl)
    have c1 : w5.cell? ⟨W.heap.size, 1, none⟩ = some (.string text.text) := (by rw [cell_of_row w5 _ 1 _ _ _ hx5]; rfl)
    have c2 : w5.cell? ⟨W.heap.size, 2, none⟩ = some (.float .f64 text.num) := (by rw [cell_of_row w5 _ 2 _ _ _ hx5]; rfl)
    have c3 : w5.cell? ⟨W.heap.size, 3, none⟩ = some (.bool text.yes) := (by rw [cell_of_row w5 _ 3 _ _ _ hx5]; rfl)
    have c4 : w5.cell? ⟨W.heap.size, 4, none⟩ = some (.slice ta text.keys.length tac) := (by rw [cell_of_row w5 _ 4 _ _ _ hx5]; rfl)
    have c5 : w5.cell? ⟨W.heap.size, 5, none⟩ = some (.slice tb text.kids.length tbc) := (by rw [cell_of_row w5 _ 5 _ _ _ hx5]; rfl)
    clear hn5 ho5 hst5 hgo hx5 hr5 HP5
    go_wp2_with (at_builtin; go_loud (refine wpList_append_one _ rfl (.tmp 22) (.tmp 25) 81 rfl (w1.heap.size + 1) 80 _ 7 104 Tryz.underlying81 Tryz.info80 rfl (by decide) v5 n5 (cellsOf vs5) rfl (HO5.out.alloc _) w5.heap.size 1 _ 80 rfl (heap_alloc_new w5 _) rfl (by intro u hu; simp at hu; rcases hu with rfl | rfl | rfl | rfl | rfl | rfl | rfl <;> rfl) (by omega) (by omega) (by simp; omega) ?_; intro g6 cp6 w6 hown6 hg6 hat6))
    have hs56 : w5.heap.size + 1 ≤ w6.heap.size := by have := hg6.size; simpa using this
    have h5own : ∀ g, v5.ownBlock = some g → w1.heap.size + 1 ≤ g := fun g hg => (own_lt HO5.out hg).1
    have HB6 : Hid (Below Wa.heap.size Wa w6) := hide (by
      have h1 : Below Wa.heap.size w5 (w5.alloc (.cells #[.string (bs nQuery), .int .i64 text.kind, .string text.text, .float .f64 text.num, .bool text.yes, .slice ta text.keys.length tac, .slice tb text.kids.length tbc] 80 (0, 0))) := (Below.refl _ _).alloc (by omega) _
      have h2 := HB5.out.trans h1
      exact ⟨hg6.os.trans h2.os, hg6.tape.trans h2.tape, hg6.output.trans h2.output, Nat.le_trans h2.size hg6.size, fun k hk => (hg6.block k (by simp; omega) (fun e => by have := h5own k e.symm; omega)).trans (h2.block k hk)⟩)
    obtain ⟨v6, hv6⟩ : ∃ v, v = Value.slice (some ⟨g6, 0, none⟩) (n5 + 1) cp6 := ⟨_, rfl⟩
    have HS6 : Hid (SetsAt w6 ok' v6 (sevS B.rows text (fieldKids fs ss) ss)) := hide (by
      obtain ⟨r1, r2⟩ := pairs_push (N := w1.heap.size + 1) (n := n5) (p := ⟨bs nQuery, text⟩) (nv := .agg #[.string (bs nQuery), .int .i64 text.kind, .string text.text, .float .f64 text.num, .bool text.yes, .slice ta text.keys.length tac, .slice tb text.kids.length tbc]) (HST5.out.same (Same.of_below (by go_grown))) ⟨_, rfl, ((HT.out.same (Same.of_below (HBa.out.trans ((HB5.out.mono (by omega)).trans (by go_grown))))).weaken fun k hk _ => ⟨HO0.out k hk, fun e => by have := h5own k e; have := hk.2; omega⟩)⟩ hown6 hg6 hat6
      rw [hv6]
      refine sets_of_own80 (ss := sevS B.rows text (fieldKids fs ss) ss) (by
        have e : (sevS B.rows text (fieldKids fs ss) ss).length = n5 + 1 := by unfold sevS; rw [List.length_append, ← HN5.out]; rfl
        rw [e]; exact r1) (SettersAt.weaken (fun k h _ => h.1) r2) (fun k hk => HOK'.out k (by have := (own_lt r1 hk).1; omega)))
    rw [← hv6]
    clear hown6 hg6 hat6 hv6 h5own
    refine (query_any ok' w6 v6 (bs kind) _ (fun k hk => HOK'.out k (by omega)) HS6.out (by unfold sevS; rw [List.length_append, ← HN5.out]; simp; omega)).mono ?_
    rintro e w7 ⟨v7, rfl, ht7, hb7⟩
    have HT7 := hide ht7
    have HB7 := hide hb7
    have hs7 := hb7.size
    clear ht7 hb7
    go_wp2_with fail
    refine (fold2_any kind (pE (sevS B.rows text (fieldKids fs ss) ss)) ok' w7 v7 (fun k hk => HOK'.out k (by omega)) ((HG.out.below (HBa.out)).below ((HB6.out.trans (HB7.out.mono (by omega))))) HT7.out HE.out hk (by unfold pE sevS; rw [List.length_map, List.length_append, ← HN5.out]; simp; omega)).mono ?_
    rintro e w8 ⟨v8, rfl, ht8, hb8⟩
    have HT8 := hide ht8
    have HB8 := hide hb8
    have hs8 := hb8.size
    clear ht8 hb8
    go_wp2_with fail
    refine (HK.out _ ok' w8 v8 (fun k hk => HOK'.out k (by omega)) HT8.out (Nat.le_trans (foldEE_len _) (by unfold pE sevS; rw [List.length_map, List.length_append, ← HN5.out]; simp; omega))).mono ?_
    rintro e w9 ⟨v9, rfl, ht9, hb9⟩
    obtain ⟨y, hy⟩ : ∃ z, z = mapTree [(bs kind, mapTree (finE mm (pE (sevS B.rows text (fieldKids fs ss) ss))))] := ⟨_, rfl⟩
    have HYE := hide hy
    have ht9' : TreeAt w9 ok' v9 y := by rw [hy]; exact ht9
    obtain ⟨ra, rc, rb, rd, c9, rfl, -⟩ := ht9'.open
    have HY := hide ht9'
    have HB9 : Hid (Below Wa.heap.size Wa w9) := hide (HB6.out.trans ((HB7.out.mono (by omega)).trans ((HB8.out.mono (by omega)).trans (hb9.mono (by omega)))))
    have hr : w9.heap[W.heap.size + 1]? = some (.cells #[.int .i64 0, .string ⟨#[]⟩, .float .f64 0, .bool false, .slice none 0 0, .slice none 0 0] 26 (0, 0)) := (HB9.out.block _ (by omega)).trans HR0.out
    have HR9 := hide hr
    clear hy ht9 hb9 ht9'
    have z0 : w9.cell? ⟨W.heap.size + 1, 0, none⟩ = some (.int .i64 0) := (by rw [cell_of_row w9 _ 0 _ _ _ hr]; rfl)
    have z1 : w9.cell? ⟨W.heap.size + 1, 1, none⟩ = some (.string ⟨#[]⟩) := (by rw [cell_of_row w9 _ 1 _ _ _ hr]; rfl)
    have z2 : w9.cell? ⟨W.heap.size + 1, 2, none⟩ = some (.float .f64 0) := (by rw [cell_of_row w9 _ 2 _ _ _ hr]; rfl)
    have z3 : w9.cell? ⟨W.heap.size + 1, 3, none⟩ = some (.bool false) := (by rw [cell_of_row w9 _ 3 _ _ _ hr]; rfl)
    have z4 : w9.cell? ⟨W.heap.size + 1, 4, none⟩ = some (.slice none 0 0) := (by rw [cell_of_row w9 _ 4 _ _ _ hr]; rfl)
    have z5 : w9.cell? ⟨W.heap.size + 1, 5, none⟩ = some (.slice none 0 0) := (by rw [cell_of_row w9 _ 5 _ _ _ hr]; rfl)
    have fr : ∀ j, w9.frozen? ⟨W.heap.size + 1, j, none⟩ = false := fun j => frozen_of_row w9 _ j _ _ hr
    clear hr
    go_wp2_with fail
    have HZ := hide (set6 HR9.out (.int .i64 y.kind) (.string y.text) (.float .f64 y.num) (.bool y.yes) (.slice ra y.keys.length rc) (.slice rb y.kids.length rd))
    have HS := hide (same6 (ok := ok') (w1 := w9) (b := W.heap.size + 1) (HN1.out) (.int .i64 y.kind) (.string y.text) (.float .f64 y.num) (.bool y.yes) (.slice ra y.keys.length rc) (.slice rb y.kids.length rd))
    have HL6 := hide (below6 (n := W.heap.size) (w1 := w9) (b := W.heap.size + 1) (by omega) (.int .i64 y.kind) (.string y.text) (.float .f64 y.num) (.bool y.yes) (.slice ra y.keys.length rc) (.slice rb y.kids.length rd))
    generalize ((((((w9.setCell ⟨W.heap.size + 1, 0, none⟩ (.int .i64 y.kind)).setCell ⟨W.heap.size + 1, 1, none⟩ (.string y.text)).setCell ⟨W.heap.size + 1, 2, none⟩ (.float .f64 y.num)).setCell ⟨W.heap.size + 1, 3, none⟩ (.bool y.yes)).setCell ⟨W.heap.size + 1, 4, none⟩ (.slice ra y.keys.length rc)).setCell ⟨W.heap.size + 1, 5, none⟩ (.slice rb y.kids.length rd)) = wz at *
    have e0 : wz.cell? ⟨W.heap.size + 1, 0, none⟩ = some (.int .i64 y.kind) := by rw [cell_of_row wz _ 0 _ _ _ HZ.out]; rfl
    have e1 : wz.cell? ⟨W.heap.size + 1, 1, none⟩ = some (.string y.text) := by rw [cell_of_row wz _ 1 _ _ _ HZ.out]; rfl
    have e2 : wz.cell? ⟨W.heap.size + 1, 2, none⟩ = some (.float .f64 y.num) := by rw [cell_of_row wz _ 2 _ _ _ HZ.out]; rfl
    have e3 : wz.cell? ⟨W.heap.size + 1, 3, none⟩ = some (.bool y.yes) := by rw [cell_of_row wz _ 3 _ _ _ HZ.out]; rfl
    have e4 : wz.cell? ⟨W.heap.size + 1, 4, none⟩ = some (.slice ra y.keys.length rc) := by rw [cell_of_row wz _ 4 _ _ _ HZ.out]; rfl
    have e5 : wz.cell? ⟨W.heap.size + 1, 5, none⟩ = some (.slice rb y.kids.length rd) := by rw [cell_of_row wz _ 5 _ _ _ HZ.out]; rfl
    refine bodyPost_ret (by simp [results, Tryz.results21, go_sem, e0, e1, e2, e3, e4, e5]; try rfl) rfl ?_
    refine ⟨_, rfl, ?_, ?_⟩
    · rw [← HYE.out]
      exact (HY.out.same HS.out).weaken fun k hk _ => HOO.out k hk
    · exact (HBa.out.trans (HB9.out.mono (by omega))).trans HL6.out
end Go.Proofs.YtbcnhcpgloncdaaGreatDoor
