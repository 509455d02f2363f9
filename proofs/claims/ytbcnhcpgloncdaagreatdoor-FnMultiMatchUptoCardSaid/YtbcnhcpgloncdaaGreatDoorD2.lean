/-
  spec.kinded of a multi_match query.
-/
import Derived.Test.YtbcnhcpgloncdaaGreatDoorA15
namespace Go.Proofs.YtbcnhcpgloncdaaGreatDoor
open Go.RowKit Go.Sort Go.ChangeMaps Go.MapKept Go.Lib

theorem size6 (w : World) (b : Nat) (v0 v1 v2 v3 v4 v5 : Value) : ((((((w.setCell ⟨b, 0, none⟩ v0).setCell ⟨b, 1, none⟩ v1).setCell ⟨b, 2, none⟩ v2).setCell ⟨b, 3, none⟩ v3).setCell ⟨b, 4, none⟩ v4).setCell ⟨b, 5, none⟩ v5).heap.size = w.heap.size := by simp
theorem one_key (x : T) : mapKeys [(bs nMulti, x)] = [nMulti] := by
  unfold mapKeys
  have e : nub ([(bs nMulti, x)].map fun p => p.1.data.toList) = [nMulti] := by simp [nub]; rfl
  rw [e]
  exact List.mergeSort_singleton _
theorem within_multi (E : List (ByteArray × T)) : withinT (mapTree [(bs nMulti, mapTree E)]) (bs nMulti) = some (mapTree E) := by
  unfold withinT
  rw [atT_map, lookL_one]
  have e : eqB (bs nMulti) (bs nMulti) = true := (eqB_iff _ _).2 rfl
  have h1 : (mapTree [(bs nMulti, mapTree E)]).keys.length = 1 := by rw [mapTree_keys, List.length_map]; exact congrArg List.length (one_key _)
  rw [if_pos e, Option.bind_some, if_pos ⟨h1, mapTree_kind _⟩]
theorem tie_added (E : List (ByteArray × T)) (v : T) : lookL (E ++ [(bs nType, v)]) (bs nTie) = lookL E (bs nTie) := by
  rw [lookL_snoc, if_neg (by rw [type_tie.1]; simp)]

set_option maxHeartbeats 8000000 in
set_option maxRecDepth 100000 in
theorem kinded_mm (E : List (ByteArray × T)) (ok : Nat → Prop) (W : World) (v : Value) (hok : ∀ k, W.heap.size ≤ k → ok k) (hv : TreeAt W ok v (mapTree [(bs nMulti, mapTree E)])) (hE : E.length ≤ 4194000) :
    Calls Tryz.prog 69 #[v] W (RetTree ok W (mapTree [(bs nMulti, mapTree (kindedE E))])) := by
  obtain ⟨t, hte⟩ : ∃ z, z = mapTree [(bs nMulti, mapTree E)] := ⟨_, rfl⟩
  rw [← hte] at hv
  have hin : withinT t (bs nMulti) = some (mapTree E) := by rw [hte]; exact within_multi E
  have hkind : t.kind = 5 := by rw [hte]; exact mapTree_kind _
  have hl : t.keys.length = t.kids.length := by rw [hte]; exact mapTree_len _
  have hb : t.kids.length ≤ 4194304 := by rw [hte]; exact Nat.le_trans (mapTree_le _) (by simp)
  obtain ⟨ok1, hok1⟩ : ∃ p : Nat → Prop, p = fun j => ok j ∧ j ≠ W.heap.size + 1 := ⟨_, rfl⟩
  have HV := hide (show TreeAt W ok1 v t by rw [hok1]; exact hv.weaken fun k h0 h => ⟨h0, by omega⟩)
  have HOK1 : Hid (∀ k, W.heap.size + 2 ≤ k → ok1 k) := hide (by rw [hok1]; intro k hk; exact ⟨hok k (by omega), by omega⟩)
  have HN1 : Hid (¬ ok1 (W.heap.size + 1)) := hide (by rw [hok1]; intro h; exact h.2 rfl)
  have HO1 : Hid (∀ k, ok1 k → ok k) := hide (by rw [hok1]; intro k h; exact h.1)
  have HW := hide (fun (w : World) (v : Value) (h1 : ∀ k, w.heap.size ≤ k → ok1 k) (h2 : TreeAt w ok1 v t) => within_any ok1 w v t (bs nMulti) h1 h2 hkind hl (by omega))
  obtain ⟨ka, kac, ta, tac, c, rfl, -⟩ := hv.open
  clear hv hok hok1 hkind hl hb hte
  go_enter Tryz.func69, Tryz.ntmps69
  go_wp2_with fail
  refine (HW.out _ _ (fun k hk => HOK1.out k (by simp at hk; omega)) (HV.out.same (Same.of_below (by go_grown)))).mono ?_
  rintro e w1 ⟨u0, x, rfl, hx, hxe, hb1⟩
  rw [hin, show (some (mapTree E) : Option T).isSome = true from rfl]
  have hxe := hxe _ hin
  obtain ⟨xa, xc, ya, yc, c2, rfl, -⟩ := hx.open
  have HX := hide hx
  have HXE := hide hxe
  have hs1 : W.heap.size + 2 ≤ w1.heap.size := by have := hb1.size; simpa using this
  have HB : Hid (Below W.heap.size W w1) := hide (Below.trans (by go_grown) (hb1.mono (by simp; omega)))
  have HR : Hid (w1.heap[(W.heap.size + 1)]? = some (.cells #[.int .i64 0, .string ⟨#[]⟩, .float .f64 0, .bool false, .slice none 0 0, .slice none 0 0] 26 (0, 0))) := hide ((hb1.block _ (by simp)).trans (heap_alloc_two _ _ _))
  clear hx hb1 hxe hin HW HV
  go_upto_region 2 with fail
  obtain ⟨Xz0, Xb0⟩ := new_at w1 #[.int .i64 x.kind, .string x.text, .float .f64 x.num, .bool x.yes, .slice xa x.keys.length xc, .slice ya x.kids.length yc]
  have XZ := hide Xz0
  have XB := hide Xb0
  clear Xz0 Xb0
  generalize hwzX : w1.alloc (.cells #[.int .i64 x.kind, .string x.text, .float .f64 x.num, .bool x.yes, .slice xa x.keys.length xc, .slice ya x.kids.length yc] 26 (0, 0)) = w2 at *
  have XS : w1.heap.size < w2.heap.size := lt_of_block XZ.out
  clear hwzX
  obtain ⟨ok2, hok2⟩ : ∃ p : Nat → Prop, p = fun j => ok1 j ∧ j ≠ w1.heap.size := ⟨_, rfl⟩
  have HOK2 : Hid (∀ k, w1.heap.size + 1 ≤ k → ok2 k) := hide (by rw [hok2]; intro k hk; exact ⟨HOK1.out k (by omega), by omega⟩)
  have HN2 : Hid (¬ ok2 w1.heap.size) := hide (by rw [hok2]; intro h; exact h.2 rfl)
  have HO2 : Hid (∀ k, ok2 k → ok1 k) := hide (by rw [hok2]; intro k h; exact h.1)
  have HX2 : Hid (TreeAt w2 ok2 (.agg #[.int .i64 x.kind, .string x.text, .float .f64 x.num, .bool x.yes, .slice xa x.keys.length xc, .slice ya x.kids.length yc]) x) := hide ((HX.out.weaken (ok' := ok2) fun k hk hlt => by rw [hok2]; exact ⟨hk, by omega⟩).same (Same.of_below XB.out))
  have HR2 : Hid (w2.heap[(W.heap.size + 1)]? = some (.cells #[.int .i64 0, .string ⟨#[]⟩, .float .f64 0, .bool false, .slice none 0 0, .slice none 0 0] 26 (0, 0))) := hide (zero6 HR.out XB.out)
  clear hok2
  have c0 : w2.cell? ⟨w1.heap.size, 0, none⟩ = some (.int .i64 x.kind) := (by rw [cell_of_row w2 _ 0 _ _ _ XZ.out]; rfl)
  have c1 : w2.cell? ⟨w1.heap.size, 1, none⟩ = some (.string x.text) := (by rw [cell_of_row w2 _ 1 _ _ _ XZ.out]; rfl)
  have c2 : w2.cell? ⟨w1.heap.size, 2, none⟩ = some (.float .f64 x.num) := (by rw [cell_of_row w2 _ 2 _ _ _ XZ.out]; rfl)
  have c3 : w2.cell? ⟨w1.heap.size, 3, none⟩ = some (.bool x.yes) := (by rw [cell_of_row w2 _ 3 _ _ _ XZ.out]; rfl)
  have c4 : w2.cell? ⟨w1.heap.size, 4, none⟩ = some (.slice xa x.keys.length xc) := (by rw [cell_of_row w2 _ 4 _ _ _ XZ.out]; rfl)
  have c5 : w2.cell? ⟨w1.heap.size, 5, none⟩ = some (.slice ya x.kids.length yc) := (by rw [cell_of_row w2 _ 5 _ _ _ XZ.out]; rfl)
  have HKX : Hid (x.kind = 5 ∧ x.keys.length = x.kids.length ∧ x.kids.length ≤ 4194000 ∧ atT x (bs nType) = lookL E (bs nType)) := hide (by rw [HXE.out]; exact ⟨mapTree_kind _, mapTree_len _, Nat.le_trans (mapTree_le _) hE, atT_map _ _⟩)
  go_wp2_with fail
  refine (at_any ok2 x _ (bs nType) _ HX2.out HKX.out.1 HKX.out.2.1 (by have := HKX.out.2.2.1; omega)).mono ?_
  rintro e w3 ⟨v9, u, rfl, hu, hue, hb3⟩
  rw [HKX.out.2.2.2] at hue ⊢
  obtain ⟨ua, uc, ub, ud, c4, rfl, -⟩ := hu.open
  have HU := hide hu
  have HUE := hide hue
  have HB3 := hide hb3
  have hs3 := hb3.size
  clear hu hue hb3 c0 c1 c2 c3 c4 c5
  go_upto_region 5 with fail
  obtain ⟨Uz0, Ub0⟩ := new_at w3 #[.int .i64 u.kind, .string u.text, .float .f64 u.num, .bool u.yes, .slice ua u.keys.length uc, .slice ub u.kids.length ud]
  have UZ := hide Uz0
  have UB := hide Ub0
  clear Uz0 Ub0
  generalize hwzU : w3.alloc (.cells #[.int .i64 u.kind, .string u.text, .float .f64 u.num, .bool u.yes, .slice ua u.keys.length uc, .slice ub u.kids.length ud] 26 (0, 0)) = w4 at *
  have US : w3.heap.size < w4.heap.size := lt_of_block UZ.out
  clear hwzU
  have hs4 : w3.heap.size + 1 ≤ w4.heap.size := US
  obtain ⟨ok3, hok3⟩ : ∃ p : Nat → Prop, p = fun j => ok2 j ∧ j ≠ w3.heap.size := ⟨_, rfl⟩
  have HOK3 : Hid (∀ k, w3.heap.size + 1 ≤ k → ok3 k) := hide (by rw [hok3]; intro k hk; exact ⟨HOK2.out k (by omega), by omega⟩)
  have HN3 : Hid (¬ ok3 w3.heap.size) := hide (by rw [hok3]; intro h; exact h.2 rfl)
  have HN32 : Hid (¬ ok3 w1.heap.size) := hide (by rw [hok3]; intro h; exact HN2.out h.1)
  have HN31 : Hid (¬ ok3 (W.heap.size + 1)) := hide (by rw [hok3]; intro h; exact HN1.out (HO2.out _ h.1))
  have HO3 : Hid (∀ k, ok3 k → ok2 k) := hide (by rw [hok3]; intro k h; exact h.1)
  have HB24 : Hid (Below w2.heap.size w2 w4) := hide (HB3.out.trans (UB.out.mono HB3.out.size))
  have HU4 : Hid (TreeAt w4 ok3 (.agg #[.int .i64 u.kind, .string u.text, .float .f64 u.num, .bool u.yes, .slice ua u.keys.length uc, .slice ub u.kids.length ud]) u) := hide ((HU.out.weaken (ok' := ok3) fun k hk hlt => by rw [hok3]; exact ⟨hk, by omega⟩).same (Same.of_below UB.out))
  have HX4 : Hid (TreeAt w4 ok3 (.agg #[.int .i64 x.kind, .string x.text, .float .f64 x.num, .bool x.yes, .slice xa x.keys.length xc, .slice ya x.kids.length yc]) x) := hide ((HX2.out.weaken (ok' := ok3) fun k hk hlt => by rw [hok3]; exact ⟨hk, by omega⟩).same (Same.of_below HB24.out))
  have HR4 : Hid (w4.heap[(W.heap.size + 1)]? = some (.cells #[.int .i64 0, .string ⟨#[]⟩, .float .f64 0, .bool false, .slice none 0 0, .slice none 0 0] 26 (0, 0))) := hide (zero6 HR2.out HB24.out)
  have HXZ4 : Hid (w4.heap[w1.heap.size]? = some (.cells #[.int .i64 x.kind, .string x.text, .float .f64 x.num, .bool x.yes, .slice xa x.keys.length xc, .slice ya x.kids.length yc] 26 (0, 0))) := hide (zero6 XZ.out HB24.out)
  clear hok3
  obtain ⟨ho, hho⟩ : ∃ z, z = lookL E (bs nType) := ⟨_, rfl⟩
  rw [← hho]
  have HHO := hide hho
  clear hho
  go_upto_if 24 with fail
  go_cut [] from 25 to 25 (fun wx => Below w3.heap.size w4 wx ∧ VarAt wx ok3 w3.heap.size (kindT E) ∧ Same ok3 w4 wx)
  case first =>
    have d0 : w4.cell? ⟨w3.heap.size, 0, none⟩ = some (.int .i64 u.kind) := (by rw [cell_of_row w4 _ 0 _ _ _ UZ.out]; rfl)
    have d1 : w4.cell? ⟨w3.heap.size, 1, none⟩ = some (.string u.text) := (by rw [cell_of_row w4 _ 1 _ _ _ UZ.out]; rfl)
    have d2 : w4.cell? ⟨w3.heap.size, 2, none⟩ = some (.float .f64 u.num) := (by rw [cell_of_row w4 _ 2 _ _ _ UZ.out]; rfl)
    have d3 : w4.cell? ⟨w3.heap.size, 3, none⟩ = some (.bool u.yes) := (by rw [cell_of_row w4 _ 3 _ _ _ UZ.out]; rfl)
    have d4 : w4.cell? ⟨w3.heap.size, 4, none⟩ = some (.slice ua u.keys.length uc) := (by rw [cell_of_row w4 _ 4 _ _ _ UZ.out]; rfl)
    have d5 : w4.cell? ⟨w3.heap.size, 5, none⟩ = some (.slice ub u.kids.length ud) := (by rw [cell_of_row w4 _ 5 _ _ _ UZ.out]; rfl)
    have fd : ∀ j, w4.frozen? ⟨w3.heap.size, j, none⟩ = false := fun j => frozen_of_row w4 _ j _ _ UZ.out
    cases ho with
    | some y =>
      have hy : u = y := HUE.out y HHO.out.symm
      have HNO : Hid (kindT E = u) := hide (by unfold kindT; rw [← HHO.out, hy]; rfl)
      go_wp2_with fail
      go_meet
      exact ⟨Below.refl _ _, by rw [HNO.out]; exact ⟨ua, uc, ub, ud, UZ.out, HU4.out⟩, fun _ _ _ => rfl⟩
    | none =>
      have HNO : Hid (kindT E = tText (bs nBest)) := hide (by unfold kindT; rw [← HHO.out]; rfl)
      go_wp2_with fail
      refine (text_any ok3 _ _).mono ?_
      rintro e w5 ⟨v5, rfl, ht5, hb5⟩
      obtain ⟨kt, hkt⟩ : ∃ z, z = tText (bs nBest) := ⟨_, rfl⟩
      have ht5 : TreeAt w5 ok3 v5 kt := by rw [hkt]; exact ht5
      have HTT := hide hkt
      obtain ⟨pa, pc, pb, pd, cc3, rfl, -⟩ := ht5.open
      have HT5 := hide ht5
      have HB5 := hide hb5
      have hz5 := zero6 UZ.out HB5.out
      have h0 : w5.cell? ⟨w3.heap.size, 0, none⟩ = some (.int .i64 u.kind) := (by rw [cell_of_row w5 _ 0 _ _ _ hz5]; rfl)
      have h1 : w5.cell? ⟨w3.heap.size, 1, none⟩ = some (.string u.text) := (by rw [cell_of_row w5 _ 1 _ _ _ hz5]; rfl)
      have h2 : w5.cell? ⟨w3.heap.size, 2, none⟩ = some (.float .f64 u.num) := (by rw [cell_of_row w5 _ 2 _ _ _ hz5]; rfl)
      have h3 : w5.cell? ⟨w3.heap.size, 3, none⟩ = some (.bool u.yes) := (by rw [cell_of_row w5 _ 3 _ _ _ hz5]; rfl)
      have h4 : w5.cell? ⟨w3.heap.size, 4, none⟩ = some (.slice ua u.keys.length uc) := (by rw [cell_of_row w5 _ 4 _ _ _ hz5]; rfl)
      have h5 : w5.cell? ⟨w3.heap.size, 5, none⟩ = some (.slice ub u.kids.length ud) := (by rw [cell_of_row w5 _ 5 _ _ _ hz5]; rfl)
      have fh : ∀ j, w5.frozen? ⟨w3.heap.size, j, none⟩ = false := fun j => frozen_of_row w5 _ j _ _ hz5
      have HZ5 := hide hz5
      clear ht5 hb5 hkt hz5
      go_wp2_with fail
      go_meet
      refine ⟨(HB5.out.mono (by omega)).trans (below6 (Nat.le_refl _) _ _ _ _ _ _), ?_, fun j hj hlt => (same6 HN3.out _ _ _ _ _ _ j hj (Nat.lt_of_lt_of_le hlt HB5.out.size)).trans (HB5.out.block j hlt)⟩
      rw [HNO.out, ← HTT.out]
      exact VarAt.store HZ5.out HN3.out HT5.out
  case rest =>
    obtain ⟨hbx, hvx, hsx⟩ := hcut
    obtain ⟨kt, hkt⟩ : ∃ z, z = kindT E := ⟨_, rfl⟩
    rw [← hkt] at hvx
    have HKT := hide hkt
    obtain ⟨pa, pc, pb, pd, hk5, htk⟩ := hvx
    have HBX := hide hbx
    have HTK := hide htk
    have hc1 : wc.heap[w1.heap.size]? = _ := (hbx.block _ (by omega)).trans HXZ4.out
    have hrc : wc.heap[W.heap.size + 1]? = _ := (hbx.block _ (by omega)).trans HR4.out
    have HXC : Hid (TreeAt wc ok3 (.agg #[.int .i64 x.kind, .string x.text, .float .f64 x.num, .bool x.yes, .slice xa x.keys.length xc, .slice ya x.kids.length yc]) x) := hide (HX4.out.same hsx)
    have HRC : Hid (wc.heap[(W.heap.size + 1)]? = some (.cells #[.int .i64 0, .string ⟨#[]⟩, .float .f64 0, .bool false, .slice none 0 0, .slice none 0 0] 26 (0, 0))) := hide hrc
    have HC1 : Hid (wc.heap[w1.heap.size]? = some (.cells #[.int .i64 x.kind, .string x.text, .float .f64 x.num, .bool x.yes, .slice xa x.keys.length xc, .slice ya x.kids.length yc] 26 (0, 0))) := hide hc1
    have HC3 := hide hk5
    have HSC : Hid (w3.heap.size < wc.heap.size) := hide (lt_of_block hk5)
    have HBC : Hid (Below w2.heap.size w2 wc) := hide (HB24.out.trans (hbx.mono (by omega)))
    have c0 : wc.cell? ⟨w1.heap.size, 0, none⟩ = some (.int .i64 x.kind) := (by rw [cell_of_row wc _ 0 _ _ _ hc1]; rfl)
    have c1 : wc.cell? ⟨w1.heap.size, 1, none⟩ = some (.string x.text) := (by rw [cell_of_row wc _ 1 _ _ _ hc1]; rfl)
    have c2 : wc.cell? ⟨w1.heap.size, 2, none⟩ = some (.float .f64 x.num) := (by rw [cell_of_row wc _ 2 _ _ _ hc1]; rfl)
    have c3 : wc.cell? ⟨w1.heap.size, 3, none⟩ = some (.bool x.yes) := (by rw [cell_of_row wc _ 3 _ _ _ hc1]; rfl)
    have c4 : wc.cell? ⟨w1.heap.size, 4, none⟩ = some (.slice xa x.keys.length xc) := (by rw [cell_of_row wc _ 4 _ _ _ hc1]; rfl)
    have c5 : wc.cell? ⟨w1.heap.size, 5, none⟩ = some (.slice ya x.kids.length yc) := (by rw [cell_of_row wc _ 5 _ _ _ hc1]; rfl)
    have p0 : wc.cell? ⟨w3.heap.size, 0, none⟩ = some (.int .i64 kt.kind) := (by rw [cell_of_row wc _ 0 _ _ _ hk5]; rfl)
    have p1 : wc.cell? ⟨w3.heap.size, 1, none⟩ = some (.string kt.text) := (by rw [cell_of_row wc _ 1 _ _ _ hk5]; rfl)
    have p2 : wc.cell? ⟨w3.heap.size, 2, none⟩ = some (.float .f64 kt.num) := (by rw [cell_of_row wc _ 2 _ _ _ hk5]; rfl)
    have p3 : wc.cell? ⟨w3.heap.size, 3, none⟩ = some (.bool kt.yes) := (by rw [cell_of_row wc _ 3 _ _ _ hk5]; rfl)
    have p4 : wc.cell? ⟨w3.heap.size, 4, none⟩ = some (.slice pa kt.keys.length pc) := (by rw [cell_of_row wc _ 4 _ _ _ hk5]; rfl)
    have p5 : wc.cell? ⟨w3.heap.size, 5, none⟩ = some (.slice pb kt.kids.length pd) := (by rw [cell_of_row wc _ 5 _ _ _ hk5]; rfl)
    clear hbx hsx htk hkt hk5 hc1 hrc
    go_wp2_with fail
    refine (with_any ok3 _ (bs nType) (fun j hj => HOK3.out j (by have := HSC.out; omega)) HXC.out HTK.out HKX.out.2.1 (by have := HKX.out; omega)).mono ?_
    rintro e w5 ⟨v5, rfl, ht5, hb5⟩
    obtain ⟨x2, hx2⟩ : ∃ z, z = withL x (bs nType) kt := ⟨_, rfl⟩
    rw [← hx2] at ht5
    have HX2E : Hid (x2 = mapTree (E ++ [(bs nType, kindT E)])) := hide (by rw [hx2, HXE.out, HKT.out, with_map])
    obtain ⟨qa, qc, qb, qd, c5', rfl, -⟩ := ht5.open
    have HT5 := hide ht5
    have HB5 := hide hb5
    have hz5 := zero6 HC1.out HB5.out
    have h0 : w5.cell? ⟨w1.heap.size, 0, none⟩ = some (.int .i64 x.kind) := (by rw [cell_of_row w5 _ 0 _ _ _ hz5]; rfl)
    have h1 : w5.cell? ⟨w1.heap.size, 1, none⟩ = some (.string x.text) := (by rw [cell_of_row w5 _ 1 _ _ _ hz5]; rfl)
    have h2 : w5.cell? ⟨w1.heap.size, 2, none⟩ = some (.float .f64 x.num) := (by rw [cell_of_row w5 _ 2 _ _ _ hz5]; rfl)
    have h3 : w5.cell? ⟨w1.heap.size, 3, none⟩ = some (.bool x.yes) := (by rw [cell_of_row w5 _ 3 _ _ _ hz5]; rfl)
    have h4 : w5.cell? ⟨w1.heap.size, 4, none⟩ = some (.slice xa x.keys.length xc) := (by rw [cell_of_row w5 _ 4 _ _ _ hz5]; rfl)
    have h5 : w5.cell? ⟨w1.heap.size, 5, none⟩ = some (.slice ya x.kids.length yc) := (by rw [cell_of_row w5 _ 5 _ _ _ hz5]; rfl)
    have fh : ∀ j, w5.frozen? ⟨w1.heap.size, j, none⟩ = false := fun j => frozen_of_row w5 _ j _ _ hz5
    have HZ5 := hide hz5
    clear ht5 hb5 hx2 hz5 c0 c1 c2 c3 c4 c5 p0 p1 p2 p3 p4 p5
    go_upto_region 8 with fail
    have HZX := hide (set6 HZ5.out (.int .i64 x2.kind) (.string x2.text) (.float .f64 x2.num) (.bool x2.yes) (.slice qa x2.keys.length qc) (.slice qb x2.kids.length qd))
    have HSX := hide (same6 (ok := ok3) (w1 := w5) (b := w1.heap.size) HN32.out (.int .i64 x2.kind) (.string x2.text) (.float .f64 x2.num) (.bool x2.yes) (.slice qa x2.keys.length qc) (.slice qb x2.kids.length qd))
    have HLX := hide (below6 (n := W.heap.size) (w1 := w5) (b := w1.heap.size) (by omega) (.int .i64 x2.kind) (.string x2.text) (.float .f64 x2.num) (.bool x2.yes) (.slice qa x2.keys.length qc) (.slice qb x2.kids.length qd))
    have HOX := hide (fun c hc => other6 (w := w5) (b := w1.heap.size) (c := c) hc (.int .i64 x2.kind) (.string x2.text) (.float .f64 x2.num) (.bool x2.yes) (.slice qa x2.keys.length qc) (.slice qb x2.kids.length qd))
    have HSZ := hide (size6 w5 w1.heap.size (.int .i64 x2.kind) (.string x2.text) (.float .f64 x2.num) (.bool x2.yes) (.slice qa x2.keys.length qc) (.slice qb x2.kids.length qd))
    generalize ((((((w5.setCell ⟨w1.heap.size, 0, none⟩ (.int .i64 x2.kind)).setCell ⟨w1.heap.size, 1, none⟩ (.string x2.text)).setCell ⟨w1.heap.size, 2, none⟩ (.float .f64 x2.num)).setCell ⟨w1.heap.size, 3, none⟩ (.bool x2.yes)).setCell ⟨w1.heap.size, 4, none⟩ (.slice qa x2.keys.length qc)).setCell ⟨w1.heap.size, 5, none⟩ (.slice qb x2.kids.length qd)) = w6 at *
    have hs5 := HB5.out.size
    have hs6 : w5.heap.size ≤ w6.heap.size := by rw [HSZ.out]; exact Nat.le_refl _
    have hsc := HSC.out
    have HB6 : Hid (Below W.heap.size W w6) := hide (((HB.out.trans (XB.out.mono (by omega))).trans ((HBC.out.mono (by omega)).trans (HB5.out.mono (by omega)))).trans HLX.out)
    have HX6 : Hid (TreeAt w6 ok3 (.agg #[.int .i64 x2.kind, .string x2.text, .float .f64 x2.num, .bool x2.yes, .slice qa x2.keys.length qc, .slice qb x2.kids.length qd]) x2) := hide (HT5.out.same HSX.out)
    have HK6 : Hid (TreeAt w6 ok3 (.agg #[.int .i64 kt.kind, .string kt.text, .float .f64 kt.num, .bool kt.yes, .slice pa kt.keys.length pc, .slice pb kt.kids.length pd]) kt) := hide ((HTK.out.same (Same.of_below HB5.out)).same HSX.out)
    have HK6Z : Hid (w6.heap[w3.heap.size]? = some (.cells #[.int .i64 kt.kind, .string kt.text, .float .f64 kt.num, .bool kt.yes, .slice pa kt.keys.length pc, .slice pb kt.kids.length pd] 26 (0, 0))) := hide ((HOX.out _ (by omega)).trans (zero6 HC3.out HB5.out))
    have HR6 : Hid (w6.heap[(W.heap.size + 1)]? = some (.cells #[.int .i64 0, .string ⟨#[]⟩, .float .f64 0, .bool false, .slice none 0 0, .slice none 0 0] 26 (0, 0))) := hide ((HOX.out _ (by omega)).trans (zero6 HRC.out HB5.out))
    clear HB5 HT5 HZ5 HSX HLX HOX h0 h1 h2 h3 h4 h5 fh HXC HTK HC3 HRC HC1
    have c0 : w6.cell? ⟨w1.heap.size, 0, none⟩ = some (.int .i64 x2.kind) := (by rw [cell_of_row w6 _ 0 _ _ _ HZX.out]; rfl)
    have c1 : w6.cell? ⟨w1.heap.size, 1, none⟩ = some (.string x2.text) := (by rw [cell_of_row w6 _ 1 _ _ _ HZX.out]; rfl)
    have c2 : w6.cell? ⟨w1.heap.size, 2, none⟩ = some (.float .f64 x2.num) := (by rw [cell_of_row w6 _ 2 _ _ _ HZX.out]; rfl)
    have c3 : w6.cell? ⟨w1.heap.size, 3, none⟩ = some (.bool x2.yes) := (by rw [cell_of_row w6 _ 3 _ _ _ HZX.out]; rfl)
    have c4 : w6.cell? ⟨w1.heap.size, 4, none⟩ = some (.slice qa x2.keys.length qc) := (by rw [cell_of_row w6 _ 4 _ _ _ HZX.out]; rfl)
    have c5 : w6.cell? ⟨w1.heap.size, 5, none⟩ = some (.slice qb x2.kids.length qd) := (by rw [cell_of_row w6 _ 5 _ _ _ HZX.out]; rfl)
    have HKX2 : Hid (x2.kind = 5 ∧ x2.keys.length = x2.kids.length ∧ x2.kids.length ≤ 4194001 ∧ atT x2 (bs nTie) = lookL E (bs nTie)) := hide (by rw [HX2E.out]; exact ⟨mapTree_kind _, mapTree_len _, Nat.le_trans (mapTree_le _) (by simp; omega), (atT_map _ _).trans (tie_added _ _)⟩)
    go_wp2_with fail
    refine (at_any ok3 x2 _ (bs nTie) _ HX6.out HKX2.out.1 HKX2.out.2.1 (by have := HKX2.out.2.2.1; omega)).mono ?_
    rintro e w7 ⟨v9, u9, rfl, hu9, -, hb7⟩
    rw [HKX2.out.2.2.2]
    obtain ⟨ea, ec, eb, ed, c6', rfl, -⟩ := hu9.open
    have HB7 := hide hb7
    have hs7 := hb7.size
    clear hu9 hb7 c0 c1 c2 c3 c4 c5
    go_upto_region 9 with fail
    obtain ⟨Vz0, Vb0⟩ := new_at w7 #[.int .i64 u9.kind, .string u9.text, .float .f64 u9.num, .bool u9.yes, .slice ea u9.keys.length ec, .slice eb u9.kids.length ed]
    have VZ := hide Vz0
    have VB := hide Vb0
    clear Vz0 Vb0
    generalize hwzV : w7.alloc (.cells #[.int .i64 u9.kind, .string u9.text, .float .f64 u9.num, .bool u9.yes, .slice ea u9.keys.length ec, .slice eb u9.kids.length ed] 26 (0, 0)) = w8 at *
    have VS : w7.heap.size < w8.heap.size := lt_of_block VZ.out
    clear hwzV
    have HB8 : Hid (Below w6.heap.size w6 w8) := hide (HB7.out.trans (VB.out.mono HB7.out.size))
    have HX8 : Hid (TreeAt w8 ok3 (.agg #[.int .i64 x2.kind, .string x2.text, .float .f64 x2.num, .bool x2.yes, .slice qa x2.keys.length qc, .slice qb x2.kids.length qd]) x2) := hide (HX6.out.same (Same.of_below HB8.out))
    have HX8Z : Hid (w8.heap[w1.heap.size]? = some (.cells #[.int .i64 x2.kind, .string x2.text, .float .f64 x2.num, .bool x2.yes, .slice qa x2.keys.length qc, .slice qb x2.kids.length qd] 26 (0, 0))) := hide (zero6 HZX.out HB8.out)
    have HK8Z : Hid (w8.heap[w3.heap.size]? = some (.cells #[.int .i64 kt.kind, .string kt.text, .float .f64 kt.num, .bool kt.yes, .slice pa kt.keys.length pc, .slice pb kt.kids.length pd] 26 (0, 0))) := hide (zero6 HK6Z.out HB8.out)
    have HR8 : Hid (w8.heap[(W.heap.size + 1)]? = some (.cells #[.int .i64 0, .string ⟨#[]⟩, .float .f64 0, .bool false, .slice none 0 0, .slice none 0 0] 26 (0, 0))) := hide (zero6 HR6.out HB8.out)
    have hs8 := HB8.out.size
    obtain ⟨tb, hto⟩ : ∃ z, z = (lookL E (bs nTie)).isSome := ⟨_, rfl⟩
    rw [← hto]
    have HTO := hide hto
    clear hto
    clear HSC HBC
    go_upto_if 35 with fail
    go_cut [9] from 36 to 42 (fun _ wx => Below w1.heap.size w8 wx ∧ VarAt wx ok3 w1.heap.size (mapTree (kindedE E)) ∧ (w8.heap.size ≤ wx.heap.size) ∧ wx.heap[W.heap.size + 1]? = w8.heap[W.heap.size + 1]?)
    case first =>
      have c0 : w8.cell? ⟨w1.heap.size, 0, none⟩ = some (.int .i64 x2.kind) := (by rw [cell_of_row w8 _ 0 _ _ _ HX8Z.out]; rfl)
      have c1 : w8.cell? ⟨w1.heap.size, 1, none⟩ = some (.string x2.text) := (by rw [cell_of_row w8 _ 1 _ _ _ HX8Z.out]; rfl)
      have c2 : w8.cell? ⟨w1.heap.size, 2, none⟩ = some (.float .f64 x2.num) := (by rw [cell_of_row w8 _ 2 _ _ _ HX8Z.out]; rfl)
      have c3 : w8.cell? ⟨w1.heap.size, 3, none⟩ = some (.bool x2.yes) := (by rw [cell_of_row w8 _ 3 _ _ _ HX8Z.out]; rfl)
      have c4 : w8.cell? ⟨w1.heap.size, 4, none⟩ = some (.slice qa x2.keys.length qc) := (by rw [cell_of_row w8 _ 4 _ _ _ HX8Z.out]; rfl)
      have c5 : w8.cell? ⟨w1.heap.size, 5, none⟩ = some (.slice qb x2.kids.length qd) := (by rw [cell_of_row w8 _ 5 _ _ _ HX8Z.out]; rfl)
      have fc : ∀ j, w8.frozen? ⟨w1.heap.size, j, none⟩ = false := fun j => frozen_of_row w8 _ j _ _ HX8Z.out
      have p1 : w8.cell? ⟨w3.heap.size, 1, none⟩ = some (.string kt.text) := (by rw [cell_of_row w8 _ 1 _ _ _ HK8Z.out]; rfl)
      cases tb with
      | true =>
        have HNO : Hid (mapTree (kindedE E) = x2) := hide (by rw [HX2E.out]; unfold kindedE; rw [if_pos HTO.out.symm])
        go_wp2_with fail
        go_meet
        exact ⟨Below.refl _ _, by rw [HNO.out]; exact ⟨qa, qc, qb, qd, HX8Z.out, HX8.out⟩, Nat.le_refl _, rfl⟩
      | false =>
        have HNO : Hid (mapTree (kindedE E) = withL x2 (bs nTie) (tNum (tieNum kt))) := hide (by
          rw [HX2E.out, with_map, HKT.out]; unfold kindedE; rw [if_neg (by rw [← HTO.out]; simp)])
        cases hm : (kt.text.toList == [109, 111, 115, 116, 95, 102, 105, 101, 108, 100, 115])
        all_goals
          have HTN : Hid (tieNum kt = if (kt.text.toList == [109, 111, 115, 116, 95, 102, 105, 101, 108, 100, 115]) = true then f1 else 0) := hide rfl
          rw [hm] at HTN
          go_wp2_with fail
          go_region_law (first | (go_simp; go_at_call 67; refine (number_any ok3 _ _).mono ?_; rintro e w9 ⟨vn, rfl, htn, hbn⟩; obtain ⟨nt, hnt⟩ : ∃ z, z = tNum (tieNum kt) := ⟨_, rfl⟩; have htn : TreeAt w9 ok3 vn nt := (by rw [hnt, HTN.out]; exact htn); have HNT := hide hnt; obtain ⟨na, nc, nb, nd, cc9, rfl, -⟩ := htn.open; have HT9 := hide htn; have HB9 : Hid (Below w8.heap.size w8 w9) := hide (Below.trans (by go_grown) (hbn.mono (by first | exact Nat.le_refl _ | simp))); clear htn hbn hnt; have hx9 := zero6 HX8Z.out HB9.out; have k0 : w9.cell? ⟨w1.heap.size, 0, none⟩ = some (.int .i64 x2.kind) := (by rw [cell_of_row w9 _ 0 _ _ _ hx9]; rfl); have k1 : w9.cell? ⟨w1.heap.size, 1, none⟩ = some (.string x2.text) := (by rw [cell_of_row w9 _ 1 _ _ _ hx9]; rfl); have k2 : w9.cell? ⟨w1.heap.size, 2, none⟩ = some (.float .f64 x2.num) := (by rw [cell_of_row w9 _ 2 _ _ _ hx9]; rfl); have k3 : w9.cell? ⟨w1.heap.size, 3, none⟩ = some (.bool x2.yes) := (by rw [cell_of_row w9 _ 3 _ _ _ hx9]; rfl); have k4 : w9.cell? ⟨w1.heap.size, 4, none⟩ = some (.slice qa x2.keys.length qc) := (by rw [cell_of_row w9 _ 4 _ _ _ hx9]; rfl); have k5 : w9.cell? ⟨w1.heap.size, 5, none⟩ = some (.slice qb x2.kids.length qd) := (by rw [cell_of_row w9 _ 5 _ _ _ hx9]; rfl); clear hx9) | (go_simp; go_at_call 68; refine (with_any ok3 _ (bs nTie) (fun j hj => HOK3.out j (by have := HB9.out.size; first | omega | (simp at hj; omega))) ((HX8.out.same (Same.of_below HB9.out)).same (Same.of_below (by go_grown))) (HT9.out.same (Same.of_below (by go_grown))) HKX2.out.2.1 (by have := HKX2.out; omega)).mono ?_; rintro e w10 ⟨v10, rfl, ht10, hb10⟩; obtain ⟨x3, hx3⟩ : ∃ z, z = withL x2 (bs nTie) nt := ⟨_, rfl⟩; rw [← hx3] at ht10; obtain ⟨ra, rc, rb, rd, cc10, rfl, -⟩ := ht10.open; have HT10 := hide ht10; have HX3 := hide hx3; have HB10 : Hid (Below w8.heap.size w8 w10) := hide (HB9.out.trans (Below.trans (by go_grown) (hb10.mono (by have := HB9.out.size; first | omega | (simp; omega))))); clear ht10 hb10 hx3; have hx10 := zero6 HX8Z.out HB10.out; have m0 : w10.cell? ⟨w1.heap.size, 0, none⟩ = some (.int .i64 x2.kind) := (by rw [cell_of_row w10 _ 0 _ _ _ hx10]; rfl); have m1 : w10.cell? ⟨w1.heap.size, 1, none⟩ = some (.string x2.text) := (by rw [cell_of_row w10 _ 1 _ _ _ hx10]; rfl); have m2 : w10.cell? ⟨w1.heap.size, 2, none⟩ = some (.float .f64 x2.num) := (by rw [cell_of_row w10 _ 2 _ _ _ hx10]; rfl); have m3 : w10.cell? ⟨w1.heap.size, 3, none⟩ = some (.bool x2.yes) := (by rw [cell_of_row w10 _ 3 _ _ _ hx10]; rfl); have m4 : w10.cell? ⟨w1.heap.size, 4, none⟩ = some (.slice qa x2.keys.length qc) := (by rw [cell_of_row w10 _ 4 _ _ _ hx10]; rfl); have m5 : w10.cell? ⟨w1.heap.size, 5, none⟩ = some (.slice qb x2.kids.length qd) := (by rw [cell_of_row w10 _ 5 _ _ _ hx10]; rfl); have fm : ∀ j, w10.frozen? ⟨w1.heap.size, j, none⟩ = false := fun j => frozen_of_row w10 _ j _ _ hx10; have HZ10 := hide hx10; clear hx10))
        all_goals
          go_wp2_with fail
          go_meet
          refine ⟨(HB10.out.mono (by omega)).trans (below6 (Nat.le_refl _) _ _ _ _ _ _), ?_, by rw [size6]; exact HB10.out.size, (other6 (by omega) _ _ _ _ _ _).trans (HB10.out.block _ (by omega))⟩
          rw [HNO.out, ← HNT.out, ← HX3.out]
          exact VarAt.store HZ10.out HN32.out HT10.out
    case rest =>
      obtain ⟨hbz, hvz, hsz, hrz⟩ := hcut
      obtain ⟨x3, hx3⟩ : ∃ z, z = mapTree (kindedE E) := ⟨_, rfl⟩
      rw [← hx3] at hvz
      have HX3 := hide hx3
      obtain ⟨ra, rc, rb, rd, hz3, ht3⟩ := hvz
      have HT3 := hide ht3
      have HZ3 := hide hz3
      have HRZ := hide (hrz.trans HR8.out)
      have HBZ : Hid (Below W.heap.size W wc) := hide ((HB6.out.trans (HB8.out.mono (by omega))).trans (hbz.mono (by omega)))
      have HSZ3 : Hid (w1.heap.size + 1 ≤ wc.heap.size ∧ w3.heap.size + 1 ≤ wc.heap.size) := hide ⟨by omega, by omega⟩
      have c0 : wc.cell? ⟨w1.heap.size, 0, none⟩ = some (.int .i64 x3.kind) := (by rw [cell_of_row wc _ 0 _ _ _ hz3]; rfl)
      have c1 : wc.cell? ⟨w1.heap.size, 1, none⟩ = some (.string x3.text) := (by rw [cell_of_row wc _ 1 _ _ _ hz3]; rfl)
      have c2 : wc.cell? ⟨w1.heap.size, 2, none⟩ = some (.float .f64 x3.num) := (by rw [cell_of_row wc _ 2 _ _ _ hz3]; rfl)
      have c3 : wc.cell? ⟨w1.heap.size, 3, none⟩ = some (.bool x3.yes) := (by rw [cell_of_row wc _ 3 _ _ _ hz3]; rfl)
      have c4 : wc.cell? ⟨w1.heap.size, 4, none⟩ = some (.slice ra x3.keys.length rc) := (by rw [cell_of_row wc _ 4 _ _ _ hz3]; rfl)
      have c5 : wc.cell? ⟨w1.heap.size, 5, none⟩ = some (.slice rb x3.kids.length rd) := (by rw [cell_of_row wc _ 5 _ _ _ hz3]; rfl)
      clear hbz hx3 hz3 ht3 hrz
      go_wp2_with fail
      refine (map_any ok3 _ _ [⟨bs nMulti, x3⟩] (fun k hk => HOK3.out k (by have := HSZ3.out; simp at hk; omega)) (sets_one (g := wc.heap.size) (heap_alloc_new wc _) (HOK3.out _ (by have := HSZ3.out; omega)) (HT3.out.same (Same.of_below (by go_grown)))) (by simp)).mono ?_
      rintro e w11 ⟨v11, rfl, ht, hb⟩
      obtain ⟨y, hy⟩ : ∃ z, z = mapTree (pE [⟨bs nMulti, x3⟩]) := ⟨_, rfl⟩
      rw [← hy] at ht
      have HYE : Hid (y = mapTree [(bs nMulti, mapTree (kindedE E))]) := hide (by rw [hy, HX3.out]; rfl)
      obtain ⟨ya', yc', yb', yd', c11, rfl, -⟩ := ht.open
      have HY := hide ht
      have HB11 : Hid (Below wc.heap.size wc w11) := hide (Below.trans (by go_grown) (hb.mono (by simp)))
      have hr : w11.heap[(W.heap.size + 1)]? = some (.cells #[.int .i64 0, .string ⟨#[]⟩, .float .f64 0, .bool false, .slice none 0 0, .slice none 0 0] 26 (0, 0)) := zero6 HRZ.out HB11.out
      have HR11 := hide hr
      have z0 : w11.cell? ⟨(W.heap.size + 1), 0, none⟩ = some (.int .i64 0) := (by rw [cell_of_row w11 _ 0 _ _ _ hr]; rfl)
      have z1 : w11.cell? ⟨(W.heap.size + 1), 1, none⟩ = some (.string ⟨#[]⟩) := (by rw [cell_of_row w11 _ 1 _ _ _ hr]; rfl)
      have z2 : w11.cell? ⟨(W.heap.size + 1), 2, none⟩ = some (.float .f64 0) := (by rw [cell_of_row w11 _ 2 _ _ _ hr]; rfl)
      have z3 : w11.cell? ⟨(W.heap.size + 1), 3, none⟩ = some (.bool false) := (by rw [cell_of_row w11 _ 3 _ _ _ hr]; rfl)
      have z4 : w11.cell? ⟨(W.heap.size + 1), 4, none⟩ = some (.slice none 0 0) := (by rw [cell_of_row w11 _ 4 _ _ _ hr]; rfl)
      have z5 : w11.cell? ⟨(W.heap.size + 1), 5, none⟩ = some (.slice none 0 0) := (by rw [cell_of_row w11 _ 5 _ _ _ hr]; rfl)
      have fr : ∀ j, w11.frozen? ⟨(W.heap.size + 1), j, none⟩ = false := fun j => frozen_of_row w11 _ j _ _ hr
      clear hr hy ht hb c0 c1 c2 c3 c4 c5
      go_wp2_with fail
      have HZ := hide (set6 HR11.out (.int .i64 y.kind) (.string y.text) (.float .f64 y.num) (.bool y.yes) (.slice ya' y.keys.length yc') (.slice yb' y.kids.length yd'))
      have HS := hide (same6 (ok := ok3) (w1 := w11) (b := (W.heap.size + 1)) (HN31.out) (.int .i64 y.kind) (.string y.text) (.float .f64 y.num) (.bool y.yes) (.slice ya' y.keys.length yc') (.slice yb' y.kids.length yd'))
      have HL6 := hide (below6 (n := W.heap.size) (w1 := w11) (b := (W.heap.size + 1)) (by omega) (.int .i64 y.kind) (.string y.text) (.float .f64 y.num) (.bool y.yes) (.slice ya' y.keys.length yc') (.slice yb' y.kids.length yd'))
      generalize ((((((w11.setCell ⟨(W.heap.size + 1), 0, none⟩ (.int .i64 y.kind)).setCell ⟨(W.heap.size + 1), 1, none⟩ (.string y.text)).setCell ⟨(W.heap.size + 1), 2, none⟩ (.float .f64 y.num)).setCell ⟨(W.heap.size + 1), 3, none⟩ (.bool y.yes)).setCell ⟨(W.heap.size + 1), 4, none⟩ (.slice ya' y.keys.length yc')).setCell ⟨(W.heap.size + 1), 5, none⟩ (.slice yb' y.kids.length yd')) = wz at *
      have e0 : wz.cell? ⟨(W.heap.size + 1), 0, none⟩ = some (.int .i64 y.kind) := by rw [cell_of_row wz _ 0 _ _ _ HZ.out]; rfl
      have e1 : wz.cell? ⟨(W.heap.size + 1), 1, none⟩ = some (.string y.text) := by rw [cell_of_row wz _ 1 _ _ _ HZ.out]; rfl
      have e2 : wz.cell? ⟨(W.heap.size + 1), 2, none⟩ = some (.float .f64 y.num) := by rw [cell_of_row wz _ 2 _ _ _ HZ.out]; rfl
      have e3 : wz.cell? ⟨(W.heap.size + 1), 3, none⟩ = some (.bool y.yes) := by rw [cell_of_row wz _ 3 _ _ _ HZ.out]; rfl
      have e4 : wz.cell? ⟨(W.heap.size + 1), 4, none⟩ = some (.slice ya' y.keys.length yc') := by rw [cell_of_row wz _ 4 _ _ _ HZ.out]; rfl
      have e5 : wz.cell? ⟨(W.heap.size + 1), 5, none⟩ = some (.slice yb' y.kids.length yd') := by rw [cell_of_row wz _ 5 _ _ _ HZ.out]; rfl
      refine bodyPost_ret (by simp [results, Tryz.results69, go_sem, e0, e1, e2, e3, e4, e5]; try rfl) rfl ?_
      refine ⟨_, rfl, ?_, ?_⟩
      · rw [← HYE.out]
        exact (HY.out.same HS.out).weaken fun k hk _ => HO1.out k (HO2.out k (HO3.out k hk))
      · exact (HBZ.out.trans (HB11.out.mono (by have := HBZ.out.size; omega))).trans HL6.out
theorem kinded_multi : KindedOK true nMulti := fun E ok W v hok hv hE => kinded_mm E ok W v hok hv hE
end Go.Proofs.YtbcnhcpgloncdaaGreatDoor
