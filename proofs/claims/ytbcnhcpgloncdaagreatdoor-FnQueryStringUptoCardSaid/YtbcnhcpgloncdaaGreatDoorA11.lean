/-
  spec.folded, spec.lower.
-/
import Derived.Test.YtbcnhcpgloncdaaGreatDoorA9
namespace Go.Proofs.YtbcnhcpgloncdaaGreatDoor
open Go.RowKit Go.Sort Go.ChangeMaps Go.MapKept Go.Lib

def lOperator : List UInt8 := [111, 112, 101, 114, 97, 116, 111, 114]
def lModifier : List UInt8 := [109, 111, 100, 105, 102, 105, 101, 114]
/-- A kid of a folded map. -/
def foldOne (key : ByteArray) (kid : T) : T := if ((Lib.hasSuffix key.data.toList lOperator || key.toList == lModifier) && kid.kind == 1) = true then tText (lowerB kid.text) else kid
def foldE (g : T → T) (t : T) : List (ByteArray × T) := (t.keys.zip t.kids).map fun p => (p.1, foldOne p.1 (g p.2))
theorem foldE_take {g : T → T} {t : T} {k : Nat} {x : ByteArray} {y : T} (hx : t.keys[k]? = some x) (hy : t.kids[k]? = some y) : (foldE g t).take (k + 1) = (foldE g t).take k ++ [(x, foldOne x (g y))] := by
  have hz : (foldE g t)[k]? = some (x, foldOne x (g y)) := by
    unfold foldE
    rw [List.getElem?_map, (List.getElem?_zip_eq_some (z := (x, y))).2 ⟨hx, hy⟩]; rfl
  obtain ⟨h1, h2⟩ := List.getElem?_eq_some_iff.1 hz
  rw [List.take_succ_eq_append_getElem h1, h2]
theorem foldE_len (g : T → T) (t : T) (k : Nat) : (mapTree ((foldE g t).take k)).keys.length ≤ t.kids.length := by
  rw [mapTree_len]
  refine Nat.le_trans (mapTree_le _) ?_
  unfold foldE
  rw [List.length_take, List.length_map, List.length_zip]; omega

def RetTx (w : World) (s : ByteArray) (e : Ending) (w' : World) : Prop := e = .returned (.string s) ∧ Below w.heap.size w w'
set_option maxHeartbeats 400000 in
theorem lower_any (s : ByteArray) (w : World) (hG : Glob w) (hs : s.size < 35184372088832) : Calls Tryz.prog 133 #[.string s] w (RetTx w (lowerB s)) := by
  have HG := hide hG
  go_enter Tryz.func133, Tryz.ntmps133
  go_wp2_with fail
  refine (Tryz.strings_ToLower_any s _ hs HG.out.case HG.out.utf).mono ?_
  rintro e w1 ⟨rfl, hb⟩
  have hu : lowerB s = ⟨(Lib.toLowerD s.data.toList).toArray⟩ := rfl
  rw [← hu]
  generalize lowerB s = u at *
  clear hu
  go_wp2_with fail
  go_returns
  exact ⟨rfl, by first | exact hb | (refine hb.trans ?_; go_grown)⟩

set_option maxHeartbeats 1000000 in
theorem folded_leaf (ok : Nat → Prop) (W : World) (v : Value) (t : T) (_hok : ∀ k, W.heap.size ≤ k → ok k) (hv : TreeAt W ok v t) (hk : (t.kind == 5) = false) : Calls Tryz.prog 70 #[v] W (RetTree ok W t) := by
  obtain ⟨ka, kac, ta, tac, c, rfl, -⟩ := hv.open
  have HV := hide hv
  have hk5 : (t.kind != 5) = true := by simp only [bne, hk]; rfl
  clear hv _hok
  go_enter Tryz.func70, Tryz.ntmps70
  go_wp2_with fail
  go_returns
  refine ⟨_, rfl, HV.out.same (Same.of_below ?_), ?_⟩
  all_goals go_grown

set_option maxHeartbeats 8000000 in
set_option maxRecDepth 100000 in
theorem folded_map (g : T → T) (t : T) (hkid : ∀ kid ∈ t.kids, ∀ (ok : Nat → Prop) (w : World) (v : Value), (∀ k, w.heap.size ≤ k → ok k) → Glob w → TreeAt w ok v kid → Calls Tryz.prog 70 #[v] w (RetTree ok w (g kid)))
    (ok : Nat → Prop) (W : World) (v : Value) (hok : ∀ k, W.heap.size ≤ k → ok k) (hG : Glob W) (hv : TreeAt W ok v t) (hkind : t.kind = 5) (hl : t.keys.length = t.kids.length) (hb : t.kids.length ≤ 4194304)
    (hsz : ∀ kid ∈ t.kids, (g kid).text.size < 35184372088832) (hkz : ∀ key ∈ t.keys, key.size ≤ 9223372036854775807) :
    Calls Tryz.prog 70 #[v] W (RetTree ok W (mapTree (foldE g t))) := by
  have hv' := hv.weaken (ok' := fun j => ok j ∧ j < W.heap.size) fun k h0 h => ⟨h0, h⟩
  obtain ⟨ka, kac, ta, tac, c, rfl, -, -, hk0, hc, hts⟩ := hv'.open
  have HOK := hide hok
  have HGL := hide hG
  have HKID := hide hkid
  have HSZ := hide hsz
  have HKZ := hide hkz
  have HL := hide hl
  have HK := hide hk0
  have HC := hide hc
  have HT := hide hts
  have HK5 := hide hkind
  have hnl : (t.keys.length : Int) = (t.kids.length : Int) := by rw [hl]
  clear hok hG hkid hv hv' hl hk0 hc hts hkind hsz hkz
  go_enter Tryz.func70, Tryz.ntmps70
  rw [HK5.out]
  go_wp2_with fail
  refine (map_any (fun j => ok j ∧ j ≠ W.heap.size + 1) _ _ [] (fun j hj => by simp at hj; exact ⟨HOK.out j (by omega), by omega⟩) ⟨none, 0, fun _ _ => .nilIface, rfl, Nat.le_refl _, fun i hi => by simp at hi, fun i s h => by simp at h⟩ (by simp)).mono ?_
  rintro e w1 ⟨v, rfl, ht, hb1⟩
  obtain ⟨m0, hm0⟩ : ∃ x, x = mapTree (pE []) := ⟨_, rfl⟩
  rw [← hm0] at ht
  have HM0 := hide hm0
  obtain ⟨xa, xc, ya, yc, c2, rfl, -⟩ := ht.open
  have HX := hide ht
  have hba : W.heap.size + 2 ≤ w1.heap.size := by have := hb1.size; simpa using this
  have hb0 : w1.heap[W.heap.size]? = some (.cells #[.int .i64 5, .string t.text, .float .f64 t.num, .bool t.yes, .slice ka t.keys.length kac, .slice ta t.kids.length tac] 26 (0, 0)) := (hb1.block _ (by simp; omega)).trans ((MapKept.heap_alloc _ _).2 _ (by simp) |>.trans (heap_alloc_new _ _))
  have hr : w1.heap[W.heap.size + 1]? = some (.cells #[.int .i64 0, .string ⟨#[]⟩, .float .f64 0, .bool false, .slice none 0 0, .slice none 0 0] 26 (0, 0)) := (hb1.block _ (by simp)).trans (heap_alloc_two _ _ _)
  have HB : Hid (Below W.heap.size W w1) := hide (Below.trans (by go_grown) (hb1.mono (by simp; omega)))
  have HR := hide hr
  have HB0 := hide hb0
  clear ht hb1 hb0 hr hm0
  go_wp2_with fail
  obtain ⟨Nz0, Nb0⟩ := new_at w1 #[.int .i64 m0.kind, .string m0.text, .float .f64 m0.num, .bool m0.yes, .slice xa m0.keys.length xc, .slice ya m0.kids.length yc]
  have NZ := hide Nz0
  have NB := hide Nb0
  clear Nz0 Nb0
  generalize hwzN : w1.alloc (.cells #[.int .i64 m0.kind, .string m0.text, .float .f64 m0.num, .bool m0.yes, .slice xa m0.keys.length xc, .slice ya m0.kids.length yc] 26 (0, 0)) = wy at *
  have NS : w1.heap.size < wy.heap.size := lt_of_block NZ.out
  clear hwzN
  generalize hB3 : w1.heap.size = B3 at *
  obtain ⟨ok', hok'⟩ : ∃ p : Nat → Prop, p = fun j => ok j ∧ j ≠ W.heap.size + 1 ∧ j ≠ B3 := ⟨_, rfl⟩
  have HOK' : Hid (∀ k, B3 + 1 ≤ k → ok' k) := hide (by rw [hok']; intro k hk; exact ⟨HOK.out k (by omega), by omega, by omega⟩)
  have HN1 : Hid (¬ ok' (W.heap.size + 1)) := hide (by rw [hok']; intro h; exact h.2.1 rfl)
  have HN3 : Hid (¬ ok' B3) := hide (by rw [hok']; intro h; exact h.2.2 rfl)
  have HOO : Hid (∀ k, ok' k → ok k) := hide (by rw [hok']; intro k h; exact h.1)
  have HOL : Hid (∀ k, ok k ∧ k < W.heap.size → ok' k) := hide (by rw [hok']; intro k h; exact ⟨h.1, by omega, by omega⟩)
  have HV0 : Hid (VarAt wy ok' B3 (mapTree ((foldE g t).take 0))) := hide ⟨xa, xc, ya, yc, by
      rw [List.take_zero, show ([] : List (ByteArray × T)) = pE [] from rfl, ← HM0.out]; exact NZ.out, by
      rw [List.take_zero, show ([] : List (ByteArray × T)) = pE [] from rfl, ← HM0.out, hok']; exact (HX.out.weaken fun k h hlt => ⟨h.1, h.2, by omega⟩).same (fun k _ hlt => NB.out.block k (by omega))⟩
  have HI0 : Hid (wy.heap[W.heap.size]? = some (.cells #[.int .i64 5, .string t.text, .float .f64 t.num, .bool t.yes, .slice ka t.keys.length kac, .slice ta t.kids.length tac] 26 (0, 0)) ∧ wy.heap[W.heap.size + 1]? = some (.cells #[.int .i64 0, .string ⟨#[]⟩, .float .f64 0, .bool false, .slice none 0 0, .slice none 0 0] 26 (0, 0)) ∧ Below W.heap.size W wy) := hide ⟨(NB.out.block _ (by omega)).trans HB0.out, (NB.out.block _ (by omega)).trans HR.out, HB.out.trans (NB.out.mono (by omega))⟩
  clear HX HM0 HB0 HR HB hok' hB3
  go_loopw [4] (fun i wr => ∃ k : Nat, k ≤ t.kids.length ∧ i = .int .i64 k ∧ Below W.heap.size W wr ∧ B3 + 1 ≤ wr.heap.size ∧ wr.heap[W.heap.size]? = some (.cells #[.int .i64 5, .string t.text, .float .f64 t.num, .bool t.yes, .slice ka t.keys.length kac, .slice ta t.kids.length tac] 26 (0, 0)) ∧ wr.heap[W.heap.size + 1]? = some (.cells #[.int .i64 0, .string ⟨#[]⟩, .float .f64 0, .bool false, .slice none 0 0, .slice none 0 0] 26 (0, 0)) ∧ VarAt wr ok' B3 (mapTree ((foldE g t).take k))) (fun i _ => t.kids.length - (intOf i).toNat)
  case atStart => exact ⟨0, Nat.zero_le _, rfl, HI0.out.2.2, NS, HI0.out.1, HI0.out.2.1, HV0.out⟩
  case round =>
    obtain ⟨k, hk, rfl, hbw, hsz3, hx0, hz, hv⟩ := hrel
    obtain ⟨m, hm⟩ : ∃ x, x = mapTree ((foldE g t).take k) := ⟨_, rfl⟩
    rw [← hm] at hv
    have HM := hide hm
    have HBW := hide hbw
    have HX0 := hide hx0
    have HZ0 := hide hz
    obtain ⟨ma, mc, mb, md, hb3, htm⟩ := hv
    have HTM := hide htm
    have HB3 := hide hb3
    have c4 : wr.cell? ⟨W.heap.size, 4, none⟩ = some (.slice ka t.keys.length kac) := (by rw [cell_of_row wr _ 4 _ _ _ hx0]; rfl)
    have c5 : wr.cell? ⟨W.heap.size, 5, none⟩ = some (.slice ta t.kids.length tac) := (by rw [cell_of_row wr _ 5 _ _ _ hx0]; rfl)
    clear hm hbw htm hx0 hz hb3
    by_cases hlt : k < t.kids.length
    · have hltk : k < t.keys.length := by rw [HL.out]; exact hlt
      obtain ⟨x, hx⟩ : ∃ x, t.keys[k]? = some x := ⟨_, List.getElem?_eq_getElem hltk⟩
      obtain ⟨y, hy⟩ : ∃ y, t.kids[k]? = some y := ⟨_, List.getElem?_eq_getElem hlt⟩
      obtain ⟨kb, ko, rfl, ⟨-, hkb⟩, hkc⟩ := HK.out k x hx
      obtain ⟨b, q, rfl, ⟨-, hbl⟩, hcell⟩ := HC.out k hlt
      have htr := HT.out k y hy
      obtain ⟨xa, xc, ya, yc, cc, hv6, -⟩ := htr.open
      rw [hv6] at htr
      simp only [Value.agg.injEq, Array.mk.injEq, List.cons.injEq, and_true] at hv6
      obtain ⟨v1, v2, v3, v4, v5, v6⟩ := hv6
      have hold : ∀ b, b < W.heap.size → ∀ j v, W.cell? ⟨b, j, none⟩ = some v → wr.cell? ⟨b, j, none⟩ = some v := fun b hbl j v h => (HBW.out.cell (p := ⟨b, j, none⟩) hbl).trans h
      have a0 := hold kb hkb _ _ hkc
      have e0 := hold b hbl _ _ (hcell 0 (by omega))
      have e1 := hold b hbl _ _ (hcell 1 (by omega))
      have e2 := hold b hbl _ _ (hcell 2 (by omega))
      have e3 := hold b hbl _ _ (hcell 3 (by omega))
      have e4 := hold b hbl _ _ (hcell 4 (by omega))
      have e5 := hold b hbl _ _ (hcell 5 (by omega))
      rw [v1] at e0; rw [v2] at e1; rw [v3] at e2; rw [v4] at e3; rw [v5] at e4; rw [v6] at e5
      simp only [Nat.add_zero] at e0
      have HTR : Hid (TreeAt wr ok' (.agg #[.int .i64 y.kind, .string y.text, .float .f64 y.num, .bool y.yes, .slice xa y.keys.length xc, .slice ya y.kids.length yc]) y) := hide ((htr.weaken fun k hk _ => HOL.out k hk).same (Same.of_below HBW.out))
      have HXK := hide hx
      have HY := hide hy
      have hym : y ∈ t.kids := List.mem_of_getElem? hy
      have hxm : x ∈ t.keys := List.mem_of_getElem? hx
      have hxz := HKZ.out x hxm
      have hyz := HSZ.out y hym
      have HYM := hide hym
      have A0 := hide (hkc)
      have i1 : (0 : Int) ≤ (k : Int) := by omega
      have i3 : (k : Int) < (t.kids.length : Int) := by omega
      clear hcell htr v1 v2 v3 v4 v5 v6 hx hy hold hkc hxm hym
      go_wp2_with fail
      refine (HKID.out y HYM.out ok' _ _ (fun j hj => HOK'.out j (by omega)) (HGL.out.below HBW.out) HTR.out).mono ?_
      rintro e w2 ⟨v, rfl, ht, hb2⟩
      obtain ⟨gy, hgy⟩ : ∃ z, z = g y := ⟨_, rfl⟩
      rw [← hgy] at ht hyz
      obtain ⟨ga, gc, gb, gd, cc2, rfl, -⟩ := ht.open
      have HGY := hide hgy
      have HTG := hide ht
      have HB2 := hide hb2
      have hs2 := hb2.size
      clear ht hb2 hgy
      go_upto_region 8 with fail
      obtain ⟨Vz0, Vb0⟩ := new_at w2 #[.int .i64 gy.kind, .string gy.text, .float .f64 gy.num, .bool gy.yes, .slice ga gy.keys.length gc, .slice gb gy.kids.length gd]
      have VZ := hide Vz0
      have VB := hide Vb0
      clear Vz0 Vb0
      generalize hwzV : w2.alloc (.cells #[.int .i64 gy.kind, .string gy.text, .float .f64 gy.num, .bool gy.yes, .slice ga gy.keys.length gc, .slice gb gy.kids.length gd] 26 (0, 0)) = w5 at *
      have VS : w2.heap.size < w5.heap.size := lt_of_block VZ.out
      clear hwzV
      obtain ⟨ok5, hok5⟩ : ∃ p : Nat → Prop, p = fun j => ok' j ∧ j ≠ w2.heap.size := ⟨_, rfl⟩
      have HOK5 : Hid (∀ k, w2.heap.size + 1 ≤ k → ok5 k) := hide (by rw [hok5]; intro k hk; exact ⟨HOK'.out k (by omega), by omega⟩)
      have HN5 : Hid (¬ ok5 w2.heap.size) := hide (by rw [hok5]; intro h; exact h.2 rfl)
      have HO5 : Hid (∀ k, ok5 k → ok' k) := hide (by rw [hok5]; intro k h; exact h.1)
      have HB5 : Hid (Below wr.heap.size wr w5) := hide (HB2.out.trans (VB.out.mono (by omega)))
      have HV5 : Hid (TreeAt w5 ok5 (.agg #[.int .i64 gy.kind, .string gy.text, .float .f64 gy.num, .bool gy.yes, .slice ga gy.keys.length gc, .slice gb gy.kids.length gd]) gy) := hide ((HTG.out.weaken (ok' := ok5) fun k hk hlt => by rw [hok5]; exact ⟨hk, by omega⟩).same (Same.of_below VB.out))
      have HTM5 : Hid (TreeAt w5 ok5 (.agg #[.int .i64 m.kind, .string m.text, .float .f64 m.num, .bool m.yes, .slice ma m.keys.length mc, .slice mb m.kids.length md]) m) := hide ((HTM.out.weaken (ok' := ok5) fun k hk hlt => by rw [hok5]; exact ⟨hk, by omega⟩).same (Same.of_below HB5.out))
      clear hok5
      have hx5 := zero6 HX0.out HB5.out
      have hr5 := zero6 HB3.out HB5.out
      have a4 : w5.cell? ⟨W.heap.size, 4, none⟩ = some (.slice (some ⟨kb, ko, none⟩) t.keys.length kac) := (by rw [cell_of_row w5 _ 4 _ _ _ hx5]; rfl)
      have a2 : w5.cell? ⟨kb, ko + k, none⟩ = some (.string x) := ((HBW.out.trans (HB5.out.mono (by omega))).cell (p := ⟨kb, ko + k, none⟩) hkb).trans A0.out
      have g0 : w5.cell? ⟨w2.heap.size, 0, none⟩ = some (.int .i64 gy.kind) := (by rw [cell_of_row w5 _ 0 _ _ _ VZ.out]; rfl)
      have g1 : w5.cell? ⟨w2.heap.size, 1, none⟩ = some (.string gy.text) := (by rw [cell_of_row w5 _ 1 _ _ _ VZ.out]; rfl)
      have g2 : w5.cell? ⟨w2.heap.size, 2, none⟩ = some (.float .f64 gy.num) := (by rw [cell_of_row w5 _ 2 _ _ _ VZ.out]; rfl)
      have g3 : w5.cell? ⟨w2.heap.size, 3, none⟩ = some (.bool gy.yes) := (by rw [cell_of_row w5 _ 3 _ _ _ VZ.out]; rfl)
      have g4 : w5.cell? ⟨w2.heap.size, 4, none⟩ = some (.slice ga gy.keys.length gc) := (by rw [cell_of_row w5 _ 4 _ _ _ VZ.out]; rfl)
      have g5 : w5.cell? ⟨w2.heap.size, 5, none⟩ = some (.slice gb gy.kids.length gd) := (by rw [cell_of_row w5 _ 5 _ _ _ VZ.out]; rfl)
      have fg : ∀ j, w5.frozen? ⟨w2.heap.size, j, none⟩ = false := fun j => frozen_of_row w5 _ j _ _ VZ.out
      have m0 : w5.cell? ⟨B3, 0, none⟩ = some (.int .i64 m.kind) := (by rw [cell_of_row w5 _ 0 _ _ _ hr5]; rfl)
      have m1 : w5.cell? ⟨B3, 1, none⟩ = some (.string m.text) := (by rw [cell_of_row w5 _ 1 _ _ _ hr5]; rfl)
      have m2 : w5.cell? ⟨B3, 2, none⟩ = some (.float .f64 m.num) := (by rw [cell_of_row w5 _ 2 _ _ _ hr5]; rfl)
      have m3 : w5.cell? ⟨B3, 3, none⟩ = some (.bool m.yes) := (by rw [cell_of_row w5 _ 3 _ _ _ hr5]; rfl)
      have m4 : w5.cell? ⟨B3, 4, none⟩ = some (.slice ma m.keys.length mc) := (by rw [cell_of_row w5 _ 4 _ _ _ hr5]; rfl)
      have m5 : w5.cell? ⟨B3, 5, none⟩ = some (.slice mb m.kids.length md) := (by rw [cell_of_row w5 _ 5 _ _ _ hr5]; rfl)
      have fm : ∀ j, w5.frozen? ⟨B3, j, none⟩ = false := fun j => frozen_of_row w5 _ j _ _ hr5
      have HX5 := hide hx5
      have HR5 := hide hr5
      clear hx5 hr5
      go_cut [42] from 24 to 42 (fun t42 wx => w5 = wx ∧ t42 = .bool ((Lib.hasSuffix x.data.toList lOperator || x.toList == lModifier) && gy.kind == 1))
      case first =>
        go_wp2_with fail
        refine (Tryz.strings_HasSuffix x _ _ hxz).mono ?_
        rintro e w' ⟨rfl, rfl⟩
        cases h1 : Lib.hasSuffix x.data.toList (ByteArray.mk #[111, 112, 101, 114, 97, 116, 111, 114]).data.toList
        · cases h2 : (x.toList == [109, 111, 100, 105, 102, 105, 101, 114])
          · go_wp2_with fail
            go_meet
            exact ⟨rfl, by rw [show Lib.hasSuffix x.data.toList lOperator = false from h1, show (x.toList == lModifier) = false from h2]; rfl⟩
          · cases h3 : (gy.kind == 1)
            all_goals
              go_wp2_with fail
              go_meet
              exact ⟨rfl, by rw [show Lib.hasSuffix x.data.toList lOperator = false from h1, show (x.toList == lModifier) = true from h2, h3]; rfl⟩
        · cases h3 : (gy.kind == 1)
          all_goals
            go_wp2_with fail
            go_meet
            exact ⟨rfl, by rw [show Lib.hasSuffix x.data.toList lOperator = true from h1, h3]; rfl⟩
      case rest =>
        obtain ⟨rfl, rfl⟩ := hcut
        have HFO : Hid (foldOne x gy = if ((Lib.hasSuffix x.data.toList lOperator || x.toList == lModifier) && gy.kind == 1) = true then tText (lowerB gy.text) else gy) := hide rfl
        generalize ((Lib.hasSuffix x.data.toList lOperator || x.toList == lModifier) && gy.kind == 1) = fb at *
        go_upto_if 42 with fail
        go_cut [] from 43 to 46 (fun wx => Below w2.heap.size w5 wx ∧ VarAt wx ok5 w2.heap.size (foldOne x gy) ∧ Same ok5 w5 wx)
        case first =>
          cases fb
          · have HNO : Hid (foldOne x gy = gy) := hide (by rw [HFO.out]; rfl)
            clear HFO
            go_wp2_with fail
            go_meet
            exact ⟨Below.refl _ _, by rw [HNO.out]; exact ⟨ga, gc, gb, gd, VZ.out, HV5.out⟩, fun _ _ _ => rfl⟩
          · have HNO : Hid (foldOne x gy = tText (lowerB gy.text)) := hide (by rw [HFO.out]; rfl)
            clear HFO
            go_wp2_with fail
            refine (lower_any gy.text _ (HGL.out.below (HBW.out.trans (HB5.out.mono (by omega)))) hyz).mono ?_
            rintro e w6 ⟨rfl, hb6⟩
            have HB6 := hide hb6
            clear hb6
            go_wp2_with fail
            refine (text_any ok5 _ _).mono ?_
            rintro e w7 ⟨v, rfl, ht, hb7⟩
            obtain ⟨tt, htt⟩ : ∃ z, z = tText (lowerB gy.text) := ⟨_, rfl⟩
            rw [← htt] at ht
            have HTT := hide htt
            obtain ⟨fa, fc, fb', fd, cc3, rfl, -⟩ := ht.open
            have HT7 := hide ht
            have HB7 : Hid (Below w5.heap.size w5 w7) := hide (HB6.out.trans (hb7.mono HB6.out.size))
            have hz7 := zero6 VZ.out HB7.out
            have h0 : w7.cell? ⟨w2.heap.size, 0, none⟩ = some (.int .i64 gy.kind) := (by rw [cell_of_row w7 _ 0 _ _ _ hz7]; rfl)
            have h1 : w7.cell? ⟨w2.heap.size, 1, none⟩ = some (.string gy.text) := (by rw [cell_of_row w7 _ 1 _ _ _ hz7]; rfl)
            have h2 : w7.cell? ⟨w2.heap.size, 2, none⟩ = some (.float .f64 gy.num) := (by rw [cell_of_row w7 _ 2 _ _ _ hz7]; rfl)
            have h3 : w7.cell? ⟨w2.heap.size, 3, none⟩ = some (.bool gy.yes) := (by rw [cell_of_row w7 _ 3 _ _ _ hz7]; rfl)
            have h4 : w7.cell? ⟨w2.heap.size, 4, none⟩ = some (.slice ga gy.keys.length gc) := (by rw [cell_of_row w7 _ 4 _ _ _ hz7]; rfl)
            have h5 : w7.cell? ⟨w2.heap.size, 5, none⟩ = some (.slice gb gy.kids.length gd) := (by rw [cell_of_row w7 _ 5 _ _ _ hz7]; rfl)
            have fh : ∀ j, w7.frozen? ⟨w2.heap.size, j, none⟩ = false := fun j => frozen_of_row w7 _ j _ _ hz7
            have HZ7 := hide hz7
            clear ht hb7 htt hz7
            go_wp2_with fail
            go_meet
            refine ⟨(HB7.out.mono (by omega)).trans (below6 (Nat.le_refl _) _ _ _ _ _ _), ?_, fun j hj hlt => (same6 HN5.out _ _ _ _ _ _ j hj (Nat.lt_of_lt_of_le hlt HB7.out.size)).trans (HB7.out.block j hlt)⟩
            rw [HNO.out, ← HTT.out]
            exact VarAt.store HZ7.out HN5.out HT7.out
        case rest =>
          obtain ⟨hbx, hvx, hsx⟩ := hcut
          obtain ⟨fy, hfy⟩ : ∃ z, z = foldOne x gy := ⟨_, rfl⟩
          rw [← hfy] at hvx
          have HFY := hide hfy
          obtain ⟨fa, fc, fb', fd, hb5, htf⟩ := hvx
          have HBX := hide hbx
          have HTF := hide htf
          have HTMX : Hid (TreeAt wc ok5 (.agg #[.int .i64 m.kind, .string m.text, .float .f64 m.num, .bool m.yes, .slice ma m.keys.length mc, .slice mb m.kids.length md]) m) := hide (HTM5.out.same hsx)
          have hb1 : wc.heap[W.heap.size]? = _ := (hbx.block _ (by omega)).trans HX5.out
          have hr3 : wc.heap[B3]? = _ := (hbx.block _ (by omega)).trans HR5.out
          have a2' : wc.cell? ⟨kb, ko + k, none⟩ = some (.string x) := ((HBW.out.trans ((HB5.out.mono (by omega)).trans (hbx.mono (by omega)))).cell (p := ⟨kb, ko + k, none⟩) hkb).trans A0.out
          have a4' : wc.cell? ⟨W.heap.size, 4, none⟩ = some (.slice (some ⟨kb, ko, none⟩) t.keys.length kac) := (by rw [cell_of_row wc _ 4 _ _ _ hb1]; rfl)
          have p0 : wc.cell? ⟨w2.heap.size, 0, none⟩ = some (.int .i64 fy.kind) := (by rw [cell_of_row wc _ 0 _ _ _ hb5]; rfl)
          have p1 : wc.cell? ⟨w2.heap.size, 1, none⟩ = some (.string fy.text) := (by rw [cell_of_row wc _ 1 _ _ _ hb5]; rfl)
          have p2 : wc.cell? ⟨w2.heap.size, 2, none⟩ = some (.float .f64 fy.num) := (by rw [cell_of_row wc _ 2 _ _ _ hb5]; rfl)
          have p3 : wc.cell? ⟨w2.heap.size, 3, none⟩ = some (.bool fy.yes) := (by rw [cell_of_row wc _ 3 _ _ _ hb5]; rfl)
          have p4 : wc.cell? ⟨w2.heap.size, 4, none⟩ = some (.slice fa fy.keys.length fc) := (by rw [cell_of_row wc _ 4 _ _ _ hb5]; rfl)
          have p5 : wc.cell? ⟨w2.heap.size, 5, none⟩ = some (.slice fb' fy.kids.length fd) := (by rw [cell_of_row wc _ 5 _ _ _ hb5]; rfl)
          have r0 : wc.cell? ⟨B3, 0, none⟩ = some (.int .i64 m.kind) := (by rw [cell_of_row wc _ 0 _ _ _ hr3]; rfl)
          have r1 : wc.cell? ⟨B3, 1, none⟩ = some (.string m.text) := (by rw [cell_of_row wc _ 1 _ _ _ hr3]; rfl)
          have r2 : wc.cell? ⟨B3, 2, none⟩ = some (.float .f64 m.num) := (by rw [cell_of_row wc _ 2 _ _ _ hr3]; rfl)
          have r3 : wc.cell? ⟨B3, 3, none⟩ = some (.bool m.yes) := (by rw [cell_of_row wc _ 3 _ _ _ hr3]; rfl)
          have r4 : wc.cell? ⟨B3, 4, none⟩ = some (.slice ma m.keys.length mc) := (by rw [cell_of_row wc _ 4 _ _ _ hr3]; rfl)
          have r5 : wc.cell? ⟨B3, 5, none⟩ = some (.slice mb m.kids.length md) := (by rw [cell_of_row wc _ 5 _ _ _ hr3]; rfl)
          have fr : ∀ j, wc.frozen? ⟨B3, j, none⟩ = false := fun j => frozen_of_row wc _ j _ _ hr3
          have HR3 := hide hr3
          have HSZC : Hid (w2.heap.size < wc.heap.size) := hide (lt_of_block hb5)
          have HBALL : Hid (Below wr.heap.size wr wc) := hide (HB5.out.trans (hbx.mono (by omega)))
          clear hbx htf hsx hb1 hr3 hb5 hfy
          go_wp2_with fail
          go_region_law (go_simp; go_at_call 68; refine (with_any ok5 _ x (fun j hj => HOK5.out j (by have := HSZC.out; simp at hj; omega)) (HTMX.out.same (Same.of_below (by go_grown))) (HTF.out.same (Same.of_below (by go_grown))) (by rw [HM.out]; exact mapTree_len _) (by have := foldE_len g t k; rw [← HM.out] at this; omega)).mono ?_; rintro e w9 ⟨v, rfl, ht, hb⟩; obtain ⟨n1, hn1⟩ : ∃ x', x' = withL m x fy := ⟨_, rfl⟩; rw [← hn1] at ht; obtain ⟨na, nc, nb, nd, cc2, rfl, -⟩ := ht.open; have HT9 := hide ht; have HN := hide hn1; have HB9 : Hid (Below wc.heap.size wc w9) := hide (Below.trans (by go_grown) (hb.mono (by simp))); clear ht hb hn1; have hr9 := zero6 HR3.out HB9.out; have d0 : w9.cell? ⟨B3, 0, none⟩ = some (.int .i64 m.kind) := (by rw [cell_of_row w9 _ 0 _ _ _ hr9]; rfl); have d1 : w9.cell? ⟨B3, 1, none⟩ = some (.string m.text) := (by rw [cell_of_row w9 _ 1 _ _ _ hr9]; rfl); have d2 : w9.cell? ⟨B3, 2, none⟩ = some (.float .f64 m.num) := (by rw [cell_of_row w9 _ 2 _ _ _ hr9]; rfl); have d3 : w9.cell? ⟨B3, 3, none⟩ = some (.bool m.yes) := (by rw [cell_of_row w9 _ 3 _ _ _ hr9]; rfl); have d4 : w9.cell? ⟨B3, 4, none⟩ = some (.slice ma m.keys.length mc) := (by rw [cell_of_row w9 _ 4 _ _ _ hr9]; rfl); have d5 : w9.cell? ⟨B3, 5, none⟩ = some (.slice mb m.kids.length md) := (by rw [cell_of_row w9 _ 5 _ _ _ hr9]; rfl); have fd : ∀ j, w9.frozen? ⟨B3, j, none⟩ = false := fun j => frozen_of_row w9 _ j _ _ hr9; have HR9 := hide hr9; clear hr9)
          all_goals
            go_wp2_with fail
            go_round
            case rel =>
              have HBZ : Hid (Below wr.heap.size wr w9) := hide (HBALL.out.trans (HB9.out.mono HBALL.out.size))
              refine ⟨k + 1, by omega, by go_num, (HBW.out.trans (HBZ.out.mono (by omega))).trans (below6 (by omega) _ _ _ _ _ _), by have := HBZ.out.size; simp; omega, (other6 (by omega) _ _ _ _ _ _).trans (zero6 HX0.out HBZ.out), (other6 (by omega) _ _ _ _ _ _).trans (zero6 HZ0.out HBZ.out), ?_⟩
              have e : mapTree ((foldE g t).take (k + 1)) = n1 := by rw [foldE_take HXK.out HY.out, ← with_map, ← HM.out, HN.out, HFY.out, HGY.out]
              rw [e]
              exact VarAt.store HR9.out HN3.out (HT9.out.weaken fun k hk _ => HO5.out k hk)
            case measure => first | (simp [intOf]; done) | (simp [intOf]; omega)
    · have hke : (foldE g t).take k = foldE g t := List.take_of_length_le (by unfold foldE; rw [List.length_map, List.length_zip]; omega)
      have z0 : wr.cell? ⟨W.heap.size + 1, 0, none⟩ = some (.int .i64 0) := (by rw [cell_of_row wr _ 0 _ _ _ HZ0.out]; rfl)
      have z1 : wr.cell? ⟨W.heap.size + 1, 1, none⟩ = some (.string ⟨#[]⟩) := (by rw [cell_of_row wr _ 1 _ _ _ HZ0.out]; rfl)
      have z2 : wr.cell? ⟨W.heap.size + 1, 2, none⟩ = some (.float .f64 0) := (by rw [cell_of_row wr _ 2 _ _ _ HZ0.out]; rfl)
      have z3 : wr.cell? ⟨W.heap.size + 1, 3, none⟩ = some (.bool false) := (by rw [cell_of_row wr _ 3 _ _ _ HZ0.out]; rfl)
      have z4 : wr.cell? ⟨W.heap.size + 1, 4, none⟩ = some (.slice none 0 0) := (by rw [cell_of_row wr _ 4 _ _ _ HZ0.out]; rfl)
      have z5 : wr.cell? ⟨W.heap.size + 1, 5, none⟩ = some (.slice none 0 0) := (by rw [cell_of_row wr _ 5 _ _ _ HZ0.out]; rfl)
      have fr : ∀ j, wr.frozen? ⟨W.heap.size + 1, j, none⟩ = false := fun j => frozen_of_row wr _ j _ _ HZ0.out
      have m0 : wr.cell? ⟨B3, 0, none⟩ = some (.int .i64 m.kind) := (by rw [cell_of_row wr _ 0 _ _ _ HB3.out]; rfl)
      have m1 : wr.cell? ⟨B3, 1, none⟩ = some (.string m.text) := (by rw [cell_of_row wr _ 1 _ _ _ HB3.out]; rfl)
      have m2 : wr.cell? ⟨B3, 2, none⟩ = some (.float .f64 m.num) := (by rw [cell_of_row wr _ 2 _ _ _ HB3.out]; rfl)
      have m3 : wr.cell? ⟨B3, 3, none⟩ = some (.bool m.yes) := (by rw [cell_of_row wr _ 3 _ _ _ HB3.out]; rfl)
      have m4 : wr.cell? ⟨B3, 4, none⟩ = some (.slice ma m.keys.length mc) := (by rw [cell_of_row wr _ 4 _ _ _ HB3.out]; rfl)
      have m5 : wr.cell? ⟨B3, 5, none⟩ = some (.slice mb m.kids.length md) := (by rw [cell_of_row wr _ 5 _ _ _ HB3.out]; rfl)
      have HME : Hid (m = mapTree (foldE g t)) := hide (by rw [HM.out, hke])
      clear hke
      go_wp2_with fail
      have HZ := hide (set6 HZ0.out (.int .i64 m.kind) (.string m.text) (.float .f64 m.num) (.bool m.yes) (.slice ma m.keys.length mc) (.slice mb m.kids.length md))
      have HS := hide (same6 (ok := ok') (w1 := wr) (b := W.heap.size + 1) (HN1.out) (.int .i64 m.kind) (.string m.text) (.float .f64 m.num) (.bool m.yes) (.slice ma m.keys.length mc) (.slice mb m.kids.length md))
      have HL6 := hide (below6 (n := W.heap.size) (w1 := wr) (b := W.heap.size + 1) (by omega) (.int .i64 m.kind) (.string m.text) (.float .f64 m.num) (.bool m.yes) (.slice ma m.keys.length mc) (.slice mb m.kids.length md))
      generalize ((((((wr.setCell ⟨W.heap.size + 1, 0, none⟩ (.int .i64 m.kind)).setCell ⟨W.heap.size + 1, 1, none⟩ (.string m.text)).setCell ⟨W.heap.size + 1, 2, none⟩ (.float .f64 m.num)).setCell ⟨W.heap.size + 1, 3, none⟩ (.bool m.yes)).setCell ⟨W.heap.size + 1, 4, none⟩ (.slice ma m.keys.length mc)).setCell ⟨W.heap.size + 1, 5, none⟩ (.slice mb m.kids.length md)) = wz at *
      have e0 : wz.cell? ⟨W.heap.size + 1, 0, none⟩ = some (.int .i64 m.kind) := by rw [cell_of_row wz _ 0 _ _ _ HZ.out]; rfl
      have e1 : wz.cell? ⟨W.heap.size + 1, 1, none⟩ = some (.string m.text) := by rw [cell_of_row wz _ 1 _ _ _ HZ.out]; rfl
      have e2 : wz.cell? ⟨W.heap.size + 1, 2, none⟩ = some (.float .f64 m.num) := by rw [cell_of_row wz _ 2 _ _ _ HZ.out]; rfl
      have e3 : wz.cell? ⟨W.heap.size + 1, 3, none⟩ = some (.bool m.yes) := by rw [cell_of_row wz _ 3 _ _ _ HZ.out]; rfl
      have e4 : wz.cell? ⟨W.heap.size + 1, 4, none⟩ = some (.slice ma m.keys.length mc) := by rw [cell_of_row wz _ 4 _ _ _ HZ.out]; rfl
      have e5 : wz.cell? ⟨W.heap.size + 1, 5, none⟩ = some (.slice mb m.kids.length md) := by rw [cell_of_row wz _ 5 _ _ _ HZ.out]; rfl
      refine bodyPost_ret (by simp [results, Tryz.results70, go_sem, e0, e1, e2, e3, e4, e5]; try rfl) rfl ?_
      refine ⟨_, rfl, ?_, ?_⟩
      · rw [← HME.out]
        exact (HTM.out.same HS.out).weaken fun k hk _ => HOO.out k hk
      · exact HBW.out.trans HL6.out
end Go.Proofs.YtbcnhcpgloncdaaGreatDoor
