/-
  spec.ReadBeside.
-/
import Derived.Test.YtbcnhcpgloncdaaGreatDoorA9
namespace Go.Proofs.YtbcnhcpgloncdaaGreatDoor
open Go.RowKit Go.Sort Go.ChangeMaps Go.MapKept Go.Lib

/-- A slice of one pair, just made. -/
theorem sets_one {w : World} {ok : Nat → Prop} {g : Nat} {key : ByteArray} {v0 v1 v2 v3 v4 v5 : Value} {t : T} (hb : w.heap[g]? = some (.cells #[.string key, v0, v1, v2, v3, v4, v5] 80 (0, 0))) (hg : ok g) (ht : TreeAt w ok (.agg #[v0, v1, v2, v3, v4, v5]) t) :
    SetsAt w ok (.slice (some ⟨g, 0, none⟩) 1 1) [⟨key, t⟩] := by
  refine ⟨_, 1, fun _ j => (#[.string key, v0, v1, v2, v3, v4, v5] : Array Value)[j]?.getD .nilIface, rfl, Nat.le_refl _, fun i hi => ⟨g, 0, rfl, hg, fun j hj => ?_⟩, fun i s hi => ?_⟩
  · obtain rfl : i = 0 := by simpa using hi
    rw [cell_of_row w g _ _ _ _ hb]
    match j, hj with
    | 0, _ => rfl
    | 1, _ => rfl
    | 2, _ => rfl
    | 3, _ => rfl
    | 4, _ => rfl
    | 5, _ => rfl
    | 6, _ => rfl
  · match i, hi with
    | 0, hi => cases hi; exact ⟨rfl, ht⟩
    | i + 1, hi => simp at hi

def besE (lists : List ByteArray) (x : T) : List (ByteArray × T) := (x.keys.zip x.kids).filter fun p => !(hasB lists p.1 && ((p.2.kids.length : Int) == 0))
def besK (lists : List ByteArray) (x : T) (k : Nat) : List (ByteArray × T) := ((x.keys.zip x.kids).take k).filter fun p => !(hasB lists p.1 && ((p.2.kids.length : Int) == 0))
theorem besK_step {lists : List ByteArray} {x : T} {k : Nat} {key : ByteArray} {y : T} (hx : x.keys[k]? = some key) (hy : x.kids[k]? = some y) : besK lists x (k + 1) = besK lists x k ++ (if (hasB lists key && ((y.kids.length : Int) == 0)) = true then [] else [(key, y)]) := by
  have hz : (x.keys.zip x.kids)[k]? = some (key, y) := (List.getElem?_zip_eq_some (z := (key, y))).2 ⟨hx, hy⟩
  obtain ⟨h1, h2⟩ := List.getElem?_eq_some_iff.1 hz
  unfold besK
  rw [List.take_succ_eq_append_getElem h1, h2, List.filter_append]
  rw [List.filter_cons, List.filter_nil]
  cases h : (hasB lists key && ((y.kids.length : Int) == 0)) <;> rfl
theorem besK_len (lists : List ByteArray) (x : T) (k : Nat) : (mapTree (besK lists x k)).keys.length ≤ x.kids.length := by
  rw [mapTree_len]
  refine Nat.le_trans (mapTree_le _) ?_
  unfold besK
  refine Nat.le_trans (List.length_filter_le _ _) ?_
  rw [List.length_take, List.length_zip]; omega
theorem besK_all (lists : List ByteArray) (x : T) (h : x.keys.length = x.kids.length) : besK lists x x.kids.length = besE lists x := by
  unfold besK besE
  rw [List.take_of_length_le (by rw [List.length_zip]; omega)]

set_option maxHeartbeats 8000000 in
set_option maxRecDepth 100000 in
theorem beside_any (ok : Nat → Prop) (W : World) (v vl : Value) (t x : T) (kind : ByteArray) (lists : List ByteArray) (hok : ∀ k, W.heap.size ≤ k → ok k) (hv : TreeAt W ok v t) (hls : StrsAt W ok vl lists) (hll : lists.length ≤ 4611686018427387904)
    (hkind : t.kind = 5) (hl : t.keys.length = t.kids.length) (hb : t.kids.length ≤ 4194304) (hin : withinT t kind = some x) (hxl : x.keys.length = x.kids.length) (hxb : x.kids.length ≤ 4194304)
    (hkids : ∀ (i : Nat) key y, x.keys[i]? = some key → x.kids[i]? = some y → (y.kind == 0) = false ∧ (hasB lists key = true → (y.kind == 4) = true)) :
    Calls Tryz.prog 62 #[.string kind, v, vl] W (RetTree ok W (mapTree [(kind, mapTree (besE lists x))])) := by
  have hv' := hv.weaken (ok' := fun j => ok j ∧ j < W.heap.size) fun k h0 h => ⟨h0, h⟩
  have hls' := hls.weaken (ok' := fun j => ok j ∧ j < W.heap.size) fun k h0 h => ⟨h0, h⟩
  obtain ⟨ka, kac, ta, tac, c, rfl, -⟩ := hv'.open
  obtain ⟨la, lcap, rfl, -⟩ := hls'
  have HLS := hide hls
  have HV := hide hv'
  have HOK := hide hok
  have HL := hide hl
  have HK5 := hide hkind
  have HIN := hide hin
  have HXL := hide hxl
  have HKS := hide hkids
  have hnl : (x.keys.length : Int) = (x.kids.length : Int) := by rw [hxl]
  clear hok hv hv' hl hkind hin hxl hkids hls
  go_enter Tryz.func62, Tryz.ntmps62
  go_wp2_with fail
  refine (within_any (fun j => ok j ∧ j ≠ W.heap.size + 1) _ _ t kind (fun j hj => by simp at hj; exact ⟨HOK.out j (by omega), by omega⟩) ((HV.out.weaken fun k hk _ => ⟨hk.1, by have := hk.2; omega⟩).same (Same.of_below (by go_grown))) HK5.out HL.out (by omega)).mono ?_
  rintro e w1 ⟨v, x', rfl, hx, hxe, hb1⟩
  rw [HIN.out]
  obtain rfl : x = x' := (hxe x HIN.out).symm
  obtain ⟨xa, xc, ya, yc, c2, rfl, -⟩ := hx.open
  have HX := hide hx
  have hba : W.heap.size + 2 ≤ w1.heap.size := by have := hb1.size; simpa using this
  have hr : w1.heap[W.heap.size + 1]? = some (.cells #[.int .i64 0, .string ⟨#[]⟩, .float .f64 0, .bool false, .slice none 0 0, .slice none 0 0] 26 (0, 0)) := (hb1.block _ (by simp)).trans (heap_alloc_two _ _ _)
  have HB : Hid (Below W.heap.size W w1) := hide (Below.trans (by go_grown) (hb1.mono (by simp; omega)))
  have HR := hide hr
  clear hx hxe hb1 hr
  go_wp2_with fail
  obtain ⟨Xz0, Xb0⟩ := new_at w1 #[.int .i64 x.kind, .string x.text, .float .f64 x.num, .bool x.yes, .slice xa x.keys.length xc, .slice ya x.kids.length yc]
  have XZ := hide Xz0
  have XB := hide Xb0
  clear Xz0 Xb0
  generalize hwzX : w1.alloc (.cells #[.int .i64 x.kind, .string x.text, .float .f64 x.num, .bool x.yes, .slice xa x.keys.length xc, .slice ya x.kids.length yc] 26 (0, 0)) = w2 at *
  have XS : w1.heap.size < w2.heap.size := lt_of_block XZ.out
  clear hwzX
  generalize hB7 : w1.heap.size = B7 at *
  refine (map_any (fun j => ok j ∧ j ≠ W.heap.size + 1 ∧ j ≠ B7) _ _ [] (fun j hj => ⟨HOK.out j (by omega), by omega, by omega⟩) ⟨none, 0, fun _ _ => .nilIface, rfl, Nat.le_refl _, fun i hi => by simp at hi, fun i s h => by simp at h⟩ (by simp)).mono ?_
  rintro e w3 ⟨v, rfl, ht, hb3⟩
  obtain ⟨m0, hm0⟩ : ∃ x, x = mapTree (pE []) := ⟨_, rfl⟩
  rw [← hm0] at ht
  have HM0 := hide hm0
  obtain ⟨ma0, mc0, mb0, md0, c3, rfl, -⟩ := ht.open
  have HMT := hide ht
  have HB3 := hide hb3
  have hs3 := hb3.size
  clear ht hb3 hm0
  go_wp2_with fail
  obtain ⟨Nz0, Nb0⟩ := new_at w3 #[.int .i64 m0.kind, .string m0.text, .float .f64 m0.num, .bool m0.yes, .slice ma0 m0.keys.length mc0, .slice mb0 m0.kids.length md0]
  have NZ := hide Nz0
  have NB := hide Nb0
  clear Nz0 Nb0
  generalize hwzN : w3.alloc (.cells #[.int .i64 m0.kind, .string m0.text, .float .f64 m0.num, .bool m0.yes, .slice ma0 m0.keys.length mc0, .slice mb0 m0.kids.length md0] 26 (0, 0)) = w4 at *
  have NS : w3.heap.size < w4.heap.size := lt_of_block NZ.out
  clear hwzN
  generalize hB9 : w3.heap.size = B9 at *
  obtain ⟨ok', hok'⟩ : ∃ p : Nat → Prop, p = fun j => ok j ∧ j ≠ W.heap.size + 1 ∧ j ≠ B7 ∧ j ≠ B9 := ⟨_, rfl⟩
  have HOK' : Hid (∀ k, B9 + 1 ≤ k → ok' k) := hide (by rw [hok']; intro k hk; exact ⟨HOK.out k (by omega), by omega, by omega, by omega⟩)
  have HN1 : Hid (¬ ok' (W.heap.size + 1)) := hide (by rw [hok']; intro h; exact h.2.1 rfl)
  have HN9 : Hid (¬ ok' B9) := hide (by rw [hok']; intro h; exact h.2.2.2 rfl)
  have HOO : Hid (∀ k, ok' k → ok k) := hide (by rw [hok']; intro k h; exact h.1)
  have HV0 : Hid (VarAt w4 ok' B9 (mapTree (besK lists x 0))) := hide ⟨ma0, mc0, mb0, md0, by
      rw [show besK lists x 0 = pE [] from rfl, ← HM0.out]; exact NZ.out, by
      rw [show besK lists x 0 = pE [] from rfl, ← HM0.out, hok']; exact (HMT.out.weaken fun k h hlt => ⟨h.1, h.2.1, h.2.2, by omega⟩).same (fun k _ hlt => NB.out.block k (by omega))⟩
  have HBX2 : Hid (Below B7 w2 w4) := hide ((HB3.out.mono (by omega)).trans (NB.out.mono (by omega)))
  have HX4 : Hid (TreeAt w4 ok' (.agg #[.int .i64 x.kind, .string x.text, .float .f64 x.num, .bool x.yes, .slice xa x.keys.length xc, .slice ya x.kids.length yc]) x) := hide ((HX.out.weaken (ok' := ok') fun k h hlt => by rw [hok']; exact ⟨h.1, h.2, by omega, by omega⟩).same fun k _ hlt => ((HB3.out.trans (NB.out.mono hs3)).block k (by omega)).trans (XB.out.block k (by omega)))
  have HI0 : Hid (w4.heap[B7]? = some (.cells #[.int .i64 x.kind, .string x.text, .float .f64 x.num, .bool x.yes, .slice xa x.keys.length xc, .slice ya x.kids.length yc] 26 (0, 0)) ∧ w4.heap[W.heap.size + 1]? = some (.cells #[.int .i64 0, .string ⟨#[]⟩, .float .f64 0, .bool false, .slice none 0 0, .slice none 0 0] 26 (0, 0)) ∧ Below W.heap.size W w4) := hide ⟨((HB3.out.trans (NB.out.mono hs3)).block _ (by omega)).trans XZ.out, ((HB3.out.trans (NB.out.mono hs3)).block _ (by omega)).trans ((XB.out.block _ (by omega)).trans HR.out), (HB.out.trans (XB.out.mono (by omega))).trans ((HB3.out.mono (by omega)).trans (NB.out.mono (by omega)))⟩
  have HOLS : Hid (∀ k, ok k ∧ k < W.heap.size → ok' k) := hide (by rw [hok']; intro k h; exact ⟨h.1, by omega, by omega, by omega⟩)
  clear HX HM0 HMT HR HB hok' hB7 hB9 HBX2
  go_loopw [10] (fun i wr => ∃ k : Nat, k ≤ x.kids.length ∧ i = .int .i64 k ∧ Below W.heap.size W wr ∧ B9 + 1 ≤ wr.heap.size ∧ Below B9 w4 wr ∧ VarAt wr ok' B9 (mapTree (besK lists x k)) ∧ Same ok' w4 wr) (fun i _ => x.kids.length - (intOf i).toNat)
  case atStart => exact ⟨0, Nat.zero_le _, rfl, HI0.out.2.2, NS, Below.refl _ _, HV0.out, fun _ _ _ => rfl⟩
  case round =>
    obtain ⟨k, hk, rfl, hbw, hsz, hb4, hv, hsm⟩ := hrel
    obtain ⟨m, hm⟩ : ∃ z, z = mapTree (besK lists x k) := ⟨_, rfl⟩
    rw [← hm] at hv
    have HM := hide hm
    have HBW := hide hbw
    have HB4 := hide hb4
    obtain ⟨ma, mc, mb, md, hb9, htm⟩ := hv
    have HTM := hide htm
    have HB9 := hide hb9
    have hx7 : wr.heap[B7]? = _ := (hb4.block _ (by omega)).trans HI0.out.1
    have HX7 := hide hx7
    have HZ0 : Hid (wr.heap[W.heap.size + 1]? = _) := hide ((hb4.block _ (by omega)).trans HI0.out.2.1)
    have HXT := hide (HX4.out.same hsm)
    have HSM := hide hsm
    have c0 : wr.cell? ⟨B7, 0, none⟩ = some (.int .i64 x.kind) := (by rw [cell_of_row wr _ 0 _ _ _ hx7]; rfl)
    have c1 : wr.cell? ⟨B7, 1, none⟩ = some (.string x.text) := (by rw [cell_of_row wr _ 1 _ _ _ hx7]; rfl)
    have c2 : wr.cell? ⟨B7, 2, none⟩ = some (.float .f64 x.num) := (by rw [cell_of_row wr _ 2 _ _ _ hx7]; rfl)
    have c3 : wr.cell? ⟨B7, 3, none⟩ = some (.bool x.yes) := (by rw [cell_of_row wr _ 3 _ _ _ hx7]; rfl)
    have c4 : wr.cell? ⟨B7, 4, none⟩ = some (.slice xa x.keys.length xc) := (by rw [cell_of_row wr _ 4 _ _ _ hx7]; rfl)
    have c5 : wr.cell? ⟨B7, 5, none⟩ = some (.slice ya x.kids.length yc) := (by rw [cell_of_row wr _ 5 _ _ _ hx7]; rfl)
    clear hm hbw htm hx7 hb9 hb4 hsm
    by_cases hlt : k < x.kids.length
    · have hltk : k < x.keys.length := by rw [HXL.out]; exact hlt
      obtain ⟨key, hkey⟩ : ∃ z, x.keys[k]? = some z := ⟨_, List.getElem?_eq_getElem hltk⟩
      obtain ⟨y, hy⟩ : ∃ z, x.kids[k]? = some z := ⟨_, List.getElem?_eq_getElem hlt⟩
      obtain ⟨qa, qc, qb, qd, cc, hv6, -, -, hkc0, hcc0, htt0⟩ := HXT.out.open
      simp only [Value.agg.injEq, Array.mk.injEq, List.cons.injEq, Value.slice.injEq, and_true, true_and] at hv6
      obtain ⟨⟨rfl, rfl⟩, rfl, rfl⟩ := hv6
      obtain ⟨kb, ko, rfl, hkb, hkc⟩ := hkc0 k key hkey
      obtain ⟨b, q, rfl, hbl, hcell⟩ := hcc0 k hlt
      have htr := htt0 k y hy
      obtain ⟨fa, fc, fb, fd, cc4, hv6, -⟩ := htr.open
      rw [hv6] at htr
      simp only [Value.agg.injEq, Array.mk.injEq, List.cons.injEq, and_true] at hv6
      obtain ⟨v1, v2, v3, v4, v5, v6⟩ := hv6
      have e0 := hcell 0 (by omega)
      have e1 := hcell 1 (by omega)
      have e2 := hcell 2 (by omega)
      have e3 := hcell 3 (by omega)
      have e4 := hcell 4 (by omega)
      have e5 := hcell 5 (by omega)
      rw [v1] at e0; rw [v2] at e1; rw [v3] at e2; rw [v4] at e3; rw [v5] at e4; rw [v6] at e5
      simp only [Nat.add_zero] at e0
      have HTR := hide htr
      have HKEY := hide hkey
      have HY := hide hy
      have hkk := HKS.out k key y hkey hy
      have i1 : (0 : Int) ≤ (k : Int) := by omega
      have i3 : (k : Int) < (x.kids.length : Int) := by omega
      have A0 := hide hkc
      have hkbl := World.block_lt_of_cell? wr _ hkc
      clear hcell htr v1 v2 v3 v4 v5 v6 hkey hy hkc0 hcc0 htt0 hkc
      go_upto_region 9 with fail
      obtain ⟨Vz0, Vb0⟩ := new_at wr #[.int .i64 y.kind, .string y.text, .float .f64 y.num, .bool y.yes, .slice fa y.keys.length fc, .slice fb y.kids.length fd]
      have VZ := hide Vz0
      have VB := hide Vb0
      clear Vz0 Vb0
      generalize hwzV : wr.alloc (.cells #[.int .i64 y.kind, .string y.text, .float .f64 y.num, .bool y.yes, .slice fa y.keys.length fc, .slice fb y.kids.length fd] 26 (0, 0)) = w5 at *
      have VS : wr.heap.size < w5.heap.size := lt_of_block VZ.out
      clear hwzV
      obtain ⟨ok5, hok5⟩ : ∃ p : Nat → Prop, p = fun j => ok' j ∧ j ≠ wr.heap.size := ⟨_, rfl⟩
      have HOK5 : Hid (∀ k, w5.heap.size ≤ k → ok5 k) := hide (by rw [hok5]; intro k hk; exact ⟨HOK'.out k (by omega), by omega⟩)
      have HO5 : Hid (∀ k, ok5 k → ok' k) := hide (by rw [hok5]; intro k h; exact h.1)
      have HB5 : Hid (Below wr.heap.size wr w5) := hide VB.out
      have HV5 : Hid (TreeAt w5 ok5 (.agg #[.int .i64 y.kind, .string y.text, .float .f64 y.num, .bool y.yes, .slice fa y.keys.length fc, .slice fb y.kids.length fd]) y) := hide ((HTR.out.weaken (ok' := ok5) fun k hk hlt => by rw [hok5]; exact ⟨hk, by omega⟩).same (Same.of_below VB.out))
      have HTM5 : Hid (TreeAt w5 ok5 (.agg #[.int .i64 m.kind, .string m.text, .float .f64 m.num, .bool m.yes, .slice ma m.keys.length mc, .slice mb m.kids.length md]) m) := hide ((HTM.out.weaken (ok' := ok5) fun k hk hlt => by rw [hok5]; exact ⟨hk, by omega⟩).same (Same.of_below VB.out))
      have HLS5 : Hid (StrsAt w5 ok (.slice la lists.length lcap) lists) := hide (HLS.out.same (Same.of_below (HBW.out.trans (VB.out.mono (by omega)))))
      clear hok5
      have hx5 := zero6 HX7.out VB.out
      have hr5 := zero6 HB9.out VB.out
      have a2 : w5.cell? ⟨kb, ko + k, none⟩ = some (.string key) := (VB.out.cell (p := ⟨kb, ko + k, none⟩) hkbl).trans A0.out
      have x0 : w5.cell? ⟨B7, 0, none⟩ = some (.int .i64 x.kind) := (by rw [cell_of_row w5 _ 0 _ _ _ hx5]; rfl)
      have x1 : w5.cell? ⟨B7, 1, none⟩ = some (.string x.text) := (by rw [cell_of_row w5 _ 1 _ _ _ hx5]; rfl)
      have x2 : w5.cell? ⟨B7, 2, none⟩ = some (.float .f64 x.num) := (by rw [cell_of_row w5 _ 2 _ _ _ hx5]; rfl)
      have x3 : w5.cell? ⟨B7, 3, none⟩ = some (.bool x.yes) := (by rw [cell_of_row w5 _ 3 _ _ _ hx5]; rfl)
      have x4 : w5.cell? ⟨B7, 4, none⟩ = some (.slice (some ⟨kb, ko, none⟩) x.keys.length xc) := (by rw [cell_of_row w5 _ 4 _ _ _ hx5]; rfl)
      have x5 : w5.cell? ⟨B7, 5, none⟩ = some (.slice (some ⟨b, q, none⟩) x.kids.length yc) := (by rw [cell_of_row w5 _ 5 _ _ _ hx5]; rfl)
      have g0 : w5.cell? ⟨wr.heap.size, 0, none⟩ = some (.int .i64 y.kind) := (by rw [cell_of_row w5 _ 0 _ _ _ VZ.out]; rfl)
      have g1 : w5.cell? ⟨wr.heap.size, 1, none⟩ = some (.string y.text) := (by rw [cell_of_row w5 _ 1 _ _ _ VZ.out]; rfl)
      have g2 : w5.cell? ⟨wr.heap.size, 2, none⟩ = some (.float .f64 y.num) := (by rw [cell_of_row w5 _ 2 _ _ _ VZ.out]; rfl)
      have g3 : w5.cell? ⟨wr.heap.size, 3, none⟩ = some (.bool y.yes) := (by rw [cell_of_row w5 _ 3 _ _ _ VZ.out]; rfl)
      have g4 : w5.cell? ⟨wr.heap.size, 4, none⟩ = some (.slice fa y.keys.length fc) := (by rw [cell_of_row w5 _ 4 _ _ _ VZ.out]; rfl)
      have g5 : w5.cell? ⟨wr.heap.size, 5, none⟩ = some (.slice fb y.kids.length fd) := (by rw [cell_of_row w5 _ 5 _ _ _ VZ.out]; rfl)
      have m0 : w5.cell? ⟨B9, 0, none⟩ = some (.int .i64 m.kind) := (by rw [cell_of_row w5 _ 0 _ _ _ hr5]; rfl)
      have m1 : w5.cell? ⟨B9, 1, none⟩ = some (.string m.text) := (by rw [cell_of_row w5 _ 1 _ _ _ hr5]; rfl)
      have m2 : w5.cell? ⟨B9, 2, none⟩ = some (.float .f64 m.num) := (by rw [cell_of_row w5 _ 2 _ _ _ hr5]; rfl)
      have m3 : w5.cell? ⟨B9, 3, none⟩ = some (.bool m.yes) := (by rw [cell_of_row w5 _ 3 _ _ _ hr5]; rfl)
      have m4 : w5.cell? ⟨B9, 4, none⟩ = some (.slice ma m.keys.length mc) := (by rw [cell_of_row w5 _ 4 _ _ _ hr5]; rfl)
      have m5 : w5.cell? ⟨B9, 5, none⟩ = some (.slice mb m.kids.length md) := (by rw [cell_of_row w5 _ 5 _ _ _ hr5]; rfl)
      have fm : ∀ j, w5.frozen? ⟨B9, j, none⟩ = false := fun j => frozen_of_row w5 _ j _ _ hr5
      have HR5 := hide hr5
      have hk0 : (y.kind == 0) = false := hkk.1
      clear hx5 hr5
      cases hh : hasB lists key
      · go_wp2_with fail
        refine (has_any ok lists _ key _ HLS5.out hll).mono ?_
        rintro e w' ⟨rfl, hww⟩
        obtain rfl : w5 = w' := hww.symm
        rw [hh]
        go_wp2_with fail
        refine (has_any ok lists _ key _ HLS5.out hll).mono ?_
        rintro e w' ⟨rfl, hww⟩
        obtain rfl : w5 = w' := hww.symm
        rw [hh]
        go_wp2_with fail
        go_region_law (go_simp; go_at_call 68; refine (with_any ok5 _ key (fun j hj => HOK5.out j (by simp at hj; omega)) (HTM5.out.same (Same.of_below (by go_grown))) (HV5.out.same (Same.of_below (by go_grown))) (by rw [HM.out]; exact mapTree_len _) (by have := besK_len lists x k; rw [← HM.out] at this; omega)).mono ?_; rintro e w9 ⟨v, rfl, ht, hb⟩; obtain ⟨n1, hn1⟩ : ∃ x', x' = withL m key y := ⟨_, rfl⟩; rw [← hn1] at ht; obtain ⟨na, nc, nb, nd, cc2, rfl, -⟩ := ht.open; have HT9 := hide ht; have HN := hide hn1; have HB9' : Hid (Below w5.heap.size w5 w9) := hide (Below.trans (by go_grown) (hb.mono (by simp))); clear ht hb hn1; have hr9 := zero6 HR5.out HB9'.out; have d0 : w9.cell? ⟨B9, 0, none⟩ = some (.int .i64 m.kind) := (by rw [cell_of_row w9 _ 0 _ _ _ hr9]; rfl); have d1 : w9.cell? ⟨B9, 1, none⟩ = some (.string m.text) := (by rw [cell_of_row w9 _ 1 _ _ _ hr9]; rfl); have d2 : w9.cell? ⟨B9, 2, none⟩ = some (.float .f64 m.num) := (by rw [cell_of_row w9 _ 2 _ _ _ hr9]; rfl); have d3 : w9.cell? ⟨B9, 3, none⟩ = some (.bool m.yes) := (by rw [cell_of_row w9 _ 3 _ _ _ hr9]; rfl); have d4 : w9.cell? ⟨B9, 4, none⟩ = some (.slice ma m.keys.length mc) := (by rw [cell_of_row w9 _ 4 _ _ _ hr9]; rfl); have d5 : w9.cell? ⟨B9, 5, none⟩ = some (.slice mb m.kids.length md) := (by rw [cell_of_row w9 _ 5 _ _ _ hr9]; rfl); have fd : ∀ j, w9.frozen? ⟨B9, j, none⟩ = false := fun j => frozen_of_row w9 _ j _ _ hr9; have HR9 := hide hr9; clear hr9)
        all_goals
          go_wp2_with fail
          go_round
          case rel =>
            have HBZ : Hid (Below wr.heap.size wr w9) := hide (HB5.out.trans (HB9'.out.mono (by omega)))
            have hsz9 := HBZ.out.size
            refine ⟨k + 1, by omega, by go_num, (HBW.out.trans (HBZ.out.mono (by omega))).trans (below6 (by omega) _ _ _ _ _ _), by simp; omega, (HB4.out.trans (HBZ.out.mono (by omega))).trans (below6 (by omega) _ _ _ _ _ _), ?_, ?_⟩
            · have e : mapTree (besK lists x (k + 1)) = n1 := by
                rw [besK_step HKEY.out HY.out, hh, Bool.false_and]
                rw [if_neg Bool.false_ne_true, ← with_map, ← HM.out, HN.out]
              rw [e]
              exact VarAt.store HR9.out HN9.out (HT9.out.weaken fun k hk _ => HO5.out k hk)
            · exact fun j hj hlt => (same6 HN9.out _ _ _ _ _ _ j hj (Nat.lt_of_lt_of_le (Nat.lt_of_lt_of_le hlt HB4.out.size) hsz9)).trans ((HBZ.out.block j (Nat.lt_of_lt_of_le hlt HB4.out.size)).trans (HSM.out j hj hlt))
          case measure => first | (simp [intOf]; done) | (simp [intOf]; omega)
      · have hk4 : (y.kind != 4) = false := by simp only [bne, hkk.2 hh]; rfl
        go_wp2_with fail
        refine (has_any ok lists _ key _ HLS5.out hll).mono ?_
        rintro e w' ⟨rfl, hww⟩
        obtain rfl : w5 = w' := hww.symm
        rw [hh]
        go_wp2_with fail
        refine (has_any ok lists _ key _ HLS5.out hll).mono ?_
        rintro e w' ⟨rfl, hww⟩
        obtain rfl : w5 = w' := hww.symm
        rw [hh]
        cases he : ((y.kids.length : Int) == 0)
        · go_wp2_with fail
          go_region_law (go_simp; go_at_call 68; refine (with_any ok5 _ key (fun j hj => HOK5.out j (by simp at hj; omega)) (HTM5.out.same (Same.of_below (by go_grown))) (HV5.out.same (Same.of_below (by go_grown))) (by rw [HM.out]; exact mapTree_len _) (by have := besK_len lists x k; rw [← HM.out] at this; omega)).mono ?_; rintro e w9 ⟨v, rfl, ht, hb⟩; obtain ⟨n1, hn1⟩ : ∃ x', x' = withL m key y := ⟨_, rfl⟩; rw [← hn1] at ht; obtain ⟨na, nc, nb, nd, cc2, rfl, -⟩ := ht.open; have HT9 := hide ht; have HN := hide hn1; have HB9' : Hid (Below w5.heap.size w5 w9) := hide (Below.trans (by go_grown) (hb.mono (by simp))); clear ht hb hn1; have hr9 := zero6 HR5.out HB9'.out; have d0 : w9.cell? ⟨B9, 0, none⟩ = some (.int .i64 m.kind) := (by rw [cell_of_row w9 _ 0 _ _ _ hr9]; rfl); have d1 : w9.cell? ⟨B9, 1, none⟩ = some (.string m.text) := (by rw [cell_of_row w9 _ 1 _ _ _ hr9]; rfl); have d2 : w9.cell? ⟨B9, 2, none⟩ = some (.float .f64 m.num) := (by rw [cell_of_row w9 _ 2 _ _ _ hr9]; rfl); have d3 : w9.cell? ⟨B9, 3, none⟩ = some (.bool m.yes) := (by rw [cell_of_row w9 _ 3 _ _ _ hr9]; rfl); have d4 : w9.cell? ⟨B9, 4, none⟩ = some (.slice ma m.keys.length mc) := (by rw [cell_of_row w9 _ 4 _ _ _ hr9]; rfl); have d5 : w9.cell? ⟨B9, 5, none⟩ = some (.slice mb m.kids.length md) := (by rw [cell_of_row w9 _ 5 _ _ _ hr9]; rfl); have fd : ∀ j, w9.frozen? ⟨B9, j, none⟩ = false := fun j => frozen_of_row w9 _ j _ _ hr9; have HR9 := hide hr9; clear hr9)
          all_goals
            go_wp2_with fail
            go_round
            case rel =>
              have HBZ : Hid (Below wr.heap.size wr w9) := hide (HB5.out.trans (HB9'.out.mono (by omega)))
              have hsz9 := HBZ.out.size
              refine ⟨k + 1, by omega, by go_num, (HBW.out.trans (HBZ.out.mono (by omega))).trans (below6 (by omega) _ _ _ _ _ _), by simp; omega, (HB4.out.trans (HBZ.out.mono (by omega))).trans (below6 (by omega) _ _ _ _ _ _), ?_, ?_⟩
              · have e : mapTree (besK lists x (k + 1)) = n1 := by
                  rw [besK_step HKEY.out HY.out, hh, he, Bool.true_and]
                  rw [if_neg Bool.false_ne_true, ← with_map, ← HM.out, HN.out]
                rw [e]
                exact VarAt.store HR9.out HN9.out (HT9.out.weaken fun k hk _ => HO5.out k hk)
              · exact fun j hj hlt => (same6 HN9.out _ _ _ _ _ _ j hj (Nat.lt_of_lt_of_le (Nat.lt_of_lt_of_le hlt HB4.out.size) hsz9)).trans ((HBZ.out.block j (Nat.lt_of_lt_of_le hlt HB4.out.size)).trans (HSM.out j hj hlt))
            case measure => first | (simp [intOf]; done) | (simp [intOf]; omega)
        · go_wp2_with fail
          refine ⟨⟨k + 1, by omega, by go_num, HBW.out.trans (HB5.out.mono (by omega)), by omega, HB4.out.trans (HB5.out.mono (by omega)), ?_, fun j hj hlt => (HB5.out.block j (Nat.lt_of_lt_of_le hlt HB4.out.size)).trans (HSM.out j hj hlt)⟩, by simp [intOf]; omega⟩
          rw [besK_step HKEY.out HY.out, hh, he, Bool.true_and, if_pos rfl, List.append_nil, ← HM.out]
          exact ⟨ma, mc, mb, md, HR5.out, HTM.out.same (Same.of_below VB.out)⟩
    · have hke : besK lists x k = besE lists x := by rw [← besK_all lists x HXL.out]; congr 1; omega
      have HME : Hid (m = mapTree (besE lists x)) := hide (by rw [HM.out, hke])
      clear hke
      have m0 : wr.cell? ⟨B9, 0, none⟩ = some (.int .i64 m.kind) := (by rw [cell_of_row wr _ 0 _ _ _ HB9.out]; rfl)
      have m1 : wr.cell? ⟨B9, 1, none⟩ = some (.string m.text) := (by rw [cell_of_row wr _ 1 _ _ _ HB9.out]; rfl)
      have m2 : wr.cell? ⟨B9, 2, none⟩ = some (.float .f64 m.num) := (by rw [cell_of_row wr _ 2 _ _ _ HB9.out]; rfl)
      have m3 : wr.cell? ⟨B9, 3, none⟩ = some (.bool m.yes) := (by rw [cell_of_row wr _ 3 _ _ _ HB9.out]; rfl)
      have m4 : wr.cell? ⟨B9, 4, none⟩ = some (.slice ma m.keys.length mc) := (by rw [cell_of_row wr _ 4 _ _ _ HB9.out]; rfl)
      have m5 : wr.cell? ⟨B9, 5, none⟩ = some (.slice mb m.kids.length md) := (by rw [cell_of_row wr _ 5 _ _ _ HB9.out]; rfl)
      go_wp2_with fail
      refine (map_any ok' _ _ [⟨kind, m⟩] (fun j hj => HOK'.out j (by simp at hj; omega)) (sets_one (heap_alloc_new _ _) (HOK'.out _ (by omega)) (HTM.out.same (Same.of_below (by go_grown)))) (by simp)).mono ?_
      rintro e w9 ⟨v, rfl, ht, hb9⟩
      obtain ⟨r1, hr1⟩ : ∃ z, z = mapTree (pE [⟨kind, m⟩]) := ⟨_, rfl⟩
      rw [← hr1] at ht
      obtain ⟨qa, qc, qb, qd, cc2, rfl, -⟩ := ht.open
      have HT9 := hide ht
      have HR1 : Hid (r1 = mapTree [(kind, mapTree (besE lists x))]) := hide (by rw [hr1, HME.out]; rfl)
      have HB9' : Hid (Below wr.heap.size wr w9) := hide (Below.trans (by go_grown) (hb9.mono (by simp)))
      have hz9 := zero6 HZ0.out HB9'.out
      have z0 : w9.cell? ⟨W.heap.size + 1, 0, none⟩ = some (.int .i64 0) := (by rw [cell_of_row w9 _ 0 _ _ _ hz9]; rfl)
      have z1 : w9.cell? ⟨W.heap.size + 1, 1, none⟩ = some (.string ⟨#[]⟩) := (by rw [cell_of_row w9 _ 1 _ _ _ hz9]; rfl)
      have z2 : w9.cell? ⟨W.heap.size + 1, 2, none⟩ = some (.float .f64 0) := (by rw [cell_of_row w9 _ 2 _ _ _ hz9]; rfl)
      have z3 : w9.cell? ⟨W.heap.size + 1, 3, none⟩ = some (.bool false) := (by rw [cell_of_row w9 _ 3 _ _ _ hz9]; rfl)
      have z4 : w9.cell? ⟨W.heap.size + 1, 4, none⟩ = some (.slice none 0 0) := (by rw [cell_of_row w9 _ 4 _ _ _ hz9]; rfl)
      have z5 : w9.cell? ⟨W.heap.size + 1, 5, none⟩ = some (.slice none 0 0) := (by rw [cell_of_row w9 _ 5 _ _ _ hz9]; rfl)
      have fr : ∀ j, w9.frozen? ⟨W.heap.size + 1, j, none⟩ = false := fun j => frozen_of_row w9 _ j _ _ hz9
      have HZ9 := hide hz9
      have hs9 := HB9'.out.size
      clear ht hr1 hb9 hz9
      go_wp2_with fail
      have HZ := hide (set6 HZ9.out (.int .i64 r1.kind) (.string r1.text) (.float .f64 r1.num) (.bool r1.yes) (.slice qa r1.keys.length qc) (.slice qb r1.kids.length qd))
      have HS := hide (same6 (ok := ok') (w1 := w9) (b := W.heap.size + 1) (HN1.out) (.int .i64 r1.kind) (.string r1.text) (.float .f64 r1.num) (.bool r1.yes) (.slice qa r1.keys.length qc) (.slice qb r1.kids.length qd))
      have HL6 := hide (below6 (n := W.heap.size) (w1 := w9) (b := W.heap.size + 1) (by omega) (.int .i64 r1.kind) (.string r1.text) (.float .f64 r1.num) (.bool r1.yes) (.slice qa r1.keys.length qc) (.slice qb r1.kids.length qd))
      generalize ((((((w9.setCell ⟨W.heap.size + 1, 0, none⟩ (.int .i64 r1.kind)).setCell ⟨W.heap.size + 1, 1, none⟩ (.string r1.text)).setCell ⟨W.heap.size + 1, 2, none⟩ (.float .f64 r1.num)).setCell ⟨W.heap.size + 1, 3, none⟩ (.bool r1.yes)).setCell ⟨W.heap.size + 1, 4, none⟩ (.slice qa r1.keys.length qc)).setCell ⟨W.heap.size + 1, 5, none⟩ (.slice qb r1.kids.length qd)) = wz at *
      have e0 : wz.cell? ⟨W.heap.size + 1, 0, none⟩ = some (.int .i64 r1.kind) := by rw [cell_of_row wz _ 0 _ _ _ HZ.out]; rfl
      have e1 : wz.cell? ⟨W.heap.size + 1, 1, none⟩ = some (.string r1.text) := by rw [cell_of_row wz _ 1 _ _ _ HZ.out]; rfl
      have e2 : wz.cell? ⟨W.heap.size + 1, 2, none⟩ = some (.float .f64 r1.num) := by rw [cell_of_row wz _ 2 _ _ _ HZ.out]; rfl
      have e3 : wz.cell? ⟨W.heap.size + 1, 3, none⟩ = some (.bool r1.yes) := by rw [cell_of_row wz _ 3 _ _ _ HZ.out]; rfl
      have e4 : wz.cell? ⟨W.heap.size + 1, 4, none⟩ = some (.slice qa r1.keys.length qc) := by rw [cell_of_row wz _ 4 _ _ _ HZ.out]; rfl
      have e5 : wz.cell? ⟨W.heap.size + 1, 5, none⟩ = some (.slice qb r1.kids.length qd) := by rw [cell_of_row wz _ 5 _ _ _ HZ.out]; rfl
      refine bodyPost_ret (by simp [results, Tryz.results62, go_sem, e0, e1, e2, e3, e4, e5]; try rfl) rfl ?_
      refine ⟨_, rfl, ?_, ?_⟩
      · rw [← HR1.out]
        exact (HT9.out.same HS.out).weaken fun k hk _ => HOO.out k hk
      · exact (HBW.out.trans (HB9'.out.mono (by omega))).trans HL6.out
end Go.Proofs.YtbcnhcpgloncdaaGreatDoor
