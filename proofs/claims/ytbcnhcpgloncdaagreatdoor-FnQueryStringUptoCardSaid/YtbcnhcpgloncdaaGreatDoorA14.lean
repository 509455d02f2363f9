/-
  spec.fieldsOf: the fields of a query with several ones.
-/
import Derived.Test.YtbcnhcpgloncdaaGreatDoorA13
import Derived.Test.YtbcnhcpgloncdaaGreatDoorA10
namespace Go.Proofs.YtbcnhcpgloncdaaGreatDoor
open Go.RowKit Go.Sort Go.MapKept

/-- A field in the tree that a query should be: with its boost, if it has one. -/
def tBoost (f : ByteArray) (x : Nat) : T := .mk 4 ⟨#[]⟩ 0 false [] [tText f, tNum x]
def kidOf (s : S) : Option T := if s.name.data.toList = nField then some (tText s.value.text) else if s.name.data.toList = nBoost then some (tBoost s.value.text s.value.num) else none
/-- The list of the fields. -/
def fieldsT (ts : List T) : T := .mk 4 ⟨#[]⟩ 0 false [] ts
def nFields : List UInt8 := [102, 105, 101, 108, 100, 115]
def fieldsS (ts : List T) : List S := if ts = [] then [] else [⟨bs nFields, fieldsT ts⟩]
def fieldKids (fs : List ByteArray) (ss : List S) : List T := fs.map tText ++ ss.filterMap kidOf
theorem kids_take {fs : List ByteArray} {ss : List S} {k : Nat} {s : S} (hs : ss[k]? = some s) : fieldKids fs (ss.take (k + 1)) = fieldKids fs (ss.take k) ++ (kidOf s).toList := by
  obtain ⟨hk, rfl⟩ := List.getElem?_eq_some_iff.1 hs
  unfold fieldKids
  rw [List.take_succ_eq_append_getElem hk, List.filterMap_append, List.append_assoc]
  cases h : kidOf ss[k] <;> simp [h]
theorem kids_le (fs : List ByteArray) (ss : List S) (k : Nat) : (fieldKids fs (ss.take k)).length ≤ fs.length + ss.length := by
  unfold fieldKids
  have h1 := List.length_filterMap_le kidOf (ss.take k)
  rw [List.length_take] at h1
  rw [List.length_append, List.length_map]; omega

theorem text_val (s : ByteArray) (w : World) : Calls Tryz.prog 23 #[.string s] w fun e w' => e = .returned (.agg #[.int .i64 1, .string s, .float .f64 0, .bool false, .slice none 0 0, .slice none 0 0]) ∧ Below w.heap.size w w' := by
  go_enter Tryz.func23, Tryz.ntmps23
  go_wp2_with fail
  go_returns
  exact ⟨rfl, by go_grown⟩
theorem number_val (x : Nat) (w : World) : Calls Tryz.prog 67 #[.float .f64 x] w fun e w' => e = .returned (.agg #[.int .i64 2, .string ⟨#[]⟩, .float .f64 x, .bool false, .slice none 0 0, .slice none 0 0]) ∧ Below w.heap.size w w' := by
  go_enter Tryz.func67, Tryz.ntmps67
  go_wp2_with fail
  go_returns
  exact ⟨rfl, by go_grown⟩
/-- A field and its boost, just laid. -/
theorem two_kids {w : World} {ok : Nat → Prop} {g : Nat} {s : ByteArray} {x : Nat} (hb : w.heap[g]? = some (.cells #[.int .i64 1, .string s, .float .f64 0, .bool false, .slice none 0 0, .slice none 0 0, .int .i64 2, .string ⟨#[]⟩, .float .f64 x, .bool false, .slice none 0 0, .slice none 0 0] 26 (0, 0))) (hg : ok g) :
    KidsSl w ok (.slice (some ⟨g, 0, none⟩) 2 2) [tText s, tNum x] := by
  refine ⟨_, 2, rfl, ?_⟩
  refine TreeAt.shut (t := .mk 4 ⟨#[]⟩ 0 false [] [tText s, tNum x]) (fun i j => (#[.int .i64 1, .string s, .float .f64 0, .bool false, .slice none 0 0, .slice none 0 0, .int .i64 2, .string ⟨#[]⟩, .float .f64 x, .bool false, .slice none 0 0, .slice none 0 0] : Array Value)[i * 6 + j]?.getD .nilIface) (Nat.le_refl _) (Nat.le_refl _) (fun i k h => by simp [T.keys] at h) (fun i hi => ⟨g, 0, rfl, hg, fun j hj => ?_⟩) (fun i u hu => ?_)
  · have hi2 : i < 2 := hi
    rw [cell_of_row w g _ _ _ _ hb, Nat.zero_add]
    have : i * 6 + j < 12 := by omega
    rw [Array.getElem?_eq_getElem (by simpa using this)]
    rfl
  · match i, hu with
    | 0, hu => cases hu; exact TreeAt.leaf _ _ _ _ _ _ _ _ _ _
    | 1, hu => cases hu; exact TreeAt.leaf _ _ _ _ _ _ _ _ _ _
    | i + 2, hu => simp [T.kids] at hu
theorem list_empty (w : World) : Calls Tryz.prog 64 #[.slice none 0 0] w fun e w' => e = .returned (.agg #[.int .i64 4, .string ⟨#[]⟩, .float .f64 0, .bool false, .slice none 0 0, .slice none 0 0]) ∧ Below w.heap.size w w' := by
  go_enter Tryz.func64, Tryz.ntmps64
  go_wp2_with fail
  go_returns
  exact ⟨rfl, by go_grown⟩

/-- A list under way: its block at B, its row of kids, all new. -/
def ListAt (w : World) (N B : Nat) (vK : Value) (kids : List Value) (ts : List T) : Prop := KidBlk w B 4 (.slice none 0 0) vK ∧ KidsAt w (B + 1) vK kids ts ∧ N ≤ B ∧ B + 1 ≤ w.heap.size
theorem ListAt.facts {w : World} {N B : Nat} {vK : Value} {kids : List Value} {ts : List T} (h : ListAt w N B vK kids ts) : w.cell? ⟨B, 5, none⟩ = some vK ∧ (∀ j, w.frozen? ⟨B, j, none⟩ = false) := by
  have hb := h.1
  exact ⟨by rw [cell_of_row w _ 5 _ _ _ hb]; rfl, fun j => frozen_of_row w _ j _ _ hb⟩
theorem ListAt.far {w w2 w3 : World} {N B : Nat} {vK : Value} {kids : List Value} {ts : List T} (h : ListAt w N B vK kids ts) (hb : Below w.heap.size w w2) (hg : w2.grownBy w3 vK.ownBlock) : w3.cell? ⟨B, 5, none⟩ = some vK ∧ w3.frozen? ⟨B, 5, none⟩ = false := by
  obtain ⟨h1, h2, -, h4⟩ := h
  have hf := h2.far hb hg (b := B) (by omega) (by omega)
  exact ⟨(World.cell?_of_block (a := ⟨B, 5, none⟩) hf).trans (by rw [cell_of_row w _ 5 _ _ _ h1]; rfl), (World.frozen?_of_block (a := ⟨B, 5, none⟩) hf).trans (frozen_of_row w _ 5 _ _ h1)⟩
theorem ListAt.push {w w2 w3 : World} {N B : Nat} {vK v : Value} {kids : List Value} {ts : List T} {t : T} {g cap n : Nat} (h : ListAt w N B vK kids ts) (hn : n = ts.length) (hb : Below w.heap.size w w2) (ht : TreeAt w2 (newB w.heap.size) v t)
    (hown : w3.ownsRow (B + 1) 26 6 (.slice (some ⟨g, 0, none⟩) (n + 1) cap) (n + 1) (cellsOf kids ++ v.cells.toList)) (hg : w2.grownBy w3 vK.ownBlock) (hat : vK.ownBlock = some g ∨ g = w2.heap.size) :
    ListAt (w3.setCell ⟨B, 5, none⟩ (.slice (some ⟨g, 0, none⟩) (n + 1) cap)) N B (.slice (some ⟨g, 0, none⟩) (n + 1) cap) (kids ++ [v]) (ts ++ [t]) ∧ Below N w (w3.setCell ⟨B, 5, none⟩ (.slice (some ⟨g, 0, none⟩) (n + 1) cap)) := by
  obtain ⟨h1, h2, h3, h4⟩ := h
  obtain ⟨r1, r2, r3⟩ := KidsAt.round (n := N) h2 hn h4 hb ht hown hg hat h1 (by omega) h3
  exact ⟨⟨r1, r2, h3, Nat.le_trans h4 r3.size⟩, r3⟩

set_option maxHeartbeats 4000000 in
set_option maxRecDepth 100000 in
theorem fieldsOf_any (ok : Nat → Prop) (fs : List ByteArray) (ss : List S) (vf vs : Value) (W : World) (hf : StrsAt W ok vf fs) (hv : SetsAt W ok vs ss) (hl : fs.length ≤ 4194304) (hl' : ss.length ≤ 4194304) :
    Calls Tryz.prog 74 #[vf, vs] W (RetSets (newB W.heap.size) W (fieldsS (fieldKids fs ss))) := by
  obtain ⟨fa, fcap, rfl, hfcap, hfc⟩ := hf
  have HV := hide hv
  obtain ⟨a, cap, c, rfl, hcap, hc, ht⟩ := hv
  have HFC := hide hfc
  have HC := hide hc
  have HT := hide ht
  clear hfc hc ht
  go_enter Tryz.func74, Tryz.ntmps74
  go_wp2_with fail
  refine (list_empty _).mono ?_
  rintro e w1 ⟨rfl, hb0⟩
  have hs1 : W.heap.size ≤ w1.heap.size := by have := hb0.size; simpa using this
  have HB0 : Hid (Below W.heap.size W w1) := hide (Below.trans (by go_grown) (hb0.mono (by simp)))
  clear hb0
  go_wp2_with fail
  obtain ⟨B, hB⟩ : ∃ B, B = w1.heap.size := ⟨_, rfl⟩
  rw [← hB] at hs1
  have HL0 : Hid (ListAt (w1.alloc (.cells #[.int .i64 4, .string ⟨#[]⟩, .float .f64 0, .bool false, .slice none 0 0, .slice none 0 0] 26 (0, 0))) W.heap.size B (.slice none 0 0) [] [] ∧ Below W.heap.size W (w1.alloc (.cells #[.int .i64 4, .string ⟨#[]⟩, .float .f64 0, .bool false, .slice none 0 0, .slice none 0 0] 26 (0, 0)))) := hide (by
    subst hB
    exact ⟨⟨heap_alloc_new _ _, KidsAt.nil _ _, hs1, by simp⟩, HB0.out.alloc HB0.out.size _⟩)
  rw [← hB]
  generalize w1.alloc (.cells #[.int .i64 4, .string ⟨#[]⟩, .float .f64 0, .bool false, .slice none 0 0, .slice none 0 0] 26 (0, 0)) = w2 at *
  clear hB HB0
  go_loopw [6] (fun i wr => ∃ (k : Nat) (vK : Value) (kids : List Value), k ≤ fs.length ∧ i = .int .i64 k ∧ Below W.heap.size W wr ∧ ListAt wr W.heap.size B vK kids ((fs.take k).map tText)) (fun i _ => fs.length - (intOf i).toNat)
  case atStart => exact ⟨0, _, [], Nat.zero_le _, rfl, HL0.out.2, HL0.out.1⟩
  case round =>
    obtain ⟨k, vK, kids, hk, rfl, hbw, hla⟩ := hrel
    have HBW := hide hbw
    have HLA := hide hla
    obtain ⟨c5, f5⟩ := hla.facts
    have hsz := hla.2.2.2
    have hnb := hla.2.2.1
    have hlen : ((fs.take k).map tText).length = k := by simp; omega
    have HLEN := hide hlen
    clear hbw hla hlen
    by_cases hlt : k < fs.length
    · obtain ⟨b, o, rfl, hb, hcell⟩ := HFC.out k fs[k] (by simp)
      have hbl : b < W.heap.size := World.block_lt_of_cell? W _ hcell
      have e0 : wr.cell? ⟨b, o + k, none⟩ = some (.string fs[k]) := (HBW.out.cell (p := ⟨b, o + k, none⟩) hbl).trans hcell
      have i1 : (0 : Int) ≤ (k : Int) := by omega
      have i3 : (k : Int) < (fs.length : Int) := by omega
      have hws := HBW.out.size
      clear hcell
      go_wp2_with fail
      go_region_law (first
        | ((refine step_append_one _ (by rfl) (.tmp 16) (.tmp 22) 24 (by rfl) (B + 1) 26 _ 6 88 Tryz.underlying24 Tryz.info26 rfl (by decide) vK _ (cellsOf kids) (by rfl) ((HLA.out.2.1.below HB3.out).below (by go_grown)).1 w3.heap.size 1 _ 26 (by rfl) (by first | exact heap_alloc_new _ _ | exact (heap_alloc_new w3 _)) rfl (by intro u hu; simp at hu; rcases hu with rfl | rfl | rfl | rfl | rfl | rfl <;> rfl) (by rw [HLEN.out]; omega) (by rw [HLEN.out]; omega) (by have := HB3.out.size; simp at *; omega) ?_; intro g cp w4 hown4 hgrow4 hat4; have HO4 := hide hown4; have HG4 := hide hgrow4; have HA4 := hide hat4; obtain ⟨c54, f54⟩ := HLA.out.far (HB3.out.alloc HB3.out.size _) hgrow4; clear hown4 hgrow4 hat4))
        | (go_simp; go_at_call 23; refine (text_any (newB wr.heap.size) _ _).mono ?_; rintro e w3 ⟨v3, rfl, ht3, hb3⟩; obtain ⟨a1, cap1, a2, cap2, cc, rfl, -⟩ := ht3.open; have HT3 := hide ht3; have HB3 : Hid (Below wr.heap.size wr w3) := hide (Below.trans (by go_grown) hb3); have c53 : w3.cell? ⟨B, 5, none⟩ = some vK := (HB3.out.cell (p := ⟨B, 5, none⟩) (show B < wr.heap.size by omega)).trans c5; have f53 : w3.frozen? ⟨B, 5, none⟩ = false := (HB3.out.frozen (p := ⟨B, 5, none⟩) (show B < wr.heap.size by omega)).trans (f5 5); have c5a : ∀ o, (w3.alloc o).cell? ⟨B, 5, none⟩ = some vK := fun o => (World.cell?_alloc_lt _ _ _ (World.block_lt_of_cell? _ _ c53)).trans c53; clear ht3 hb3))
      all_goals
        go_wp2_with fail
        go_round
        case rel =>
          obtain ⟨r1, r2⟩ := ListAt.push HLA.out HLEN.out.symm (HB3.out.alloc HB3.out.size _) (HT3.out.same (Same.of_below (by go_grown))) (by have := HO4.out; rw [HLEN.out] at this; exact this) HG4.out HA4.out
          have e9 : (fs.take (k + 1)).map tText = (fs.take k).map tText ++ [tText fs[k]] := by rw [List.take_succ_eq_append_getElem hlt, List.map_append]; rfl
          rw [← e9] at r1
          exact ⟨k + 1, _, _, by omega, by go_num, HBW.out.trans r2, r1⟩
        case measure => simp [intOf]; omega
    · have HLB : Hid (ListAt wr W.heap.size B vK kids (fieldKids fs (ss.take 0))) := hide (by
        have h := HLA.out
        rw [List.take_of_length_le (by omega)] at h
        unfold fieldKids
        rw [List.take_zero, List.filterMap_nil, List.append_nil]
        exact h)
      clear HLA HLEN c5 f5
      go_wp2_with fail
      go_loopw [7] (fun i wr => ∃ (k : Nat) (vK : Value) (kids : List Value), k ≤ ss.length ∧ i = .int .i64 k ∧ Below W.heap.size W wr ∧ ListAt wr W.heap.size B vK kids (fieldKids fs (ss.take k))) (fun i _ => ss.length - (intOf i).toNat)
      case atStart => exact ⟨0, _, _, Nat.zero_le _, rfl, HBW.out, HLB.out⟩
      case round =>
        clear HBW HLB HL0
        obtain ⟨k, vK, kids, hk, rfl, hbw, hla⟩ := hrel
        have HBW := hide hbw
        have HLA := hide hla
        obtain ⟨c5, f5⟩ := hla.facts
        have hsz := hla.2.2.2
        have hnb := hla.2.2.1
        obtain ⟨n, hn⟩ : ∃ n, n = (fieldKids fs (ss.take k)).length := ⟨_, rfl⟩
        have hn8 : n ≤ 8388608 := by have := kids_le fs ss k; omega
        have HLEN : Hid ((fieldKids fs (ss.take k)).length = n) := hide hn.symm
        clear hbw hla hn
        by_cases hlt : k < ss.length
        · obtain ⟨s, hs⟩ : ∃ s, ss[k]? = some s := ⟨_, List.getElem?_eq_getElem hlt⟩
          obtain ⟨b, o, rfl, hb, hcell⟩ := HC.out k hlt
          obtain ⟨h0, htr⟩ := HT.out k s hs
          have e0 := hcell 0 (by omega)
          have e2 := hcell 2 (by omega)
          have e3 := hcell 3 (by omega)
          obtain ⟨ka, kc, ta, tc, cc, hv6, -⟩ := htr.open
          simp only [Value.agg.injEq, Array.mk.injEq, List.cons.injEq, and_true] at hv6
          obtain ⟨v1, v2, v3, v4, v5, v6⟩ := hv6
          rw [h0] at e0
          rw [v2] at e2; rw [v3] at e3
          simp only [Nat.add_zero] at e0
          have hbl : b < W.heap.size := World.block_lt_of_cell? W _ e0
          replace e0 := (HBW.out.cell (p := ⟨b, o + k * 7, none⟩) hbl).trans e0
          replace e2 := (HBW.out.cell (p := ⟨b, o + k * 7 + 2, none⟩) hbl).trans e2
          replace e3 := (HBW.out.cell (p := ⟨b, o + k * 7 + 3, none⟩) hbl).trans e3
          have i1 : (0 : Int) ≤ (k : Int) := by omega
          have i3 : (k : Int) < (ss.length : Int) := by omega
          have hws := HBW.out.size
          have HKT := hide (kids_take (fs := fs) hs)
          have HKO : Hid (kidOf s = if s.name.toList = nField then some (tText s.value.text) else if s.name.toList = nBoost then some (tBoost s.value.text s.value.num) else none) := hide (by rw [ByteArray.toList_eq]; rfl)
          clear hcell htr v1 v2 v3 v4 v5 v6 hs h0
          cases hf : (s.name.toList == [102, 105, 101, 108, 100])
          · cases hg : (s.name.toList == [102, 105, 101, 108, 100, 95, 119, 105, 116, 104, 95, 98, 111, 111, 115, 116])
            · have HK0 : Hid (fieldKids fs (ss.take (k + 1)) = fieldKids fs (ss.take k)) := hide (by
                rw [HKT.out, HKO.out, if_neg (fun e => by rw [e] at hf; exact absurd hf (by decide)), if_neg (fun e => by rw [e] at hg; exact absurd hg (by decide))]
                simp)
              go_wp2_with fail
              go_round
              case rel => exact ⟨k + 1, _, _, by omega, by go_num, HBW.out, by rw [HK0.out]; exact HLA.out⟩
              case measure => simp [intOf]; omega
            · have HK1 : Hid (fieldKids fs (ss.take (k + 1)) = fieldKids fs (ss.take k) ++ [tBoost s.value.text s.value.num]) := hide (by
                rw [HKT.out, HKO.out, if_neg (fun e => by rw [e] at hf; exact absurd hf (by decide)), if_pos (show s.name.toList = nBoost from eq_of_beq hg)]
                rfl)
              have hbwr : b < wr.heap.size := by omega
              go_wp2_with fail
              go_region_law (first
                | ((refine step_append_one _ (by rfl) (.tmp 53) (.tmp 70) 24 (by rfl) (B + 1) 26 _ 6 88 Tryz.underlying24 Tryz.info26 rfl (by decide) vK _ (cellsOf kids) (by rfl) ((HLA.out.2.1.below HBw6.out).below (by go_grown)).1 w6.heap.size 1 _ 26 (by rfl) (by first | exact heap_alloc_new _ _ | exact (heap_alloc_new w6 _)) rfl (by intro u hu; simp at hu; rcases hu with rfl | rfl | rfl | rfl | rfl | rfl <;> rfl) (by rw [HLEN.out]; omega) (by rw [HLEN.out]; omega) (by have := HBw6.out.size; simp at *; omega) ?_; intro g cp w4 hown4 hgrow4 hat4; have HO4 := hide hown4; have HG4 := hide hgrow4; have HA4 := hide hat4; obtain ⟨c54, f54⟩ := HLA.out.far (HBw6.out.alloc HBw6.out.size _) hgrow4; clear hown4 hgrow4 hat4))
                | (go_simp; go_at_call 23; refine (text_val _ _).mono ?_; rintro e w3 ⟨rfl, hb9⟩; have HBw3 : Hid (Below wr.heap.size wr w3) := hide (by first | exact Below.trans (by go_grown) (hb9.mono (by first | exact Nat.le_refl _ | (simp; done) | (simp; omega))) | exact HBw5.out.trans (Below.trans (by go_grown) (hb9.mono (by first | exact HBw5.out.size | (have := HBw5.out.size; simp; omega))))); clear hb9; have c5w3 : w3.cell? ⟨B, 5, none⟩ = some vK := (HBw3.out.cell (p := ⟨B, 5, none⟩) (show B < wr.heap.size by omega)).trans c5; have f5w3 : w3.frozen? ⟨B, 5, none⟩ = false := (HBw3.out.frozen (p := ⟨B, 5, none⟩) (show B < wr.heap.size by omega)).trans (f5 5); have e2w3 : w3.cell? ⟨b, o + k * 7 + 2, none⟩ = some (.string s.value.text) := (HBw3.out.cell (p := ⟨b, o + k * 7 + 2, none⟩) (show b < wr.heap.size by omega)).trans e2; have e3w3 : w3.cell? ⟨b, o + k * 7 + 3, none⟩ = some (.float .f64 s.value.num) := (HBw3.out.cell (p := ⟨b, o + k * 7 + 3, none⟩) (show b < wr.heap.size by omega)).trans e3; have c5aw3 : ∀ o, (w3.alloc o).cell? ⟨B, 5, none⟩ = some vK := fun o => (World.cell?_alloc_lt _ _ _ (World.block_lt_of_cell? _ _ c5w3)).trans c5w3)
                | (go_simp; go_at_call 67; refine (number_val _ _).mono ?_; rintro e w5 ⟨rfl, hb9⟩; have HBw5 : Hid (Below wr.heap.size wr w5) := hide (by first | exact Below.trans (by go_grown) (hb9.mono (by first | exact Nat.le_refl _ | (simp; done) | (simp; omega))) | exact HBw3.out.trans (Below.trans (by go_grown) (hb9.mono (by first | exact HBw3.out.size | (have := HBw3.out.size; simp; omega))))); clear hb9; have c5w5 : w5.cell? ⟨B, 5, none⟩ = some vK := (HBw5.out.cell (p := ⟨B, 5, none⟩) (show B < wr.heap.size by omega)).trans c5; have f5w5 : w5.frozen? ⟨B, 5, none⟩ = false := (HBw5.out.frozen (p := ⟨B, 5, none⟩) (show B < wr.heap.size by omega)).trans (f5 5); have e2w5 : w5.cell? ⟨b, o + k * 7 + 2, none⟩ = some (.string s.value.text) := (HBw5.out.cell (p := ⟨b, o + k * 7 + 2, none⟩) (show b < wr.heap.size by omega)).trans e2; have e3w5 : w5.cell? ⟨b, o + k * 7 + 3, none⟩ = some (.float .f64 s.value.num) := (HBw5.out.cell (p := ⟨b, o + k * 7 + 3, none⟩) (show b < wr.heap.size by omega)).trans e3; have c5aw5 : ∀ o, (w5.alloc o).cell? ⟨B, 5, none⟩ = some vK := fun o => (World.cell?_alloc_lt _ _ _ (World.block_lt_of_cell? _ _ c5w5)).trans c5w5)
                | (go_simp; go_at_call 64; first
                    | (refine (list_any (newB wr.heap.size) _ [tText s.value.text, tNum s.value.num] _ (two_kids (g := w5.heap.size) (heap_alloc_new w5 _) HBw5.out.size)).mono ?_; rintro e w6 ⟨v6, rfl, ht6, hb9⟩; have HBw6 : Hid (Below wr.heap.size wr w6) := hide ((HBw5.out.alloc HBw5.out.size _).trans (hb9.mono (by have := HBw5.out.size; simp; omega))))
                    | (refine (list_any (newB wr.heap.size) _ [tText s.value.text, tNum s.value.num] _ (two_kids (g := w3.heap.size) (heap_alloc_new w3 _) HBw3.out.size)).mono ?_; rintro e w6 ⟨v6, rfl, ht6, hb9⟩; have HBw6 : Hid (Below wr.heap.size wr w6) := hide ((HBw3.out.alloc HBw3.out.size _).trans (hb9.mono (by have := HBw3.out.size; simp; omega))));
                   obtain ⟨t6, ht6e⟩ : ∃ z, z = T.mk 4 ⟨#[]⟩ 0 false [] [tText s.value.text, tNum s.value.num] := ⟨_, rfl⟩; rw [← ht6e] at ht6; have HT6E := hide ht6e; obtain ⟨a1, cap1, a2, cap2, cc, rfl, -⟩ := ht6.open; have HT6 := hide ht6; clear hb9 ht6 ht6e; have c5w6 : w6.cell? ⟨B, 5, none⟩ = some vK := (HBw6.out.cell (p := ⟨B, 5, none⟩) (show B < wr.heap.size by omega)).trans c5; have f5w6 : w6.frozen? ⟨B, 5, none⟩ = false := (HBw6.out.frozen (p := ⟨B, 5, none⟩) (show B < wr.heap.size by omega)).trans (f5 5); have e2w6 : w6.cell? ⟨b, o + k * 7 + 2, none⟩ = some (.string s.value.text) := (HBw6.out.cell (p := ⟨b, o + k * 7 + 2, none⟩) (show b < wr.heap.size by omega)).trans e2; have e3w6 : w6.cell? ⟨b, o + k * 7 + 3, none⟩ = some (.float .f64 s.value.num) := (HBw6.out.cell (p := ⟨b, o + k * 7 + 3, none⟩) (show b < wr.heap.size by omega)).trans e3; have c5aw6 : ∀ o, (w6.alloc o).cell? ⟨B, 5, none⟩ = some vK := fun o => (World.cell?_alloc_lt _ _ _ (World.block_lt_of_cell? _ _ c5w6)).trans c5w6))
              all_goals
                go_wp2_with fail
                go_round
                case rel =>
                  obtain ⟨r1, r2⟩ := ListAt.push HLA.out rfl (HBw6.out.alloc HBw6.out.size _) (HT6.out.same (Same.of_below (by go_grown))) HO4.out HG4.out HA4.out
                  rw [HT6E.out, show T.mk 4 ⟨#[]⟩ 0 false [] [tText s.value.text, tNum s.value.num] = tBoost s.value.text s.value.num from rfl, ← HK1.out] at r1
                  exact ⟨k + 1, _, _, by omega, by go_num, HBW.out.trans r2, r1⟩
                case measure => simp [intOf]; omega
          · have HK1 : Hid (fieldKids fs (ss.take (k + 1)) = fieldKids fs (ss.take k) ++ [tText s.value.text]) := hide (by
              rw [HKT.out, HKO.out, if_pos (show s.name.toList = nField from eq_of_beq hf)]
              rfl)
            go_wp2_with fail
            go_region_law (first
              | ((refine step_append_one _ (by rfl) (.tmp 39) (.tmp 47) 24 (by rfl) (B + 1) 26 _ 6 88 Tryz.underlying24 Tryz.info26 rfl (by decide) vK _ (cellsOf kids) (by rfl) ((HLA.out.2.1.below HB3.out).below (by go_grown)).1 w3.heap.size 1 _ 26 (by rfl) (by first | exact heap_alloc_new _ _ | exact (heap_alloc_new w3 _)) rfl (by intro u hu; simp at hu; rcases hu with rfl | rfl | rfl | rfl | rfl | rfl <;> rfl) (by rw [HLEN.out]; omega) (by rw [HLEN.out]; omega) (by have := HB3.out.size; simp at *; omega) ?_; intro g cp w4 hown4 hgrow4 hat4; have HO4 := hide hown4; have HG4 := hide hgrow4; have HA4 := hide hat4; obtain ⟨c54, f54⟩ := HLA.out.far (HB3.out.alloc HB3.out.size _) hgrow4; clear hown4 hgrow4 hat4))
              | (go_simp; go_at_call 23; refine (text_any (newB wr.heap.size) _ _).mono ?_; rintro e w3 ⟨v3, rfl, ht3, hb3⟩; obtain ⟨a1, cap1, a2, cap2, cc, rfl, -⟩ := ht3.open; have HT3 := hide ht3; have HB3 : Hid (Below wr.heap.size wr w3) := hide (Below.trans (by go_grown) hb3); have c53 : w3.cell? ⟨B, 5, none⟩ = some vK := (HB3.out.cell (p := ⟨B, 5, none⟩) (show B < wr.heap.size by omega)).trans c5; have f53 : w3.frozen? ⟨B, 5, none⟩ = false := (HB3.out.frozen (p := ⟨B, 5, none⟩) (show B < wr.heap.size by omega)).trans (f5 5); have c5a : ∀ o, (w3.alloc o).cell? ⟨B, 5, none⟩ = some vK := fun o => (World.cell?_alloc_lt _ _ _ (World.block_lt_of_cell? _ _ c53)).trans c53; clear ht3 hb3))
            all_goals
              go_wp2_with fail
              go_round
              case rel =>
                obtain ⟨r1, r2⟩ := ListAt.push HLA.out rfl (HB3.out.alloc HB3.out.size _) (HT3.out.same (Same.of_below (by go_grown))) HO4.out HG4.out HA4.out
                rw [← HK1.out] at r1
                exact ⟨k + 1, _, _, by omega, by go_num, HBW.out.trans r2, r1⟩
              case measure => simp [intOf]; omega
        · have HLC : Hid (ListAt wr W.heap.size B vK kids (fieldKids fs ss)) := hide (by
            have h := HLA.out
            rw [List.take_of_length_le (by omega)] at h
            exact h)
          have hke : (fieldKids fs ss).length = n := by
            have h := HLEN.out
            rw [List.take_of_length_le (by omega)] at h
            exact h
          obtain ⟨ao, cp, hvk, -⟩ := World.ownsRow.form HLC.out.2.1.1
          rw [hke] at hvk
          subst hvk
          have HKE := hide hke
          have hblk := HLC.out.1
          have d0 : wr.cell? ⟨B, 0, none⟩ = some (.int .i64 4) := by rw [cell_of_row wr _ 0 _ _ _ hblk]; rfl
          have d1 : wr.cell? ⟨B, 1, none⟩ = some (.string ⟨#[]⟩) := by rw [cell_of_row wr _ 1 _ _ _ hblk]; rfl
          have d2 : wr.cell? ⟨B, 2, none⟩ = some (.float .f64 0) := by rw [cell_of_row wr _ 2 _ _ _ hblk]; rfl
          have d3 : wr.cell? ⟨B, 3, none⟩ = some (.bool false) := by rw [cell_of_row wr _ 3 _ _ _ hblk]; rfl
          have d4 : wr.cell? ⟨B, 4, none⟩ = some (.slice none 0 0) := by rw [cell_of_row wr _ 4 _ _ _ hblk]; rfl
          have hws := HBW.out.size
          clear hke hblk HLA HLEN
          rcases Nat.eq_zero_or_pos n with h0 | h0
          · subst h0
            go_wp2_with fail
            go_returns
            have hn : fieldKids fs ss = [] := List.eq_nil_of_length_eq_zero HKE.out
            refine ⟨_, rfl, ?_, HBW.out⟩
            unfold fieldsS
            rw [if_pos hn]
            exact ⟨none, 0, fun _ _ => .nilIface, rfl, Nat.le_refl _, fun i hi => by simp at hi, fun i s h => by simp at h⟩
          · have hne : ((n : Int) == 0) = false := by simp; omega
            go_wp2_with fail
            go_returns
            refine ⟨_, rfl, ?_, HBW.out.alloc hws _⟩
            unfold fieldsS
            rw [if_neg (fun e => by rw [e] at HKE; have := HKE.out; simp at this; omega)]
            have ht : TreeAt wr (newB W.heap.size) (.agg #[.int .i64 4, .string ⟨#[]⟩, .float .f64 0, .bool false, .slice none 0 0, .slice ao n cp]) (fieldsT (fieldKids fs ss)) := by
              have := tree_of_own (t := fieldsT (fieldKids fs ss)) (ok := newB W.heap.size) (base := B + 1) (ownsRow_nil wr (B + 1)) HLC.out.2.1.1 (HLC.out.2.1.2.weaken (fun k hk _ => by unfold newB; omega)) (fun k hk => by cases hk) (fun k hk => by have := (own_lt HLC.out.2.1.1 hk).1; unfold newB; omega)
              exact this
            exact sets_one (g := wr.heap.size) (heap_alloc_new wr _) (by unfold newB; omega) (ht.same (Same.of_below (by go_grown)))
end Go.Proofs.YtbcnhcpgloncdaaGreatDoor
