/-
  CONTRACTS OF spec: Fields, FieldNames, Back.
-/
import Derived.Test.YtbcnhcpgloncdaaGreatDoorSpc
import Derived.Lib.QuietBelow
namespace Go.Proofs.YtbcnhcpgloncdaaGreatDoor
open Go.RowKit Go.Sort

/-! ### Fields -/
theorem StrsAt.take {w : World} {ok : Nat → Prop} {a : Option Addr} {cap cap' : Nat} {ks : List ByteArray} (h : StrsAt w ok (.slice a ks.length cap) ks) (k : Nat) (hk : k ≤ ks.length) (hk' : k ≤ cap') : StrsAt w ok (.slice a k cap') (ks.take k) := by
  obtain ⟨a', cap2, hv, hle, hc⟩ := h
  cases hv
  refine ⟨a, cap', by rw [List.length_take, Nat.min_eq_left hk], by rw [List.length_take]; omega, fun i s hi => ?_⟩
  rw [List.getElem?_take] at hi
  split at hi
  · exact hc i s hi
  · cases hi

def fieldsAt (ks : List ByteArray) (i : Nat) : Bool := fieldB (ks[i]?.getD default) && !hasB (ks.take i) (ks[i]?.getD default)
def fieldsB (ks : List ByteArray) : Bool := (List.range ks.length).all (fieldsAt ks)

set_option maxHeartbeats 400000 in
theorem fields_any (ok : Nat → Prop) (ks : List ByteArray) (v : Value) (w : World) (hv : StrsAt w ok v ks) (hl : ks.length ≤ 1073741824) (hsz : ∀ k ∈ ks, k.size ≤ maxLen) :
    Calls Tryz.prog 14 #[v] w (RetBool w (fieldsB ks)) := by
  have HV := hide hv
  obtain ⟨a, cap, rfl, hcap, hc⟩ := hv
  go_enter Tryz.func14, Tryz.ntmps14
  go_wp2
  have HSZ := hide hsz
  clear hsz
  go_loopw [3] (fun i wr => ∃ k : Nat, k ≤ ks.length ∧ i = .int .i64 k ∧ Below w.heap.size w wr ∧ (∀ j, j < k → fieldsAt ks j = true)) (fun i _ => ks.length - (intOf i).toNat)
  case atStart => exact ⟨0, Nat.zero_le _, rfl, Below.refl _ _, fun j hj => absurd hj (by omega)⟩
  case round =>
    obtain ⟨k, hk, rfl, hbw, hno⟩ := hrel
    have HNO := hide hno
    clear hno
    have HVr := hide (HV.out.same (Same.of_below hbw))
    by_cases hlt : k < ks.length
    · obtain ⟨b, o, rfl, hb, e0⟩ := hc k ks[k] (by simp)
      have i1 : (0 : Int) ≤ (k : Int) := by omega
      have i2 : (k : Int) ≤ (cap : Int) := by omega
      have i3 : (k : Int) < (ks.length : Int) := by omega
      have hbl : b < w.heap.size := World.block_lt_of_cell? w _ e0
      have e0' : wr.cell? ⟨b, o + k, none⟩ = some (.string ks[k]) := (hbw.cell hbl).trans e0
      have hwr : b < wr.heap.size := by have := hbw.size; omega
      have HS := hide (StrsAt.take (cap' := cap) HVr.out k hk (by omega))
      have HK : Hid (fieldsAt ks k = (fieldB ks[k] && !hasB (ks.take k) ks[k])) := hide (by unfold fieldsAt; rw [List.getElem?_eq_getElem hlt]; rfl)
      have HZ := hide (HSZ.out ks[k] (List.getElem_mem hlt))
      clear hc e0
      have k0 := cell_regrown e0'
      have cF : ∀ d os, Calls Tryz.prog 30 #[.string ks[k]] (grow (redrawn wr d) os) fun e w'' => e = .returned (.bool (fieldB ks[k])) ∧ ∃ p : Regrown, w'' = grow (redrawn wr p.d) p.os := fun d os => Calls.regrown_of (field_any _ _ HZ.out)
      have cH : ∀ d os, Calls Tryz.prog 31 #[.slice (some ⟨b, o, none⟩) k cap, .string ks[k]] (grow (redrawn wr d) os) fun e w'' => e = .returned (.bool (hasB (ks.take k) ks[k])) ∧ ∃ p : Regrown, w'' = grow (redrawn wr p.d) p.os := fun d os => (has_any ok (ks.take k) _ _ _ (HS.out.same (Same.of_below (below_regrown wr d os))) (by rw [List.length_take]; omega)).mono fun e w' ⟨h1, h2⟩ => ⟨h1, ⟨d, os⟩, h2⟩
      cases hf : fieldB ks[k]
      all_goals
        rw [hf] at cF
        go_wp2_with fail
        refine wp_region_quiet_below (by kernel_rfl) (by kernel_rfl) ?_
        repeat (first | go_big_quiet_step (first | exact cF _ _ | exact cH _ _) | quiet_step (first | exact cF _ _ | exact cH _ _))
        refine wpQuiet_nil ?_
        intro _ hw'
        obtain ⟨⟨dq, osq⟩, hw''⟩ := hw'
        subst hw''
        have hbq := hide (hbw.trans ((below_regrown wr dq osq).mono hbw.size))
        clear k0 cF cH
        generalize grow (redrawn wr dq) osq = wq at *
      · go_wp2
        go_returns
        refine ⟨ret_bool ?_, hbq.out⟩
        symm
        unfold fieldsB
        rw [List.all_eq_false]
        exact ⟨k, List.mem_range.2 hlt, by rw [HK.out, hf]; simp⟩
      · cases hh : hasB (ks.take k) ks[k]
        · go_wp2
          go_round
          case rel =>
            refine ⟨k + 1, by omega, by go_num, hbq.out, fun j hj => ?_⟩
            rcases Nat.lt_succ_iff_lt_or_eq.1 hj with h | rfl
            · exact HNO.out j h
            · rw [HK.out, hf, hh]; rfl
          case measure => simp [intOf]; omega
        · go_wp2
          go_returns
          refine ⟨ret_bool ?_, hbq.out⟩
          symm
          unfold fieldsB
          rw [List.all_eq_false]
          exact ⟨k, List.mem_range.2 hlt, by rw [HK.out, hf, hh]; simp⟩
    · clear hc
      go_wp2
      go_returns
      refine ⟨ret_bool ?_, hbw⟩
      symm
      unfold fieldsB
      rw [List.all_eq_true]
      intro j hj
      exact HNO.out j (by have := List.mem_range.1 hj; omega)

/-! ### FieldNames -/
abbrev kField : ByteArray := ⟨#[102, 105, 101, 108, 100]⟩
abbrev kFieldBoost : ByteArray := ⟨#[102, 105, 101, 108, 100, 95, 119, 105, 116, 104, 95, 98, 111, 111, 115, 116]⟩
def nameOf (s : S) : Option ByteArray := if eqB s.name kField = true ∨ eqB s.name kFieldBoost = true then some s.value.text else none
def fieldNames (fs : List ByteArray) (ss : List S) : List ByteArray := fs ++ ss.filterMap nameOf

theorem fieldNames_take {fs : List ByteArray} {ss : List S} {k : Nat} (hk : k < ss.length) : fieldNames fs (ss.take (k + 1)) = fieldNames fs (ss.take k) ++ (nameOf ss[k]).toList := by
  unfold fieldNames
  rw [List.take_succ_eq_append_getElem hk, List.filterMap_append, List.append_assoc]
  cases h : nameOf ss[k] <;> simp [h]
theorem fieldNames_length (fs : List ByteArray) (ss : List S) : (fieldNames fs ss).length ≤ fs.length + ss.length := by
  unfold fieldNames
  have := List.length_filterMap_le nameOf ss
  rw [List.length_append]; omega

set_option maxHeartbeats 800000 in
theorem fieldNames_any (ok : Nat → Prop) (fs : List ByteArray) (ss : List S) (vf vs : Value) (w : World) (hok : ∀ k, w.heap.size ≤ k → ok k) (hf : StrsAt w ok vf fs) (hv : SetsAt w ok vs ss)
    (hl : fs.length ≤ 1073741824) (hl' : ss.length ≤ 1073741824) :
    Calls Tryz.prog 15 #[vf, vs] w (RetStrs ok w (fieldNames fs ss)) := by
  obtain ⟨fa, fcap, rfl, hfcap, hfc⟩ := hf
  obtain ⟨a, cap, c, rfl, hcap, hc, ht⟩ := hv
  go_enter Tryz.func15, Tryz.ntmps15
  go_wp2_with (at_builtin; refine wpList_append_any _ rfl (.tmp 7) (.tmp 8) 23 rfl w.heap.size 9 (.string ⟨#[]⟩) 1 16 Tryz.underlying23 Tryz.info9 rfl (by decide) _ 0 [] rfl (World.ownsRow_lit w #[] 0 (Nat.le_refl _) (by unfold maxLen; omega) rfl) fa fs.length fcap (fs.map Value.string) rfl (by simp) ?c1 ?c2 ?c3 ?c4 ?c5 ?_)
  case c1 =>
    intro j u hu
    rw [List.getElem?_map] at hu
    obtain ⟨k, hk, rfl⟩ := Option.map_eq_some_iff.1 hu
    obtain ⟨b, o, rfl, hb, hcell⟩ := hfc j k hk
    refine ⟨_, rfl, ?_⟩
    rw [Addr.add_lit]
    rw [World.cell?_alloc_past _ _ _ (World.block_lt_of_cell? w _ hcell)]
    exact hcell
  case c2 => intro u hu; obtain ⟨_, _, rfl⟩ := List.mem_map.1 hu; rfl
  case c3 => omega
  case c4 => omega
  case c5 => simp
  intro v0 w0 hown0 hgrow0
  have hb0 : Below w.heap.size w w0 := (Below.alloc (Below.refl _ _) (Nat.le_refl _) _).grown hgrow0 (by simp) (fun k hk => by simp [Value.ownBlock] at hk; omega)
  clear hgrow0 hfc
  go_wp2
  go_loopw [5, 6] (fun v i wr => ∃ k : Nat, k ≤ ss.length ∧ i = .int .i64 k ∧ Below w.heap.size w wr ∧ wr.ownsRow w.heap.size 9 1 v (fieldNames fs (ss.take k)).length ((fieldNames fs (ss.take k)).map Value.string)) (fun _ i _ => ss.length - (intOf i).toNat)
  case atStart => exact ⟨0, Nat.zero_le _, rfl, hb0, by simpa [fieldNames] using hown0⟩
  case round =>
    obtain ⟨k, hk, rfl, hbw, hown⟩ := hrel
    clear hown0 hb0
    by_cases hlt : k < ss.length
    · obtain ⟨b, o, rfl, hb, hcell⟩ := hc k hlt
      obtain ⟨h0, htr⟩ := ht k ss[k] (by simp)
      have e0 := hcell 0 (by omega)
      have e2 := hcell 2 (by omega)
      obtain ⟨ka, kc, ta, tc, cc, hv6, -⟩ := htr.open
      simp only [Value.agg.injEq, Array.mk.injEq, List.cons.injEq, and_true] at hv6
      obtain ⟨v1, v2, v3, v4, v5, v6⟩ := hv6
      have hbl : b < w.heap.size := World.block_lt_of_cell? w _ e0
      rw [h0] at e0
      rw [v2] at e2
      simp only [Nat.add_zero] at e0
      have f0 : wr.cell? ⟨b, o + k * 7, none⟩ = some (.string ss[k].name) := (hbw.cell hbl).trans e0
      have f2 : wr.cell? ⟨b, o + k * 7 + 2, none⟩ = some (.string ss[k].value.text) := (hbw.cell hbl).trans e2
      have hbr : b < wr.heap.size := by have := hbw.size; omega
      have HT := hide (fieldNames_take (fs := fs) hlt)
      have HL := hide (fieldNames_length fs (ss.take k))
      clear hc ht hcell h0 htr e0 e2 v1 v2 v3 v4 v5 v6
      have HO := hide hown
      clear hown
      have step : ∀ (v' : Value) (w1 : World), nameOf ss[k] = some ss[k].value.text → w1.ownsRow w.heap.size 9 1 v' ((fieldNames fs (ss.take k)).length + 1) ((fieldNames fs (ss.take k)).map Value.string ++ [Value.string ss[k].value.text]) →
          (wr.alloc (.cells #[.string ss[k].value.text] 9)).grownBy w1 u5.ownBlock →
          Below w.heap.size w w1 ∧ w1.ownsRow w.heap.size 9 1 v' (fieldNames fs (ss.take (k + 1))).length ((fieldNames fs (ss.take (k + 1))).map Value.string) := by
        intro v' w1 hn h1 h2
        refine ⟨(hbw.alloc hbw.size _).grown h2 (by have := hbw.size; simp; omega) (fun j hj => (HO.out.lt j hj).1), ?_⟩
        rw [HT.out, hn]
        simpa using h1
      have STEP := hide step
      clear step
      cases h1 : eqB ss[k].name kField
      · have g1 : (ss[k].name.toList == [102, 105, 101, 108, 100]) = false := (eqB_mk _ _).symm.trans h1
        cases h2 : eqB ss[k].name kFieldBoost
        · have g2 : (ss[k].name.toList == [102, 105, 101, 108, 100, 95, 119, 105, 116, 104, 95, 98, 111, 111, 115, 116]) = false := (eqB_mk _ _).symm.trans h2
          have HN : Hid (nameOf ss[k] = none) := hide (if_neg (by rw [h1, h2]; simp))
          clear h1 h2
          go_wp2_with fail
          go_round
          case rel =>
            refine ⟨k + 1, by omega, by go_num, hbw, ?_⟩
            rw [HT.out, HN.out]
            simpa using HO.out
          case measure => simp [intOf]; omega
        · have g2 : (ss[k].name.toList == [102, 105, 101, 108, 100, 95, 119, 105, 116, 104, 95, 98, 111, 111, 115, 116]) = true := (eqB_mk _ _).symm.trans h2
          have HN : Hid (nameOf ss[k] = some ss[k].value.text) := hide (if_pos (.inr h2))
          clear h1 h2
          go_wp2_with (at_builtin; refine wpList_append_blk _ rfl (.tmp 30) (.tmp 37) 23 rfl w.heap.size 9 (.string ⟨#[]⟩) 1 16 Tryz.underlying23 Tryz.info9 rfl (by decide) _ _ _ rfl (HO.out.alloc _) wr.heap.size 1 1 #[.string ss[k].value.text] 9 rfl (heap_alloc_new wr _) rfl (by intro u hu; simp at hu; subst hu; rfl) (by have := HL.out; rw [List.length_take] at this; omega) (by have := HL.out; rw [List.length_take] at this; omega) (by have := hbw.size; simp; omega) ?_)
          intro v' w1 hown' hgrow
          have R := hide (STEP.out _ _ HN.out hown' hgrow)
          clear hown' hgrow
          go_wp2
          go_round
          case rel => exact ⟨k + 1, by omega, by go_num, R.out.1, R.out.2⟩
          case measure => simp [intOf]; omega
      · have g1 : (ss[k].name.toList == [102, 105, 101, 108, 100]) = true := (eqB_mk _ _).symm.trans h1
        have HN : Hid (nameOf ss[k] = some ss[k].value.text) := hide (if_pos (.inl h1))
        clear h1
        go_wp2_with (at_builtin; refine wpList_append_blk _ rfl (.tmp 30) (.tmp 37) 23 rfl w.heap.size 9 (.string ⟨#[]⟩) 1 16 Tryz.underlying23 Tryz.info9 rfl (by decide) _ _ _ rfl (HO.out.alloc _) wr.heap.size 1 1 #[.string ss[k].value.text] 9 rfl (heap_alloc_new wr _) rfl (by intro u hu; simp at hu; subst hu; rfl) (by have := HL.out; rw [List.length_take] at this; omega) (by have := HL.out; rw [List.length_take] at this; omega) (by have := hbw.size; simp; omega) ?_)
        intro v' w1 hown' hgrow
        have R := hide (STEP.out _ _ HN.out hown' hgrow)
        clear hown' hgrow
        go_wp2
        go_round
        case rel => exact ⟨k + 1, by omega, by go_num, R.out.1, R.out.2⟩
        case measure => simp [intOf]; omega
    · obtain rfl : k = ss.length := by omega
      rw [List.take_length] at hown
      have HO := hide hown
      clear hown hc ht
      go_wp2
      go_returns
      exact ⟨_, rfl, strs_of_own HO.out (fun k hk => hok k (HO.out.lt k hk).1), hbw⟩

/-! ### Back -/
theorem Same.of_below_lt {ok : Nat → Prop} {w w' : World} {B : Nat} (h : Below B w w') : Same (fun k => ok k ∧ k < B) w w' := fun k hk _ => h.block k hk.2

set_option maxHeartbeats 800000 in
theorem back_any (ok : Nat → Prop) (ss : List S) (v : Value) (w : World) (hok : ∀ k, w.heap.size ≤ k → ok k) (hv : SetsAt w ok v ss) (hl : ss.length ≤ 1073741824) :
    Calls Tryz.prog 17 #[v] w (RetSets ok w ss.reverse) := by
  have hv' : SetsAt w (fun k => ok k ∧ k < w.heap.size) v ss := hv.weaken (fun k h1 h2 => ⟨h1, h2⟩)
  clear hv
  obtain ⟨a, cap, c, rfl, hcap, hc, ht⟩ := hv'
  go_enter Tryz.func17, Tryz.ntmps17
  go_wp2
  go_loopw [3, 4] (fun v i wr => ∃ (k : Nat) (vs : List Value), k ≤ ss.length ∧ i = .int .i64 ((k : Int) - 1) ∧ Below w.heap.size w wr ∧ wr.ownsRow w.heap.size 45 7 v (ss.drop k).reverse.length (cellsOf vs) ∧ SettersAt w (fun k => ok k ∧ k < w.heap.size) vs (ss.drop k).reverse) (fun _ i _ => (intOf i + 1).toNat)
  case atStart =>
    refine ⟨ss.length, [], Nat.le_refl _, rfl, by go_grown, ?_, ?_⟩
    · rw [List.drop_length]; exact World.ownsRow_lit w #[] 0 (Nat.le_refl _) (by unfold maxLen; omega) rfl
    · rw [List.drop_length]; exact SettersAt.nil _ _
  case round =>
    obtain ⟨k, vs, hk, rfl, hbw, hown, hsa⟩ := hrel
    have HO := hide hown
    have HA := hide hsa
    clear hown hsa
    by_cases hlt : 0 < k
    · obtain ⟨k, rfl⟩ : ∃ k', k = k' + 1 := ⟨k - 1, by omega⟩
      obtain ⟨b, o, rfl, hb, hcell⟩ := hc k (by omega)
      obtain ⟨h0, htr⟩ := ht k ss[k] (by simp)
      have e0 := hcell 0 (by omega)
      have e1 := hcell 1 (by omega)
      have e2 := hcell 2 (by omega)
      have e3 := hcell 3 (by omega)
      have e4 := hcell 4 (by omega)
      have e5 := hcell 5 (by omega)
      have e6 := hcell 6 (by omega)
      obtain ⟨ka, kc, ta, tc, cc, hv6, -⟩ := htr.open
      rw [hv6] at htr
      simp only [Value.agg.injEq, Array.mk.injEq, List.cons.injEq, and_true] at hv6
      obtain ⟨v1, v2, v3, v4, v5, v6⟩ := hv6
      rw [h0] at e0
      rw [v1] at e1; rw [v2] at e2; rw [v3] at e3; rw [v4] at e4; rw [v5] at e5; rw [v6] at e6
      have hbl : b < w.heap.size := hb.2
      simp only [Nat.add_zero] at e0
      replace e0 := (hbw.cell hbl).trans e0
      replace e1 := (hbw.cell hbl).trans e1
      replace e2 := (hbw.cell hbl).trans e2
      replace e3 := (hbw.cell hbl).trans e3
      replace e4 := (hbw.cell hbl).trans e4
      replace e5 := (hbw.cell hbl).trans e5
      replace e6 := (hbw.cell hbl).trans e6
      rw [show ((k + 1 : Nat) : Int) - 1 = k by omega]
      have HT := hide htr
      have HD : Hid ((ss.drop k).reverse = (ss.drop (k + 1)).reverse ++ [ss[k]]) := hide (by rw [List.drop_eq_getElem_cons (by omega), List.reverse_cons])
      have HL : Hid ((ss.drop (k + 1)).reverse.length ≤ 1073741824) := hide (by simp; omega)
      have hwr : w.heap.size ≤ wr.heap.size := hbw.size
      clear hc ht hcell h0 htr v1 v2 v3 v4 v5 v6
      go_wp2_with (at_builtin; refine wpList_append_blk _ rfl (.tmp 13) (.tmp 18) 27 rfl w.heap.size 45 _ 7 104 Tryz.underlying27 Tryz.info45 rfl (by decide) _ _ _ rfl (HO.out.alloc _) wr.heap.size 1 1 _ 45 rfl (heap_alloc_new wr _) rfl (by intro u hu; simp at hu; rcases hu with rfl | rfl | rfl | rfl | rfl | rfl | rfl <;> rfl) (by have := HL.out; omega) (by have := HL.out; omega) (by have := hbw.size; simp; omega) ?_)
      intro v' w1 hown' hgrow
      have R : Hid (Below w.heap.size w w1 ∧ w1.ownsRow w.heap.size 45 7 v' (ss.drop k).reverse.length (cellsOf (vs ++ [.agg #[.string ss[k].name, .int .i64 ss[k].value.kind, .string ss[k].value.text, .float .f64 ss[k].value.num, .bool ss[k].value.yes, .slice ka ss[k].value.keys.length kc, .slice ta ss[k].value.kids.length tc]])) ∧
          SettersAt w (fun k => ok k ∧ k < w.heap.size) (vs ++ [.agg #[.string ss[k].name, .int .i64 ss[k].value.kind, .string ss[k].value.text, .float .f64 ss[k].value.num, .bool ss[k].value.yes, .slice ka ss[k].value.keys.length kc, .slice ta ss[k].value.kids.length tc]]) (ss.drop k).reverse) := by
        refine hide ⟨(hbw.alloc hbw.size _).grown hgrow (by simp; omega) (fun j hj => (HO.out.lt j hj).1), ?_, ?_⟩
        · rw [HD.out, List.length_append, cellsOf_append, cellsOf_one, show (ss.drop (k + 1)).reverse.length + [ss[k]].length = ss.length - (k + 1) + 1 by simp]
          exact hown'
        · rw [HD.out]
          exact HA.out.snoc ⟨_, rfl, HT.out⟩
      clear hown' hgrow e0 e1 e2 e3 e4 e5 e6
      go_wp2
      go_round
      case rel => exact ⟨k, _, by omega, rfl, R.out.1, R.out.2.1, R.out.2.2⟩
      case measure => first | (simp [intOf]; done) | (simp [intOf]; omega)
    · obtain rfl : k = 0 := by omega
      clear hc ht
      go_wp2
      go_returns
      refine ⟨_, rfl, ?_, hbw⟩
      have h1 := HO.out
      have h2 := HA.out
      rw [List.drop_zero] at h1 h2
      refine sets_of_own h1 ?_ (fun k hk => hok k (HO.out.lt k hk).1)
      exact ⟨h2.1, fun i v s hi hs => by
        obtain ⟨c, hc, htr⟩ := h2.2 i v s hi hs
        exact ⟨c, hc, (htr.same (Same.of_below_lt hbw)).weaken (fun k h _ => h.1)⟩⟩
end Go.Proofs.YtbcnhcpgloncdaaGreatDoor
