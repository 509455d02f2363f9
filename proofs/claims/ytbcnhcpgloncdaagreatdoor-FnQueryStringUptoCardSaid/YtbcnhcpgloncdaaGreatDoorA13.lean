/-
  spec.Params: the pairs of all settings that are one value.
-/
import Derived.Test.YtbcnhcpgloncdaaGreatDoorA4
import Derived.Deep.RegionHeld3
namespace Go.Proofs.YtbcnhcpgloncdaaGreatDoor
open Go.RowKit Go.Sort

theorem Tryz.info80 : (Tryz.prog.info? 80).map (fun i => (i.zero, i.size, i.bytes)) = some (some (.agg #[.string ⟨#[]⟩, .int .i64 0, .string ⟨#[]⟩, .float .f64 0, .bool false, .slice none 0 0, .slice none 0 0]), 7, 104) := by kernel_rfl

/-- Kinds of settings that are one value. -/
def valK (k : List UInt8) : Bool := k == [116] || (k == [110] || (k == [119] || (k == [98] || k == [118])))
def kindsV : List ByteArray := [⟨#[116]⟩, ⟨#[110]⟩, ⟨#[119]⟩, ⟨#[98]⟩, ⟨#[118]⟩]
theorem has_kinds (k : List UInt8) : hasB kindsV (bs k) = valK k := by
  unfold hasB valK kindsV
  simp only [List.any_cons, List.any_nil, Bool.or_false]
  have e : ∀ a : UInt8, eqB (⟨#[a]⟩ : ByteArray) (bs k) = (k == [a]) := fun a => by
    rw [Bool.eq_iff_iff, eqB_iff, beq_iff_eq]
    constructor
    · intro e
      have := congrArg (fun x : ByteArray => x.data.toList) e
      exact this.symm
    · rintro rfl; rfl
  rw [e, e, e, e, e]

/-- One row's pair, if it is set. -/
def paramOf (ss : List S) (r : List UInt8 × List UInt8) : List S := match lastS ss (bs r.1) with
  | some v => if valK r.2 = true then [⟨bs r.1, v⟩] else []
  | none => []
def paramsS (rows : List (List UInt8 × List UInt8)) (ss : List S) : List S := rows.flatMap (paramOf ss)
theorem params_take {rows : List (List UInt8 × List UInt8)} {ss : List S} {k : Nat} (hk : k < rows.length) : paramsS (rows.take (k + 1)) ss = paramsS (rows.take k) ss ++ paramOf ss rows[k] := by
  unfold paramsS
  rw [List.take_succ_eq_append_getElem hk, List.flatMap_append, List.flatMap_cons, List.flatMap_nil, List.append_nil]
theorem params_le (rows : List (List UInt8 × List UInt8)) (ss : List S) : (paramsS rows ss).length ≤ rows.length := by
  induction rows with
  | nil => exact Nat.le_refl _
  | cons r rows ih =>
    unfold paramsS at *
    rw [List.flatMap_cons, List.length_append, List.length_cons]
    have : (paramOf ss r).length ≤ 1 := by
      unfold paramOf
      split
      · split <;> simp
      · simp
    omega

/-- Pairs in a row that the call owns; their trees lie where they lay. -/
def RetPairs (ok : Nat → Prop) (w : World) (ps : List S) (e : Ending) (w' : World) : Prop :=
  ∃ v vs, e = .returned v ∧ w'.ownsRow w.heap.size 80 7 v ps.length (cellsOf vs) ∧ SettersAt w' (fun j => ok j ∧ j < w.heap.size) vs ps ∧ Below w.heap.size w w'

theorem kinds_at (w : World) : StrsAt (w.alloc (.cells #[.string ⟨#[116]⟩, .string ⟨#[110]⟩, .string ⟨#[119]⟩, .string ⟨#[98]⟩, .string ⟨#[118]⟩] 9 (0, 0))) (fun _ => True) (.slice (some ⟨w.heap.size, 0, none⟩) 5 5) kindsV := by
  refine ⟨_, _, rfl, by decide, fun i k hi => ⟨_, _, rfl, trivial, ?_⟩⟩
  rw [World.cell?_alloc_at _ _ _ _ rfl]
  match i, hi with
  | 0, hi => cases hi; rfl
  | 1, hi => cases hi; rfl
  | 2, hi => cases hi; rfl
  | 3, hi => cases hi; rfl
  | 4, hi => cases hi; rfl
  | n + 5, hi => simp [kindsV] at hi

theorem own_kept0 {w w' : World} {base e size : Nat} {v : Value} {n : Nat} {xs : List Value} (h : w.ownsRow base e size v n xs) (hb : Below w.heap.size w w') : w'.ownsRow base e size v n xs := by
  refine ⟨h.1, ?_⟩
  rcases h.2 with h0 | ⟨gg, cap, cur, h1, h2, h3, h4⟩
  · exact Or.inl h0
  · exact Or.inr ⟨gg, cap, cur, h1, h2, (hb.block gg (by
      rcases Nat.lt_or_ge gg w.heap.size with h | h
      · exact h
      · rw [Array.getElem?_eq_none h] at h3; cases h3)).trans h3, h4⟩
set_option maxHeartbeats 2000000 in
set_option maxRecDepth 100000 in
theorem params_any (B : Builder) (ok : Nat → Prop) (ss : List S) (v : Value) (w : World) (hv : SetsAt w ok v ss) (hl : ss.length ≤ 1073741824) :
    Calls Tryz.prog 73 #[.string (bs B.nm), v] w (RetPairs ok w (paramsS B.rows ss)) := by
  obtain ⟨nm, rows, small, calls⟩ := B
  show Calls Tryz.prog 73 #[.string (bs nm), v] w (RetPairs ok w (paramsS rows ss))
  have HC := hide calls
  have HV := hide (hv.weaken (ok' := fun j => ok j ∧ j < w.heap.size) fun k h0 h => ⟨h0, h⟩)
  clear calls hv
  go_enter Tryz.func73, Tryz.ntmps73
  go_wp2_with fail
  refine (HC.out _).mono ?_
  rintro e w1 ⟨vr, rfl, ⟨a, cap, rfl, hcap, hc⟩, hb1⟩
  have HRC := hide hc
  have HB1 : Hid (Below w.heap.size w w1) := hide (Below.trans (by go_grown) (hb1.mono (by simp)))
  have HE1 : Hid (w1.heap[w.heap.size]? = some (.cells #[] 80 (0, 0))) := hide ((hb1.block _ (by simp)).trans (heap_alloc_new _ _))
  have HOW1 : Hid (w1.ownsRow w.heap.size 80 7 (.slice (some ⟨w.heap.size, 0, none⟩) 0 0) 0 []) := hide (own_kept0 (World.ownsRow_lit w #[] 0 (Nat.le_refl _) (by unfold maxLen; omega) rfl) hb1)
  clear hc hb1
  go_wp2_with fail
  go_loopw [5, 7] (fun v i wr => ∃ (k : Nat) (vs : List Value), k ≤ rows.length ∧ i = .int .i64 k ∧ Below w.heap.size w wr ∧ (∀ j, j < w1.heap.size → j ≠ w.heap.size → wr.heap[j]? = w1.heap[j]?) ∧ (∀ g, v.ownBlock = some g → g = w.heap.size ∨ w1.heap.size ≤ g) ∧ w1.heap.size ≤ wr.heap.size ∧ wr.ownsRow w.heap.size 80 7 v (paramsS (rows.take k) ss).length (cellsOf vs) ∧ SettersAt w (fun k => ok k ∧ k < w.heap.size) vs (paramsS (rows.take k) ss)) (fun _ i _ => rows.length - (intOf i).toNat)
  case atStart => exact ⟨0, [], Nat.zero_le _, rfl, HB1.out, fun _ _ _ => rfl, fun g hg => Or.inl (by simpa [Value.ownBlock] using hg.symm), Nat.le_refl _, HOW1.out, SettersAt.nil _ _⟩
  case round =>
    obtain ⟨k, vs, hk, rfl, hbw, hkeep, hob, hsz1, hown, hsa⟩ := hrel
    have HO := hide hown
    have HA := hide hsa
    have HBW := hide hbw
    have HKP := hide hkeep
    have HOB := hide hob
    have hpl : (paramsS (rows.take k) ss).length ≤ 100 := by
      have := params_le (rows.take k) ss
      rw [List.length_take] at this
      omega
    obtain ⟨n, hn⟩ : ∃ n, n = (paramsS (rows.take k) ss).length := ⟨_, rfl⟩
    rw [← hn] at hpl
    have HN := hide hn
    clear hown hsa hbw hkeep hob hn
    by_cases hlt : k < rows.length
    · obtain ⟨r, hr⟩ : ∃ r, rows[k]? = some r := ⟨_, List.getElem?_eq_getElem hlt⟩
      obtain ⟨b, o, rfl, h1, h2⟩ := HRC.out k r hr
      have hbl : b < w1.heap.size := World.block_lt_of_cell? w1 _ h1
      have hbne : b ≠ w.heap.size := fun e => by
        subst e
        rw [cell_of_row w1 _ _ _ _ _ HE1.out] at h1
        simp at h1
      have HBNE := hide hbne
      have e1 := (World.cell?_of_block (a := ⟨b, o + k * 2, none⟩) (HKP.out b hbl hbne)).trans h1
      have e2 := (World.cell?_of_block (a := ⟨b, o + k * 2 + 1, none⟩) (HKP.out b hbl hbne)).trans h2
      clear hbne
      have i1 : (0 : Int) ≤ (k : Int) := by omega
      have i3 : (k : Int) < (rows.length : Int) := by omega
      have HPT : Hid (paramsS (rows.take (k + 1)) ss = paramsS (rows.take k) ss ++ paramOf ss r) := hide (by
        rw [params_take hlt]
        rw [List.getElem?_eq_getElem hlt] at hr
        cases hr; rfl)
      have HVR := hide (HV.out.same (Same.of_below HBW.out))
      have hwb : b < wr.heap.size := by omega
      clear h1 h2 hr
      go_wp2_with fail
      refine (last_any _ ss v (bs r.1) _ HVR.out (by omega)).mono ?_
      rintro e w2 ⟨u, x, rfl, hx, hxe, hb2⟩
      obtain ⟨xa, xc, ya, yc, c2, rfl, -⟩ := hx.open
      have HX := hide hx
      have HXE := hide hxe
      have HB3 := hide hb2
      have e3 := (hb2.cell (p := ⟨b, o + k * 2, none⟩) hwb).trans e1
      have e4 := (hb2.cell (p := ⟨b, o + k * 2 + 1, none⟩) hwb).trans e2
      obtain ⟨is, his⟩ : ∃ is, is = (lastS ss (bs r.1)).isSome := ⟨_, rfl⟩
      rw [← his]
      have HIS := hide his
      have hs2 := hb2.size
      have hwb2 : b < w2.heap.size := by omega
      clear hx hxe hb2 his e1 e2
      obtain ⟨wz, hwz⟩ : ∃ z, z = w2.alloc (.cells #[.int .i64 x.kind, .string x.text, .float .f64 x.num, .bool x.yes, .slice xa x.keys.length xc, .slice ya x.kids.length yc] 26 (0, 0)) := ⟨_, rfl⟩
      have hz8 : wz.heap[w2.heap.size]? = some (.cells #[.int .i64 x.kind, .string x.text, .float .f64 x.num, .bool x.yes, .slice xa x.keys.length xc, .slice ya x.kids.length yc] 26 (0, 0)) := by rw [hwz]; exact heap_alloc_new _ _
      have hbz : Below w2.heap.size w2 wz := by rw [hwz]; go_grown
      have hsz : wz.heap.size = w2.heap.size + 1 := by rw [hwz]; simp
      have HBZ := hide hbz
      have HZ8 := hide hz8
      have HWZ := hide hwz
      have HBA : Hid (Below w.heap.size w wz) := hide ((HBW.out.trans (HB3.out.mono HBW.out.size)).trans (hbz.mono (Nat.le_trans HBW.out.size hs2)))
      have HBA1 : Hid (∀ j, j < w1.heap.size → j ≠ w.heap.size → wz.heap[j]? = w1.heap[j]?) := hide (fun j h1 h2 => (hbz.block j (by omega)).trans ((HB3.out.block j (by omega)).trans (HKP.out j h1 h2)))
      have HOZ : Hid (wz.ownsRow w.heap.size 80 7 u5 n (cellsOf vs)) := hide (by rw [HN.out]; exact own_kept0 (own_kept0 HO.out HB3.out) HBZ.out)
      have hsw : w.heap.size ≤ w2.heap.size := Nat.le_trans HBW.out.size hs2
      clear hwz hz8 hbz
      cases is
      · have HP0 : Hid (paramOf ss r = []) := hide (by
          have h := HIS.out
          unfold paramOf
          cases hq : lastS ss (bs r.1) with
          | none => rfl
          | some v => rw [hq] at h; cases h)
        go_wp2_with fail
        go_round
        case rel =>
          rw [← HWZ.out]
          refine ⟨k + 1, vs, by omega, by go_num, HBA.out, HBA1.out, HOB.out, by omega, ?_, ?_⟩
          · rw [HPT.out, HP0.out, List.append_nil, ← HN.out]; exact HOZ.out
          · rw [HPT.out, HP0.out, List.append_nil]; exact HA.out
        case measure => first | (simp [intOf]; done) | (simp [intOf]; omega)
      · go_wp2_with fail
        refine (has_any (fun _ => True) kindsV _ (bs r.2) _ (by rw [← hsz, ← HWZ.out]; exact kinds_at wz) (by decide)).mono ?_
        rintro e w3 ⟨rfl, rfl⟩
        rw [has_kinds]
        obtain ⟨vk, hvk⟩ : ∃ vk, vk = valK r.2 := ⟨_, rfl⟩
        rw [← hvk]
        have HVK := hide hvk
        clear hvk
        rw [← HWZ.out]
        have HB5 : Hid (Below wz.heap.size wz (wz.alloc (.cells #[.string ⟨#[116]⟩, .string ⟨#[110]⟩, .string ⟨#[119]⟩, .string ⟨#[98]⟩, .string ⟨#[118]⟩] 9 (0, 0)))) := hide (by go_grown)
        generalize wz.alloc (.cells #[.string ⟨#[116]⟩, .string ⟨#[110]⟩, .string ⟨#[119]⟩, .string ⟨#[98]⟩, .string ⟨#[118]⟩] 9 (0, 0)) = w5 at *
        have h5 := HB5.out.size
        cases vk
        · have HP0 : Hid (paramOf ss r = []) := hide (by
            unfold paramOf
            cases hq : lastS ss (bs r.1) with
            | none => rfl
            | some v => dsimp only; rw [if_neg (by rw [← HVK.out]; decide)])
          go_wp2_with fail
          go_round
          case rel =>
            refine ⟨k + 1, vs, by omega, by go_num, HBA.out.trans (HB5.out.mono HBA.out.size), fun j h1 h2 => (HB5.out.block j (by omega)).trans (HBA1.out j h1 h2), HOB.out, by omega, ?_, ?_⟩
            · rw [HPT.out, HP0.out, List.append_nil, ← HN.out]; exact own_kept0 HOZ.out HB5.out
            · rw [HPT.out, HP0.out, List.append_nil]; exact HA.out
          case measure => first | (simp [intOf]; done) | (simp [intOf]; omega)
        · have HP1 : Hid (paramOf ss r = [⟨bs r.1, x⟩]) := hide (by
            have h := HIS.out
            unfold paramOf
            cases hq : lastS ss (bs r.1) with
            | none => rw [hq] at h; cases h
            | some v => dsimp only; rw [if_pos HVK.out.symm, HXE.out v hq])
          have hz5 := (HB5.out.block _ (by omega)).trans HZ8.out
          have c0 : w5.cell? ⟨w2.heap.size, 0, none⟩ = some (.int .i64 x.kind) := by rw [cell_of_row w5 _ 0 _ _ _ hz5]; rfl
          have c1 : w5.cell? ⟨w2.heap.size, 1, none⟩ = some (.string x.text) := by rw [cell_of_row w5 _ 1 _ _ _ hz5]; rfl
          have c2 : w5.cell? ⟨w2.heap.size, 2, none⟩ = some (.float .f64 x.num) := by rw [cell_of_row w5 _ 2 _ _ _ hz5]; rfl
          have c3 : w5.cell? ⟨w2.heap.size, 3, none⟩ = some (.bool x.yes) := by rw [cell_of_row w5 _ 3 _ _ _ hz5]; rfl
          have c4 : w5.cell? ⟨w2.heap.size, 4, none⟩ = some (.slice xa x.keys.length xc) := by rw [cell_of_row w5 _ 4 _ _ _ hz5]; rfl
          have c5 : w5.cell? ⟨w2.heap.size, 5, none⟩ = some (.slice ya x.kids.length yc) := by rw [cell_of_row w5 _ 5 _ _ _ hz5]; rfl
          have e5 : w5.cell? ⟨b, o + k * 2, none⟩ = some (.string (bs r.1)) := (HB5.out.cell (p := ⟨b, o + k * 2, none⟩) (show b < wz.heap.size by omega)).trans ((HBZ.out.cell (p := ⟨b, o + k * 2, none⟩) hwb2).trans e3)
          have HO5 : Hid (w5.ownsRow w.heap.size 80 7 u5 n (cellsOf vs)) := hide (own_kept0 HOZ.out HB5.out)
          have HB6 : Hid (Below w.heap.size w w5 ∧ ∀ j, j < w1.heap.size → j ≠ w.heap.size → w5.heap[j]? = w1.heap[j]?) := hide ⟨HBA.out.trans (HB5.out.mono HBA.out.size), fun j h1 h2 => (HB5.out.block j (by omega)).trans (HBA1.out j h1 h2)⟩
          have ag : u5.ownBlock ≠ some b := fun e => by have := HOB.out b e; have := HBNE.out; omega
          have ak : u5.ownBlock ≠ some w2.heap.size := fun e => by have := (own_lt HO.out e).2; omega
          clear hz5 e3 e4
          go_wp2_with fail
          go_region_held3 (fun w' => w'.cell? ⟨b, o + k * 2, none⟩ = some (.string (bs r.1)) ∧ w'.cell? ⟨w2.heap.size, 0, none⟩ = some (.int .i64 x.kind) ∧ w'.cell? ⟨w2.heap.size, 1, none⟩ = some (.string x.text) ∧ w'.cell? ⟨w2.heap.size, 2, none⟩ = some (.float .f64 x.num) ∧ w'.cell? ⟨w2.heap.size, 3, none⟩ = some (.bool x.yes) ∧ w'.cell? ⟨w2.heap.size, 4, none⟩ = some (.slice xa x.keys.length xc) ∧ w'.cell? ⟨w2.heap.size, 5, none⟩ = some (.slice ya x.kids.length yc))
            (first
              | go_keep
              | (go_split_ands
                 refine ⟨?_, ?_, ?_, ?_, ?_, ?_, ?_⟩
                 · (rw [hgrow.cell_far _ (by simp; omega) (Ne.symm ag)]; assumption)
                 all_goals (rw [hgrow.cell_far _ (by simp; omega) (Ne.symm ak)]; assumption)))
            ((refine step_append_one _ (by rfl) (.tmp 39) (.tmp 47) 81 (by rfl) w.heap.size 80 _ 7 104 Tryz.underlying81 Tryz.info80 rfl (by decide) u5 n (cellsOf vs) (by rfl) ((HO5.out.alloc _).drew) w5.heap.size 1 #[.string (bs r.1), .int .i64 x.kind, .string x.text, .float .f64 x.num, .bool x.yes, .slice xa x.keys.length xc, .slice ya x.kids.length yc] 80 (by rfl) (heap_alloc_new _ _) rfl (by intro u hu; simp at hu; rcases hu with rfl | rfl | rfl | rfl | rfl | rfl | rfl <;> rfl) (by omega) (by omega) (by have := HB6.out.1.size; simp; omega) ?_; intro g' cp w6 hown' hgrow hat))
          have R : Hid (Below w.heap.size w w6 ∧ (∀ j, j < w1.heap.size → j ≠ w.heap.size → w6.heap[j]? = w1.heap[j]?) ∧ (∀ g, (Value.slice (some ⟨g', 0, none⟩) (n + 1) cp).ownBlock = some g → g = w.heap.size ∨ w1.heap.size ≤ g) ∧ w1.heap.size ≤ w6.heap.size ∧ w6.ownsRow w.heap.size 80 7 (.slice (some ⟨g', 0, none⟩) (n + 1) cp) (n + 1) (cellsOf (vs ++ [.agg #[.string (bs r.1), .int .i64 x.kind, .string x.text, .float .f64 x.num, .bool x.yes, .slice xa x.keys.length xc, .slice ya x.kids.length yc]]))) := by
            have hgs := hgrow.size
            simp at hgs
            refine hide ⟨((HB6.out.1.alloc HB6.out.1.size _).drew).grown hgrow (by have := HB6.out.1.size; simp; omega) (fun j hj => (HO5.out.lt j hj).1), ?_, ?_, by omega, ?_⟩
            · intro j h1 h2
              rw [hgrow.block j (by simp; omega) (fun e => by have := HOB.out j e.symm; omega)]
              exact (show (w5.alloc _).heap[j]? = _ from (MapKept.heap_alloc _ _).2 _ (by omega)).trans (HB6.out.2 j h1 h2)
            · intro g hg
              obtain rfl : g' = g := by simpa [Value.ownBlock] using hg
              rcases hat with h | h
              · exact HOB.out _ h
              · simp at h; omega
            · rw [cellsOf_append, cellsOf_one]; exact hown'
          clear hown' hgrow hat
          go_wp2_with fail
          go_round
          case rel =>
            refine ⟨k + 1, vs ++ [.agg #[.string (bs r.1), .int .i64 x.kind, .string x.text, .float .f64 x.num, .bool x.yes, .slice xa x.keys.length xc, .slice ya x.kids.length yc]], by omega, by go_num, R.out.1, R.out.2.1, R.out.2.2.1, R.out.2.2.2.1, ?_, ?_⟩
            · rw [HPT.out, HP1.out, List.length_append, ← HN.out]; exact R.out.2.2.2.2
            · rw [HPT.out, HP1.out]
              exact HA.out.snoc ⟨_, rfl, HX.out.same fun j hj _ => ((HBW.out.trans (HB3.out.mono HBW.out.size)).block j hj.2).symm⟩
          case measure => first | (simp [intOf]; done) | (simp [intOf]; omega)
    · have hke : rows.take k = rows := List.take_of_length_le (by omega)
      have HO' : Hid (wr.ownsRow w.heap.size 80 7 u5 (paramsS rows ss).length (cellsOf vs) ∧ SettersAt w (fun k => ok k ∧ k < w.heap.size) vs (paramsS rows ss)) := hide (by rw [← hke]; exact ⟨HO.out, HA.out⟩)
      clear hke
      go_wp2_with fail
      go_returns
      exact ⟨_, vs, rfl, HO'.out.1, SettersAt.same (Same.of_below_lt HBW.out) HO'.out.2, HBW.out⟩
end Go.Proofs.YtbcnhcpgloncdaaGreatDoor

/-
  spec.pick: pairs without some keys.
-/
namespace Go.Proofs.YtbcnhcpgloncdaaGreatDoor
open Go.RowKit Go.Sort

def pickS (ps : List S) (no : List ByteArray) : List S := ps.filter fun p => !hasB no p.name
theorem pick_take {ps : List S} {no : List ByteArray} {k : Nat} {p : S} (hp : ps[k]? = some p) : pickS (ps.take (k + 1)) no = pickS (ps.take k) no ++ if hasB no p.name = true then [] else [p] := by
  obtain ⟨hk, rfl⟩ := List.getElem?_eq_some_iff.1 hp
  unfold pickS
  rw [List.take_succ_eq_append_getElem hk, List.filter_append, List.filter_cons, List.filter_nil]
  cases hasB no ps[k].name <;> rfl
theorem pick_le (ps : List S) (no : List ByteArray) (k : Nat) : (pickS (ps.take k) no).length ≤ ps.length := by
  unfold pickS
  refine Nat.le_trans (List.length_filter_le _ _) ?_
  rw [List.length_take]; omega

set_option maxHeartbeats 2000000 in
set_option maxRecDepth 100000 in
theorem pick_any (ok : Nat → Prop) (ps : List S) (no : List ByteArray) (v vn : Value) (w : World) (hv : SetsAt w ok v ps) (hn : StrsAt w ok vn no) (hl : ps.length ≤ 1073741824) (hl' : no.length ≤ 1073741824) :
    Calls Tryz.prog 72 #[v, vn] w (RetPairs ok w (pickS ps no)) := by
  have hv' := hv.weaken (ok' := fun j => ok j ∧ j < w.heap.size) fun k h0 h => ⟨h0, h⟩
  have HNO := hide (hn.weaken (ok' := fun j => ok j ∧ j < w.heap.size) fun k h0 h => ⟨h0, h⟩)
  obtain ⟨a, cap, c, rfl, hcap, hc, ht⟩ := hv'
  have HC := hide hc
  have HT := hide ht
  clear hv hc ht hn
  go_enter Tryz.func72, Tryz.ntmps72
  go_wp2_with fail
  go_loopw [5, 6] (fun v i wr => ∃ (k : Nat) (vs : List Value), k ≤ ps.length ∧ i = .int .i64 k ∧ Below w.heap.size w wr ∧ wr.ownsRow w.heap.size 80 7 v (pickS (ps.take k) no).length (cellsOf vs) ∧ SettersAt w (fun k => ok k ∧ k < w.heap.size) vs (pickS (ps.take k) no)) (fun _ i _ => ps.length - (intOf i).toNat)
  case atStart => exact ⟨0, [], Nat.zero_le _, rfl, by go_grown, World.ownsRow_lit w #[] 0 (Nat.le_refl _) (by unfold maxLen; omega) rfl, SettersAt.nil _ _⟩
  case round =>
    obtain ⟨k, vs, hk, rfl, hbw, hown, hsa⟩ := hrel
    have HO := hide hown
    have HA := hide hsa
    have HBW := hide hbw
    have hpl := pick_le ps no k
    obtain ⟨n, hn⟩ : ∃ n, n = (pickS (ps.take k) no).length := ⟨_, rfl⟩
    rw [← hn] at hpl
    have HN := hide hn
    have hwr := hbw.size
    clear hown hsa hbw hn
    by_cases hlt : k < ps.length
    · obtain ⟨p, hp⟩ : ∃ p, ps[k]? = some p := ⟨_, List.getElem?_eq_getElem hlt⟩
      obtain ⟨b, o, rfl, hb, hcell⟩ := HC.out k hlt
      obtain ⟨h0, htr⟩ := HT.out k p hp
      have e0 := hcell 0 (by omega)
      have e1 := hcell 1 (by omega)
      have e2 := hcell 2 (by omega)
      have e3 := hcell 3 (by omega)
      have e4 := hcell 4 (by omega)
      have e5 := hcell 5 (by omega)
      have e6 := hcell 6 (by omega)
      obtain ⟨ka, kc, ta, tc, cc, hv6, -⟩ := htr.open
      rw [hv6] at htr
      simp only [Value.agg.injEq, Array.mk.injEq, List.cons.injEq, and_true] at hv6
      obtain ⟨v1, v2, v3, v4, v5, v6⟩ := hv6
      rw [h0] at e0
      rw [v1] at e1; rw [v2] at e2; rw [v3] at e3; rw [v4] at e4; rw [v5] at e5; rw [v6] at e6
      have hbl : b < w.heap.size := hb.2
      simp only [Nat.add_zero] at e0
      replace e0 := (HBW.out.cell hbl).trans e0
      replace e1 := (HBW.out.cell hbl).trans e1
      replace e2 := (HBW.out.cell hbl).trans e2
      replace e3 := (HBW.out.cell hbl).trans e3
      replace e4 := (HBW.out.cell hbl).trans e4
      replace e5 := (HBW.out.cell hbl).trans e5
      replace e6 := (HBW.out.cell hbl).trans e6
      have HTR := hide htr
      have i1 : (0 : Int) ≤ (k : Int) := by omega
      have i3 : (k : Int) < (ps.length : Int) := by omega
      have HPT := hide (pick_take (no := no) hp)
      have HNR := hide (HNO.out.same (Same.of_below HBW.out))
      obtain ⟨hs, hhs⟩ : ∃ hs, hs = hasB no p.name := ⟨_, rfl⟩
      have HHS := hide hhs
      clear hcell h0 htr v1 v2 v3 v4 v5 v6 hp hhs
      go_wp2_with fail
      refine (has_any _ no _ p.name _ HNR.out (by omega)).mono ?_
      rintro e w1 ⟨rfl, rfl⟩
      rw [← HHS.out]
      cases hs
      · go_wp2_with (at_builtin; refine wpList_append_blk _ rfl (.tmp 22) (.tmp 27) 81 rfl w.heap.size 80 _ 7 104 Tryz.underlying81 Tryz.info80 rfl (by decide) _ n (cellsOf vs) rfl (by have := HO.out; rw [← HN.out] at this; exact this.alloc _) w1.heap.size 1 1 _ 80 rfl (heap_alloc_new w1 _) rfl (by intro u hu; simp at hu; rcases hu with rfl | rfl | rfl | rfl | rfl | rfl | rfl <;> rfl) (by omega) (by omega) (by simp; omega) ?_)
        intro v' w2 hown' hgrow
        have R : Hid (Below w.heap.size w w2 ∧ w2.ownsRow w.heap.size 80 7 v' (n + 1) (cellsOf (vs ++ [.agg #[.string p.name, .int .i64 p.value.kind, .string p.value.text, .float .f64 p.value.num, .bool p.value.yes, .slice ka p.value.keys.length kc, .slice ta p.value.kids.length tc]]))) := by
          refine hide ⟨(HBW.out.alloc HBW.out.size _).grown hgrow (by simp; omega) (fun j hj => (HO.out.lt j hj).1), ?_⟩
          rw [cellsOf_append, cellsOf_one]; exact hown'
        clear hown' hgrow e0 e1 e2 e3 e4 e5 e6
        go_wp2
        go_round
        case rel =>
          refine ⟨k + 1, vs ++ [.agg #[.string p.name, .int .i64 p.value.kind, .string p.value.text, .float .f64 p.value.num, .bool p.value.yes, .slice ka p.value.keys.length kc, .slice ta p.value.kids.length tc]], by omega, by go_num, R.out.1, ?_, ?_⟩
          · rw [HPT.out, if_neg (by rw [← HHS.out]; decide), List.length_append, ← HN.out]; exact R.out.2
          · rw [HPT.out, if_neg (by rw [← HHS.out]; decide)]
            exact HA.out.snoc ⟨_, rfl, HTR.out⟩
        case measure => first | (simp [intOf]; done) | (simp [intOf]; omega)
      · go_wp2_with fail
        go_round
        case rel =>
          refine ⟨k + 1, vs, by omega, by go_num, HBW.out, ?_, ?_⟩
          · rw [HPT.out, if_pos HHS.out.symm, List.append_nil]; exact HO.out
          · rw [HPT.out, if_pos HHS.out.symm, List.append_nil]; exact HA.out
        case measure => first | (simp [intOf]; done) | (simp [intOf]; omega)
    · have hke : ps.take k = ps := List.take_of_length_le (by omega)
      have HO' : Hid (wr.ownsRow w.heap.size 80 7 u5 (pickS ps no).length (cellsOf vs) ∧ SettersAt w (fun k => ok k ∧ k < w.heap.size) vs (pickS ps no)) := hide (by rw [← hke]; exact ⟨HO.out, HA.out⟩)
      clear hke
      go_wp2_with fail
      go_returns
      exact ⟨_, vs, rfl, HO'.out.1, SettersAt.same (Same.of_below_lt HBW.out) HO'.out.2, HBW.out⟩
end Go.Proofs.YtbcnhcpgloncdaaGreatDoor
