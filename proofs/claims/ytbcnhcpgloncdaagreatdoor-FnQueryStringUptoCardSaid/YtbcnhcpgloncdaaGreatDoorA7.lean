/-
  spec.With ON THE TREE OF A MAP: the plain law.
-/
import Derived.Test.YtbcnhcpgloncdaaGreatDoorA5
namespace Go.Proofs.YtbcnhcpgloncdaaGreatDoor
open Go.RowKit

/-- Go's >= on texts. -/
abbrev geS (a b : ByteArray) : Bool := !(Op.bytesLess a.toList b.toList)
/-- What With's loop lays from here on. -/
def wgo (key : ByteArray) (kid : T) : List ByteArray → List T → Bool → List ByteArray × List T
  | [], _, done => if done then ([], []) else ([key], [kid])
  | k :: ks, ts, done =>
    let r := wgo key kid ks ts.tail (done || (!done && geS k key))
    let here := if eqB k key then r else (k :: r.1, (ts.head?.getD default) :: r.2)
    if !done && geS k key then (key :: here.1, kid :: here.2) else here
def withL (t : T) (key : ByteArray) (kid : T) : T := .mk 5 ⟨#[]⟩ 0 false (wgo key kid t.keys t.kids false).1 (wgo key kid t.keys t.kids false).2

theorem lt_ne {x l : List UInt8} (h : x ≤ l) (hne : x ≠ l) : x < l := (List.le_iff_lt_or_eq.1 h).elim id fun e => absurd e hne
theorem bytesLess_is : ∀ (x y : List UInt8), Op.bytesLess x y = decide (x < y)
  | _, [] => by simp [Op.bytesLess]
  | [], _ :: _ => by simp [Op.bytesLess]
  | a :: x, b :: y => by
    rw [Op.bytesLess, bytesLess_is x y]
    by_cases h : a < b
    · simp [h, List.cons_lt_cons_iff]
    · by_cases e : a = b
      · subst e; simp
      · simp [h, e, List.cons_lt_cons_iff]
def insK (l : List UInt8) : List (List UInt8) → List (List UInt8)
  | [] => [l]
  | x :: xs => if l < x then l :: x :: xs else if x = l then l :: xs else x :: insK l xs
theorem insK_mem {l y : List UInt8} : ∀ {xs : List (List UInt8)}, y ∈ insK l xs ↔ y = l ∨ y ∈ xs
  | [] => by simp [insK]
  | x :: xs => by
    unfold insK
    split
    · simp
    · split
      · rename_i h
        subst h
        simp
      · rw [List.mem_cons, insK_mem (xs := xs), List.mem_cons]
        constructor
        · rintro (h | h | h) <;> simp [h]
        · rintro (h | h | h) <;> simp [h]
theorem insK_rise {l : List UInt8} : ∀ {xs : List (List UInt8)}, xs.Pairwise (· < ·) → (insK l xs).Pairwise (· < ·)
  | [], _ => by simp [insK]
  | x :: xs, h => by
    obtain ⟨h1, h2⟩ := List.pairwise_cons.1 h
    unfold insK
    split
    · rename_i hl
      exact List.pairwise_cons.2 ⟨fun y hy => (List.mem_cons.1 hy).elim (fun e => e ▸ hl) (fun e => List.lt_trans hl (h1 y e)), h⟩
    · rename_i hl
      split
      · rename_i e
        subst e
        exact h
      · rename_i hne
        refine List.pairwise_cons.2 ⟨fun y hy => ?_, insK_rise h2⟩
        rcases insK_mem.1 hy with rfl | hy
        · exact lt_ne (List.not_lt.1 hl) hne
        · exact h1 y hy

theorem geS_bs (x y : List UInt8) : geS (bs x) (bs y) = !decide (x < y) := by
  unfold geS
  rw [bs_toList, bs_toList, bytesLess_is]
theorem eqB_bs (x y : List UInt8) : eqB (bs x) (bs y) = decide (x = y) := by
  unfold eqB
  rw [bs_toList, bs_toList]
  by_cases h : x = y
  · subst h; simp
  · simp [h]

theorem wgo_done (l : List UInt8) (kid : T) (g : List UInt8 → T) : ∀ (xs : List (List UInt8)), (∀ x ∈ xs, x ≠ l) → wgo (bs l) kid (xs.map bs) (xs.map g) true = (xs.map bs, xs.map g)
  | [], _ => by simp [wgo]
  | x :: xs, h => by
    have ih := wgo_done l kid g xs fun y hy => h y (List.mem_cons_of_mem _ hy)
    have hx := h x (by simp)
    simp only [List.map_cons, wgo, List.tail_cons, Bool.not_true, Bool.false_and, Bool.or_false, ih, eqB_bs, hx, decide_false, Bool.false_eq_true, if_false, List.head?_cons, Option.getD_some]
theorem wgo_rise (l : List UInt8) (kid : T) (g : List UInt8 → T) : ∀ (xs : List (List UInt8)), xs.Pairwise (· < ·) → wgo (bs l) kid (xs.map bs) (xs.map g) false = ((insK l xs).map bs, (insK l xs).map fun y => if y = l then kid else g y)
  | [], _ => by simp [wgo, insK]
  | x :: xs, h => by
    obtain ⟨h1, h2⟩ := List.pairwise_cons.1 h
    have ih := wgo_rise l kid g xs h2
    unfold insK
    by_cases hl : l < x
    · have hne : ∀ y ∈ x :: xs, y ≠ l := fun y hy e => by
        subst e
        rcases List.mem_cons.1 hy with e | hy
        · subst e; exact List.lt_irrefl _ hl
        · exact List.lt_irrefl _ (List.lt_trans hl (h1 _ hy))
      have hd := wgo_done l kid g xs fun y hy => hne y (List.mem_cons_of_mem _ hy)
      have hnx : ¬ x < l := fun e => List.lt_irrefl _ (List.lt_trans hl e)
      have hx := hne x (by simp)
      have hm : (xs.map fun y => if y = l then kid else g y) = xs.map g := List.map_congr_left fun y hy => by rw [if_neg (hne y (List.mem_cons_of_mem _ hy))]
      simp only [if_pos hl, List.map_cons, wgo, List.tail_cons, Bool.not_false, Bool.true_and, Bool.false_or, geS_bs, hnx, decide_false, Bool.not_false, hd, eqB_bs, hx, Bool.false_eq_true, if_false, if_true, List.head?_cons, Option.getD_some, hm]
    · rw [if_neg hl]
      by_cases he : x = l
      · subst he
        have hne : ∀ y ∈ xs, y ≠ x := fun y hy e => by subst e; exact List.lt_irrefl _ (h1 _ hy)
        have hd := wgo_done x kid g xs hne
        have hnx : ¬ x < x := List.lt_irrefl _
        have hm : (xs.map fun y => if y = x then kid else g y) = xs.map g := List.map_congr_left fun y hy => by rw [if_neg (hne y hy)]
        simp only [if_true, List.map_cons, wgo, List.tail_cons, Bool.not_false, Bool.true_and, Bool.false_or, geS_bs, hnx, decide_false, hd, eqB_bs, decide_true, hm]
      · have hlt : x < l := lt_ne (List.not_lt.1 hl) he
        rw [if_neg he]
        simp only [List.map_cons, wgo, List.tail_cons, Bool.not_false, Bool.true_and, Bool.false_or, geS_bs, hlt, decide_true, Bool.not_true, ih, eqB_bs, he, decide_false, Bool.false_eq_true, if_false, List.head?_cons, Option.getD_some]

theorem bs_data (k : ByteArray) : bs k.data.toList = k := by cases k; rfl
theorem with_map (E : List (ByteArray × T)) (key : ByteArray) (kid : T) : withL (mapTree E) key kid = mapTree (E ++ [(key, kid)]) := by
  refine IsMapT.eq ⟨insK key.data.toList (mapKeys E), insK_rise (mapKeys_rise E), fun l => ?_, ?_⟩
  · rw [insK_mem, mapKeys_mem, lookL_snoc]
    by_cases h : l = key.data.toList
    · subst h
      rw [bs_data, if_pos ((eqB_iff _ _).2 rfl)]
      simp
    · have hne : eqB key (bs l) = false := (eqB_false _ _).2 fun e => h (by rw [e]; rfl)
      rw [hne]
      simp [h]
  · unfold withL
    rw [mapTree_eq]
    show T.mk 5 _ 0 false (wgo key kid ((mapKeys E).map bs) ((mapKeys E).map fun l => (lookL E (bs l)).getD default) false).1 (wgo key kid ((mapKeys E).map bs) ((mapKeys E).map fun l => (lookL E (bs l)).getD default) false).2 = _
    have := wgo_rise key.data.toList kid (fun l => (lookL E (bs l)).getD default) (mapKeys E) (mapKeys_rise E)
    rw [bs_data] at this
    rw [this]
    congr 1
    refine List.map_congr_left fun y hy => ?_
    rw [lookL_snoc]
    by_cases h : y = key.data.toList
    · subst h
      rw [bs_data, if_pos rfl, if_pos ((eqB_iff _ _).2 rfl)]; rfl
    · have hne : eqB key (bs y) = false := (eqB_false _ _).2 fun e => h (by rw [e]; rfl)
      rw [if_neg h, hne]; rfl
theorem map_nil : mapTree [] = .mk 5 ⟨#[]⟩ 0 false [] [] := by
  have h : mapKeys [] = [] := List.eq_nil_of_length_eq_zero (Nat.le_zero.1 (mapKeys_length []))
  rw [mapTree_eq, h]; rfl
end Go.Proofs.YtbcnhcpgloncdaaGreatDoor

/-
  spec.At, spec.Text, spec.Number, spec.List.
-/
namespace Go.Proofs.YtbcnhcpgloncdaaGreatDoor
open Go.RowKit

/-- The tree for a key of a map. -/
def atT (t : T) (key : ByteArray) : Option T := ((t.keys.zip t.kids).find? (fun p => eqB p.1 key)).map (·.2)

theorem atT_hit {t : T} {key : ByteArray} {k : Nat} (hk : k < t.keys.length) (hk' : k < t.kids.length) (hno : ∀ (j : Nat) x, j < k → t.keys[j]? = some x → eqB x key = false) (h : eqB t.keys[k] key = true) : atT t key = some t.kids[k] := by
  unfold atT
  have hz : k < (t.keys.zip t.kids).length := by simp; omega
  have : (t.keys.zip t.kids).find? (fun p => eqB p.1 key) = some (t.keys[k], t.kids[k]) := by
    rw [List.find?_eq_some_iff_getElem]
    refine ⟨h, k, hz, by simp, fun j hj => ?_⟩
    have := hno j t.keys[j] hj (List.getElem?_eq_getElem (by omega))
    simp [this]
  rw [this]; rfl
theorem atT_none {t : T} {key : ByteArray} (hno : ∀ (j : Nat) x, j < t.keys.length → t.keys[j]? = some x → eqB x key = false) : atT t key = none := by
  unfold atT
  have : (t.keys.zip t.kids).find? (fun p => eqB p.1 key) = none := by
    rw [List.find?_eq_none]
    intro p hp
    obtain ⟨j, hj⟩ := List.mem_iff_getElem?.1 (List.of_mem_zip hp).1
    have hlt : j < t.keys.length := by
      rcases Nat.lt_or_ge j t.keys.length with h | h
      · exact h
      · rw [List.getElem?_eq_none h] at hj; cases hj
    rw [hno j p.1 hlt hj]; simp
  rw [this]; rfl

set_option maxHeartbeats 1000000 in
theorem at_any (ok : Nat → Prop) (t : T) (v : Value) (key : ByteArray) (w : World) (hv : TreeAt w ok v t) (hkind : t.kind = 5) (hl : t.keys.length = t.kids.length) (hb : t.kids.length ≤ 4611686018427387904) :
    Calls Tryz.prog 63 #[v, .string key] w (RetMaybe ok w (atT t key)) := by
  obtain ⟨ka, kac, ta, tac, c, rfl, hkac, htac, hk0, hc, hts⟩ := hv.open
  have HL := hide hl
  have hnl : (t.keys.length : Int) = (t.kids.length : Int) := by rw [hl]
  have hk5 : Hid (t.kind = 5) := hide hkind
  have HK := hide hk0
  have HC := hide hc
  have HT := hide hts
  clear hv hk0 hc hts hl hkind
  go_enter Tryz.func63, Tryz.ntmps63
  rw [hk5.out]
  go_wp2_with fail
  go_loop [6] (fun i => ∃ k : Nat, k ≤ t.kids.length ∧ i = .int .i64 (k : Int) ∧ (∀ j x, j < k → t.keys[j]? = some x → eqB x key = false)) (fun i => (t.kids.length - (intOf i).toNat))
  case atStart => exact ⟨0, Nat.zero_le _, rfl, fun j x hj => by omega⟩
  case round =>
    obtain ⟨k, hk, rfl, hno⟩ := hrel
    have HNO := hide hno
    clear hno
    by_cases hlt : k < t.kids.length
    · have hltk : k < t.keys.length := by rw [HL.out]; exact hlt
      obtain ⟨x, hx⟩ : ∃ x, t.keys[k]? = some x := ⟨_, List.getElem?_eq_getElem hltk⟩
      obtain ⟨kb, ko, rfl, -, e0⟩ := HK.out k x hx
      obtain ⟨b, o, rfl, hb', hcell⟩ := HC.out k hlt
      have htr := HT.out k t.kids[k] (List.getElem?_eq_getElem hlt)
      have d0 := hcell 0 (by omega)
      have d1 := hcell 1 (by omega)
      have d2 := hcell 2 (by omega)
      have d3 := hcell 3 (by omega)
      have d4 := hcell 4 (by omega)
      have d5 := hcell 5 (by omega)
      obtain ⟨xa, xc, ya, yc, cc, hv6, -⟩ := htr.open
      rw [hv6] at htr
      simp only [Value.agg.injEq, Array.mk.injEq, List.cons.injEq, and_true] at hv6
      obtain ⟨v0, v1, v2, v3, v4, v5⟩ := hv6
      rw [v0] at d0; rw [v1] at d1; rw [v2] at d2; rw [v3] at d3; rw [v4] at d4; rw [v5] at d5
      have hbl : b < w.heap.size := World.block_lt_of_cell? w _ d0
      have hbk : kb < w.heap.size := World.block_lt_of_cell? w _ e0
      have HTR := hide htr
      have i1 : (0 : Int) ≤ (k : Int) := by omega
      have i3 : (k : Int) < (t.kids.length : Int) := by omega
      have HXK : Hid (t.keys[k] = x) := hide (by rw [List.getElem?_eq_getElem hltk] at hx; exact Option.some.inj hx)
      have HX := hide hx
      clear hcell htr v0 v1 v2 v3 v4 v5 hx
      simp only [Nat.add_zero] at d0
      cases hn : eqB x key
      · go_wp2
        go_round
        case rel =>
          refine ⟨k + 1, by omega, by go_num, fun j y hj hy => ?_⟩
          rcases Nat.lt_or_ge j k with h | h
          · exact HNO.out j y h hy
          · obtain rfl : j = k := by omega
            rw [HX.out] at hy; cases hy; exact hn
        case measure => first | (simp [intOf]; done) | (simp [intOf]; omega)
      · have HF := hide (atT_hit hltk hlt HNO.out (by rw [HXK.out]; exact hn))
        go_wp2
        go_returns
        refine ⟨_, t.kids[k], by rw [HF.out]; rfl, HTR.out.same (Same.of_below ?_), fun u hu => by rw [HF.out] at hu; exact Option.some.inj hu, ?_⟩
        all_goals go_grown
    · obtain rfl : k = t.kids.length := by omega
      have HF := hide (atT_none (t := t) (key := key) fun j x hj => HNO.out j x (by rw [← HL.out]; exact hj))
      go_wp2
      go_returns
      refine ⟨_, .mk 0 ⟨#[]⟩ 0 false [] [], by rw [HF.out]; rfl, ?_, ?_, ?_⟩
      · exact TreeAt.leaf _ _ _ _ _ _ _ _ _ _
      · intro u hu; rw [HF.out] at hu; cases hu
      · go_grown

theorem mapTree_keys (E : List (ByteArray × T)) : (mapTree E).keys = (mapKeys E).map bs := by rw [mapTree_eq]; rfl
theorem mapTree_kids (E : List (ByteArray × T)) : (mapTree E).kids = (mapKeys E).map fun l => (lookL E (bs l)).getD default := by rw [mapTree_eq]; rfl
theorem mapTree_kind (E : List (ByteArray × T)) : (mapTree E).kind = 5 := by rw [mapTree_eq]; rfl
theorem mapTree_len (E : List (ByteArray × T)) : (mapTree E).keys.length = (mapTree E).kids.length := by rw [mapTree_keys, mapTree_kids]; simp
theorem mapTree_le (E : List (ByteArray × T)) : (mapTree E).kids.length ≤ E.length := by rw [mapTree_kids, List.length_map]; exact mapKeys_length E

theorem atT_map (E : List (ByteArray × T)) (key : ByteArray) : atT (mapTree E) key = lookL E key := by
  unfold atT
  rw [mapTree_keys, mapTree_kids]
  have hz : ((mapKeys E).map bs).zip ((mapKeys E).map fun l => (lookL E (bs l)).getD default) = (mapKeys E).map fun l => (bs l, (lookL E (bs l)).getD default) := by
    rw [List.zip_map']
  rw [hz, List.find?_map, Option.map_map]
  cases h : (mapKeys E).find? ((fun p : ByteArray × T => eqB p.1 key) ∘ fun l => (bs l, (lookL E (bs l)).getD default)) with
  | some l =>
    have h1 := List.find?_some h
    have h2 : bs l = key := (eqB_iff _ _).1 h1
    have h3 := (mapKeys_mem E l).1 (List.mem_of_find?_eq_some h)
    rw [h2] at h3
    simp only [Option.map_some, Function.comp, h2]
    cases hl : lookL E key with
    | some u => rfl
    | none => rw [hl] at h3; cases h3
  | none =>
    rw [List.find?_eq_none] at h
    cases hl : lookL E key with
    | none => rfl
    | some u =>
      have hm : key.data.toList ∈ mapKeys E := (mapKeys_mem E _).2 (by rw [bs_data, hl]; rfl)
      exact absurd ((eqB_iff _ _).2 (bs_data key)) (h _ hm)

set_option maxHeartbeats 400000 in
theorem text_any (ok : Nat → Prop) (s : ByteArray) (w : World) : Calls Tryz.prog 23 #[.string s] w (RetTree ok w (tText s)) := by
  go_enter Tryz.func23, Tryz.ntmps23
  go_wp2_with fail
  go_returns
  exact ⟨_, rfl, TreeAt.leaf _ _ _ _ _ _ _ _ _ _, by go_grown⟩
set_option maxHeartbeats 400000 in
theorem number_any (ok : Nat → Prop) (x : Nat) (w : World) : Calls Tryz.prog 67 #[.float .f64 x] w (RetTree ok w (tNum x)) := by
  go_enter Tryz.func67, Tryz.ntmps67
  go_wp2_with fail
  go_returns
  exact ⟨_, rfl, TreeAt.leaf _ _ _ _ _ _ _ _ _ _, by go_grown⟩
set_option maxHeartbeats 400000 in
theorem list_nil (ok : Nat → Prop) (w : World) : Calls Tryz.prog 64 #[.slice none 0 0] w (RetTree ok w (.mk 4 ⟨#[]⟩ 0 false [] [])) := by
  go_enter Tryz.func64, Tryz.ntmps64
  go_wp2_with fail
  go_returns
  exact ⟨_, rfl, TreeAt.leaf _ _ _ _ _ _ _ _ _ _, by go_grown⟩
/-- A slice value that holds trees. -/
def KidsSl (w : World) (ok : Nat → Prop) (v : Value) (ts : List T) : Prop := ∃ a cap, v = .slice a ts.length cap ∧ TreeAt w ok (.agg #[.int .i64 4, .string ⟨#[]⟩, .float .f64 0, .bool false, .slice none 0 0, .slice a ts.length cap]) (.mk 4 ⟨#[]⟩ 0 false [] ts)
set_option maxHeartbeats 400000 in
theorem list_any (ok : Nat → Prop) (v : Value) (ts : List T) (w : World) (h : KidsSl w ok v ts) : Calls Tryz.prog 64 #[v] w (RetTree ok w (.mk 4 ⟨#[]⟩ 0 false [] ts)) := by
  obtain ⟨a, cap, rfl, ht⟩ := h
  have HT := hide ht
  clear ht
  go_enter Tryz.func64, Tryz.ntmps64
  go_wp2_with fail
  go_returns
  refine ⟨_, rfl, HT.out.same (Same.of_below ?_), ?_⟩
  all_goals go_grown
end Go.Proofs.YtbcnhcpgloncdaaGreatDoor
