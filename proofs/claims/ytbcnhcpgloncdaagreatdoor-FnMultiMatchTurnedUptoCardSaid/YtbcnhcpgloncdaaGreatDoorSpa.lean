/-
  THE CONTRACTS OF THE SMALL FUNCTIONS OF spec: what they come to, as plain Lean functions.
-/
import Derived.Test.YtbcnhcpgloncdaaGreatDoorFl
namespace Go.Proofs.YtbcnhcpgloncdaaGreatDoor
open Go.RowKit

/-! ### place -/
def placeN (l : List UInt8) (c : Int) : Nat := l.findIdx (fun b => (b.toNat : Int) == c)
theorem placeN_le (l : List UInt8) (c : Int) : placeN l c ≤ l.length := List.findIdx_le_length
theorem placeN_step {l : List UInt8} {c : Int} {k : Nat} (h : k ≤ placeN l c) (hk : k < l.length) (hc : ((l[k].toNat : Int) == c) = false) : k + 1 ≤ placeN l c := by
  rcases Nat.lt_or_ge k (placeN l c) with h' | h'
  · omega
  · have e : placeN l c = k := by omega
    have := List.findIdx_getElem (xs := l) (p := fun b => (b.toNat : Int) == c) (w := by show placeN l c < _; omega)
    have e' : l.findIdx (fun b => (b.toNat : Int) == c) = k := e
    simp only [e'] at this
    rw [this] at hc; cases hc
theorem placeN_stop {l : List UInt8} {c : Int} {k : Nat} (h : k ≤ placeN l c) (hk : k < l.length) (hc : ((l[k].toNat : Int) == c) = true) : placeN l c = k := by
  rcases Nat.lt_or_ge k (placeN l c) with h' | h'
  · have := List.not_of_lt_findIdx (xs := l) (p := fun b => (b.toNat : Int) == c) h'
    exact absurd hc (by rw [this]; simp)
  · omega

set_option maxHeartbeats 400000 in
theorem place_any (s : ByteArray) (c : Int) (w : World) (hs : s.size ≤ maxLen) :
    Calls Tryz.prog 65 #[.string s, .int .u8 c] w fun e w' => e = .returned (.int .i64 (placeN s.data.toList c)) ∧ w' = w := by
  unfold maxLen at hs
  have hlen : s.data.toList.length = s.size := by simp
  go_enter Tryz.func65, Tryz.ntmps65
  go_wp2
  go_loop [5] (fun i => ∃ k : Nat, k ≤ placeN s.data.toList c ∧ k ≤ s.size ∧ i = .int .i64 k) (fun i => s.size - (intOf i).toNat)
  case atStart => exact ⟨0, Nat.zero_le _, Nat.zero_le _, rfl⟩
  case round =>
    obtain ⟨k, hk, hks, rfl⟩ := hrel
    by_cases hlt : k < s.size
    · cases hc : ((s[k].toNat : Int) == c)
      · have hn : ((s[k].toNat : Int) != c) = true := by simpa using hc
        have := placeN_step hk (by omega) hc
        go_wp2
        all_goals
          go_round
          case rel => exact ⟨k + 1, by omega, by omega, by go_num⟩
          case measure => simp [intOf]; omega
      · have hn : ((s[k].toNat : Int) != c) = false := by simpa using hc
        have H := Lib.hid (placeN_stop hk (by omega) hc)
        go_wp2
        go_ret
        exact ⟨ret_int (by rw [H.out]), rfl⟩
    · have hd : decide (k < s.size) = false := by simpa using hlt
      have := placeN_le s.data.toList c
      go_wp2
      go_ret
      exact ⟨ret_int (by omega), rfl⟩

/-! ### Last -/
/-- The last value of a name. -/
def lastS (ss : List S) (nm : ByteArray) : Option T := (ss.reverse.find? (fun s => eqB s.name nm)).map S.value

theorem lastS_hit {ss : List S} {nm : ByteArray} {k : Nat} (hk : k < ss.length) (hno : ∀ j s, k + 1 ≤ j → ss[j]? = some s → eqB s.name nm = false) (hn : eqB ss[k].name nm = true) : lastS ss nm = some ss[k].value := by
  unfold lastS
  have : ss.reverse.find? (fun s => eqB s.name nm) = some ss[k] := by
    have e : ss = ss.take k ++ ss[k] :: ss.drop (k + 1) := by rw [← List.drop_eq_getElem_cons hk, List.take_append_drop]
    have hd : (ss.drop (k + 1)).reverse.find? (fun s => eqB s.name nm) = none := by
      rw [List.find?_eq_none]
      intro x hx
      rw [List.mem_reverse, List.mem_iff_getElem?] at hx
      obtain ⟨j, hj⟩ := hx
      rw [List.getElem?_drop] at hj
      simpa using hno _ _ (by omega) hj
    conv => lhs; rw [e]
    rw [List.reverse_append, List.reverse_cons, List.append_assoc, List.find?_append, hd]
    simp [hn]
  rw [this]; rfl
theorem lastS_none {ss : List S} {nm : ByteArray} (hno : ∀ j s, 0 ≤ j → ss[j]? = some s → eqB s.name nm = false) : lastS ss nm = none := by
  unfold lastS
  have : ss.reverse.find? (fun s => eqB s.name nm) = none := by
    rw [List.find?_eq_none]
    intro x hx
    rw [List.mem_reverse, List.mem_iff_getElem?] at hx
    obtain ⟨j, hj⟩ := hx
    simpa using hno _ _ (by omega) hj
  rw [this]; rfl

set_option maxHeartbeats 400000 in
theorem last_any (ok : Nat → Prop) (ss : List S) (v : Value) (nm : ByteArray) (w : World) (hv : SetsAt w ok v ss) (hl : ss.length ≤ 4611686018427387904) :
    Calls Tryz.prog 29 #[v, .string nm] w (RetMaybe ok w (lastS ss nm)) := by
  obtain ⟨a, cap, c, rfl, hcap, hc, ht⟩ := hv
  go_enter Tryz.func29, Tryz.ntmps29
  go_wp2
  go_loop [6] (fun i => ∃ k : Nat, k ≤ ss.length ∧ i = .int .i64 ((k : Int) - 1) ∧ (∀ j s, k ≤ j → ss[j]? = some s → eqB s.name nm = false)) (fun i => (intOf i + 1).toNat)
  case atStart => exact ⟨ss.length, Nat.le_refl _, rfl, fun j s hj hs => by rw [List.getElem?_eq_none (by omega)] at hs; cases hs⟩
  case round =>
    obtain ⟨k, hk, rfl, hno⟩ := hrel
    have HNO := hide hno
    clear hno
    by_cases hlt : 0 < k
    · obtain ⟨k, rfl⟩ : ∃ k', k = k' + 1 := ⟨k - 1, by omega⟩
      obtain ⟨b, o, rfl, hb, hcell⟩ := hc k (by omega)
      obtain ⟨h0, htr⟩ := ht k ss[k] (by simp)
      have e0 := hcell 0 (by omega)
      have e1 := hcell 1 (by omega)
      have e2 := hcell 2 (by omega)
      have e3 := hcell 3 (by omega)
      have e4 := hcell 4 (by omega)
      have e5 := hcell 5 (by omega)
      have e6 := hcell 6 (by omega)
      obtain ⟨ka, kc, ta, tc, cc, hv6, -, -, hk1, hk2, hk3⟩ := htr.open
      rw [hv6] at htr
      simp only [Value.agg.injEq, Array.mk.injEq, List.cons.injEq, and_true] at hv6
      obtain ⟨v1, v2, v3, v4, v5, v6⟩ := hv6
      rw [h0] at e0
      rw [v1] at e1; rw [v2] at e2; rw [v3] at e3; rw [v4] at e4; rw [v5] at e5; rw [v6] at e6
      have hbl : b < w.heap.size := World.block_lt_of_cell? w _ e0
      rw [show ((k + 1 : Nat) : Int) - 1 = k by omega]
      have HT := hide htr
      clear hc ht hcell h0 htr v1 v2 v3 v4 v5 v6 hk1 hk2 hk3
      simp only [Nat.add_zero] at e0
      cases hn : eqB ss[k].name nm
      · go_wp2
        go_round
        case rel =>
          refine ⟨k, by omega, rfl, fun j s hj hs => ?_⟩
          rcases Nat.eq_or_lt_of_le hj with rfl | h
          · rw [List.getElem?_eq_getElem (by omega)] at hs; cases hs; exact hn
          · exact HNO.out j s (by omega) hs
        case measure => first | (simp [intOf]; done) | (simp [intOf]; omega)
      · have HF := hide (lastS_hit (by omega) HNO.out hn)
        go_wp2
        go_returns
        refine ⟨_, ss[k].value, by rw [HF.out]; rfl, HT.out.same (Same.of_below ?_), fun u hu => by rw [HF.out] at hu; exact Option.some.inj hu, ?_⟩
        all_goals go_grown
    · obtain rfl : k = 0 := by omega
      have HF := hide (lastS_none HNO.out)
      clear hc ht
      go_wp2
      go_returns
      refine ⟨_, .mk 0 ⟨#[]⟩ 0 false [] [], by rw [HF.out]; rfl, ?_, ?_, ?_⟩
      · exact TreeAt.leaf _ _ _ _ _ _ _ _ _ _
      · intro u hu; rw [HF.out] at hu; cases hu
      · go_grown

/-! ### Scalar -/
def scalarT (t : T) : Bool :=
  if t.keys.length ≠ 0 ∨ t.kids.length ≠ 0 then false
  else if t.kind = 1 then !t.text.toList.isEmpty
  else if t.kind = 2 then fin t.num
  else t.kind == 3

set_option maxHeartbeats 400000 in
theorem scalar_any (ok : Nat → Prop) (t : T) (v : Value) (w : World) (hv : TreeAt w ok v t) : Calls Tryz.prog 10 #[v] w (RetBool w (scalarT t)) := by
  obtain ⟨ka, kc, ta, tc, cc, rfl, -, -, -, -, -⟩ := hv.open
  have H := hide (show scalarT t = scalarT t from rfl)
  clear hv
  have key : ∀ b, scalarT t = b → Calls Tryz.prog 10 #[.agg #[.int .i64 t.kind, .string t.text, .float .f64 t.num, .bool t.yes, .slice ka t.keys.length kc, .slice ta t.kids.length tc]] w (RetBool w b) := by
    intro b hb
    unfold scalarT at hb
    have HB := hide hb
    clear hb
    generalize t.kind = k at *
    generalize t.keys.length = l at *
    generalize t.kids.length = m at *
    generalize t.text = tx at *
    generalize t.num = nn at *
    by_cases h1 : l = 0
    · subst h1
      by_cases h2 : m = 0
      · subst h2
        cases h3 : (k == 1)
        · cases h4 : (k == 2)
          · go_enter Tryz.func10, Tryz.ntmps10
            go_wp2
            go_returns
            refine ⟨ret_bool ?_, by go_grown⟩
            rw [← HB.out]
            simp at h3 h4
            simp [h3, h4]
          · go_enter Tryz.func10, Tryz.ntmps10
            go_wp2_with fail
            refine (finite_any nn _).mono ?_
            rintro e w' ⟨rfl, hb⟩
            go_wp2
            go_returns
            refine ⟨ret_bool ?_, (Below.alloc (Below.refl _ _) (Nat.le_refl _) _).trans (hb.mono (by simp))⟩
            rw [← HB.out]
            simp at h3 h4
            simp [h4]
        · go_enter Tryz.func10, Tryz.ntmps10
          go_wp2
          go_returns
          refine ⟨ret_bool ?_, by go_grown⟩
          rw [← HB.out]
          simp at h3
          simp [h3]
      · have h2' : 0 < m := by omega
        go_enter Tryz.func10, Tryz.ntmps10
        go_wp2
        go_returns
        refine ⟨ret_bool ?_, by go_grown⟩
        rw [← HB.out]
        simp [h2]
    · have h1' : 0 < l := by omega
      go_enter Tryz.func10, Tryz.ntmps10
      go_wp2
      go_returns
      refine ⟨ret_bool ?_, by go_grown⟩
      rw [← HB.out]
      simp [h1]
  exact key _ rfl

end Go.Proofs.YtbcnhcpgloncdaaGreatDoor
