/-
  MORE CONTRACTS OF spec's SMALL FUNCTIONS: Has, Field, Fields, the sizes' look.
-/
import Derived.Test.YtbcnhcpgloncdaaGreatDoorSpa
namespace Go.Proofs.YtbcnhcpgloncdaaGreatDoor
open Go.RowKit

/-! ### Has -/
def hasB (ks : List ByteArray) (s : ByteArray) : Bool := ks.any (fun k => eqB k s)

theorem hasB_hit {ks : List ByteArray} {s : ByteArray} {k : Nat} (hk : k < ks.length) (h : eqB ks[k] s = true) : hasB ks s = true := by
  unfold hasB; rw [List.any_eq_true]; exact ⟨ks[k], List.getElem_mem hk, h⟩
theorem hasB_miss {ks : List ByteArray} {s : ByteArray} (h : ∀ (j : Nat) (k : ByteArray), ks[j]? = some k → eqB k s = false) : hasB ks s = false := by
  unfold hasB; rw [List.any_eq_false]; intro x hx
  obtain ⟨j, hj⟩ := List.mem_iff_getElem?.1 hx
  rw [h j x hj]; simp

set_option maxHeartbeats 400000 in
theorem has_any (ok : Nat → Prop) (ks : List ByteArray) (v : Value) (s : ByteArray) (w : World) (hv : StrsAt w ok v ks) (hl : ks.length ≤ 4611686018427387904) :
    Calls Tryz.prog 31 #[v, .string s] w fun e w' => e = .returned (.bool (hasB ks s)) ∧ w' = w := by
  obtain ⟨a, cap, rfl, hcap, hc⟩ := hv
  go_enter Tryz.func31, Tryz.ntmps31
  go_wp2
  go_loop [5] (fun i => ∃ k : Nat, k ≤ ks.length ∧ i = .int .i64 k ∧ (∀ j x, j < k → ks[j]? = some x → eqB x s = false)) (fun i => ks.length - (intOf i).toNat)
  case atStart => exact ⟨0, Nat.zero_le _, rfl, fun j x hj => absurd hj (by omega)⟩
  case round =>
    obtain ⟨k, hk, rfl, hno⟩ := hrel
    have HNO := hide hno
    clear hno
    by_cases hlt : k < ks.length
    · obtain ⟨b, o, rfl, hb, hcell⟩ := hc k ks[k] (by simp)
      clear hc
      cases hn : eqB ks[k] s
      · go_wp2
        go_round
        case rel =>
          refine ⟨k + 1, by omega, by go_num, fun j x hj hx => ?_⟩
          rcases Nat.lt_succ_iff_lt_or_eq.1 hj with h | rfl
          · exact HNO.out j x h hx
          · rw [List.getElem?_eq_getElem hlt] at hx; cases hx; exact hn
        case measure => simp [intOf]; omega
      · have HF := hide (hasB_hit hlt hn)
        go_wp2
        go_ret
        exact ⟨ret_bool (by rw [HF.out]), rfl⟩
    · have HF := hide (hasB_miss (ks := ks) (s := s) fun j x hx => HNO.out j x (by have := (List.getElem?_eq_some_iff.1 hx).1; omega) hx)
      clear hc
      go_wp2
      go_ret
      exact ⟨ret_bool (by rw [HF.out]), rfl⟩

/-! ### zzFits1, zzFits5: they return. -/
def SomeBoolSame (w : World) (e : Ending) (w' : World) : Prop := ∃ b, e = .returned (.bool b) ∧ w' = w

set_option maxHeartbeats 400000 in
theorem fits1_any (ok : Nat → Prop) (ks : List ByteArray) (v : Value) (w : World) (hv : StrsAt w ok v ks) (hl : ks.length ≤ 4611686018427387904) :
    Calls Tryz.prog 9 #[v] w (SomeBoolSame w) := by
  obtain ⟨a, cap, rfl, hcap, hc⟩ := hv
  by_cases hbig : 2147483647 < ks.length
  · clear hc
    go_enter Tryz.func9, Tryz.ntmps9
    go_wp2
    go_ret
    exact ⟨_, rfl, rfl⟩
  · go_enter Tryz.func9, Tryz.ntmps9
    go_wp2
    go_loop [10] (fun i => ∃ k : Nat, k ≤ ks.length ∧ i = .int .i64 k) (fun i => ks.length - (intOf i).toNat)
    case atStart => exact ⟨0, Nat.zero_le _, rfl⟩
    case round =>
      obtain ⟨k, hk, rfl⟩ := hrel
      by_cases hlt : k < ks.length
      · obtain ⟨b, o, rfl, hb, hcell⟩ := hc k ks[k] (by simp)
        clear hc
        by_cases hsz : 2147483647 < ks[k].size
        · go_wp2
          go_ret
          exact ⟨_, rfl, rfl⟩
        · go_wp2
          go_round
          case rel => exact ⟨k + 1, by omega, by go_num⟩
          case measure => simp [intOf]; omega
      · clear hc
        go_wp2
        go_ret
        exact ⟨_, rfl, rfl⟩

set_option maxHeartbeats 400000 in
theorem fits5_any (ok : Nat → Prop) (t : T) (v : Value) (w : World) (hv : TreeAt w ok v t) (hl : t.keys.length ≤ 4611686018427387904) :
    Calls Tryz.prog 8 #[v] w (SomeBool w) := by
  obtain ⟨ka, kc, ta, tc, cc, rfl, hkc, -, hk, -, -⟩ := hv.open
  have HK : Hid (StrsAt (w.alloc (.cells #[.int .i64 t.kind, .string t.text, .float .f64 t.num, .bool t.yes, .slice ka t.keys.length kc, .slice ta t.kids.length tc] 26)) ok (.slice ka t.keys.length kc) t.keys) :=
    hide (StrsAt.same (Same.of_below (by go_grown)) ⟨ka, kc, rfl, hkc, hk⟩)
  clear hk hv hkc
  generalize t.kind = k at *
  generalize t.keys = l at *
  generalize t.kids.length = m at *
  generalize t.text = tx at *
  generalize t.num = nn at *
  go_enter Tryz.func8, Tryz.ntmps8
  go_wp2_with fail
  · go_returns
    exact ⟨_, rfl, by go_grown⟩
  · refine (fits1_any ok l _ _ HK.out hl).mono ?_
    rintro e w' ⟨b, rfl, rfl⟩
    cases b
    · go_wp2
      go_returns
      exact ⟨_, rfl, by go_grown⟩
    · go_wp2
      all_goals
        go_returns
        exact ⟨_, rfl, by go_grown⟩

end Go.Proofs.YtbcnhcpgloncdaaGreatDoor
