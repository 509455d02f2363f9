/-
  CONTRACTS OF spec: Field, Is, Distinct, Fields, FieldNames, Back.
-/
import Derived.Test.YtbcnhcpgloncdaaGreatDoorSpb
import Derived.Test.YtbcnhcpgloncdaaGreatDoorOwn
import Derived.Deep.RegionHeld3
import Derived.BigQuiet
import Derived.Deep.QuietTactic
namespace Go.Proofs.YtbcnhcpgloncdaaGreatDoor
open Go.RowKit

/-- The names that stand beside fields. -/
def besides : List ByteArray := [⟨#[98, 111, 111, 115, 116]⟩, ⟨#[116, 121, 112, 101]⟩, ⟨#[100, 105, 115, 116, 97, 110, 99, 101]⟩, ⟨#[100, 105, 115, 116, 97, 110, 99, 101, 95, 116, 121, 112, 101]⟩, ⟨#[118, 97, 108, 105, 100, 97, 116, 105, 111, 110, 95, 109, 101, 116, 104, 111, 100]⟩, ⟨#[105, 103, 110, 111, 114, 101, 95, 117, 110, 109, 97, 112, 112, 101, 100]⟩, ⟨#[109, 117, 108, 116, 105, 95, 118, 97, 108, 117, 101, 95, 109, 111, 100, 101]⟩]

def fieldB (s : ByteArray) : Bool :=
  if h : 0 < s.size then
    if ((s[0].toNat : Int) == 95) then false
    else if placeN s.data.toList 94 < s.size then false
    else !hasB besides s
  else false

theorem besides_at (w : World) : StrsAt (w.alloc (.cells #[.string ⟨#[98, 111, 111, 115, 116]⟩, .string ⟨#[116, 121, 112, 101]⟩, .string ⟨#[100, 105, 115, 116, 97, 110, 99, 101]⟩, .string ⟨#[100, 105, 115, 116, 97, 110, 99, 101, 95, 116, 121, 112, 101]⟩, .string ⟨#[118, 97, 108, 105, 100, 97, 116, 105, 111, 110, 95, 109, 101, 116, 104, 111, 100]⟩, .string ⟨#[105, 103, 110, 111, 114, 101, 95, 117, 110, 109, 97, 112, 112, 101, 100]⟩, .string ⟨#[109, 117, 108, 116, 105, 95, 118, 97, 108, 117, 101, 95, 109, 111, 100, 101]⟩] 9)) (fun _ => True) (.slice (some ⟨w.heap.size, 0, none⟩) 7 7) besides := by
  refine ⟨_, _, rfl, by decide, fun i k hi => ⟨_, _, rfl, trivial, ?_⟩⟩
  rw [World.cell?_alloc_at _ _ _ _ rfl]
  match i, hi with
  | 0, hi => cases hi; rfl
  | 1, hi => cases hi; rfl
  | 2, hi => cases hi; rfl
  | 3, hi => cases hi; rfl
  | 4, hi => cases hi; rfl
  | 5, hi => cases hi; rfl
  | 6, hi => cases hi; rfl
  | n + 7, hi => simp [besides] at hi

set_option maxHeartbeats 400000 in
theorem field_any (s : ByteArray) (w : World) (hs : s.size ≤ maxLen) : Calls Tryz.prog 30 #[.string s] w (RetBool w (fieldB s)) := by
  have key : ∀ b, fieldB s = b → Calls Tryz.prog 30 #[.string s] w (RetBool w b) := by
    intro b hb
    unfold fieldB at hb
    have HB := hide hb
    clear hb
    by_cases h0 : 0 < s.size
    · have he : s.toList.isEmpty = false := by rw [ByteArray.toList_eq]; simpa using fun h => by simp [← ByteArray.size_data, h] at h0
      cases h1 : ((s[0].toNat : Int) == 95)
      · by_cases h2 : placeN s.data.toList 94 < s.size
        · have hd : decide (placeN s.data.toList 94 < s.size) = true := by simpa using h2
          go_enter Tryz.func30, Tryz.ntmps30
          go_wp2_with (first | (go_at_call 65; refine (place_any _ _ _ hs).mono ?_; rintro e w' ⟨rfl, rfl⟩))
          go_returns
          refine ⟨ret_bool ?_, Below.refl _ _⟩
          rw [← HB.out, dif_pos h0, if_neg (by rw [h1]; simp), if_pos h2]
        · have hd : decide (placeN s.data.toList 94 < s.size) = false := by simpa using h2
          go_enter Tryz.func30, Tryz.ntmps30
          go_wp2_with (first | (go_at_call 65; refine (place_any _ _ _ hs).mono ?_; rintro e w' ⟨rfl, rfl⟩))
          refine (has_any _ besides _ s _ (besides_at _) (by decide)).mono ?_
          rintro e w1 ⟨rfl, rfl⟩
          go_wp2
          go_returns
          refine ⟨ret_bool ?_, by go_grown⟩
          rw [← HB.out, dif_pos h0, if_neg (by rw [h1]; simp), if_neg h2]
      · go_enter Tryz.func30, Tryz.ntmps30
        go_wp2_with fail
        go_returns
        refine ⟨ret_bool ?_, Below.refl _ _⟩
        rw [← HB.out, dif_pos h0, if_pos h1]
    · have he : s.toList.isEmpty = true := by rw [ByteArray.toList_eq]; have : s.data.size = 0 := by simpa using h0
                                              simp [Array.eq_empty_of_size_eq_zero this]
      go_enter Tryz.func30, Tryz.ntmps30
      go_wp2_with fail
      go_returns
      refine ⟨ret_bool ?_, Below.refl _ _⟩
      rw [← HB.out, dif_neg h0]
  exact key _ rfl


/-! ### Is -/
set_option maxHeartbeats 400000 in
theorem is_any (ok : Nat → Prop) (ss : List S) (v : Value) (nm : ByteArray) (w : World) (hv : SetsAt w ok v ss) (hl : ss.length ≤ 4611686018427387904) :
    Calls Tryz.prog 13 #[v, .string nm] w (RetBool w (lastS ss nm).isSome) := by
  go_enter Tryz.func13, Tryz.ntmps13
  go_wp2_with fail
  refine (last_any ok ss v nm _ hv hl).mono ?_
  rintro e w1 ⟨tv, t, rfl, htr, -, hb⟩
  obtain ⟨a, cap, a', cap', c, rfl, -⟩ := htr.open
  generalize (lastS ss nm).isSome = q at *
  go_wp2
  go_returns
  exact ⟨rfl, hb.alloc hb.size _⟩

/-! ### Distinct -/
theorem SetsAt.take {w : World} {ok : Nat → Prop} {a : Option Addr} {cap cap' : Nat} {ss : List S} (h : SetsAt w ok (.slice a ss.length cap) ss) (k : Nat) (hk : k ≤ ss.length) (hk' : k ≤ cap') : SetsAt w ok (.slice a k cap') (ss.take k) := by
  obtain ⟨a', cap2, c, hv, hle, hc, ht⟩ := h
  cases hv
  refine ⟨a, cap', c, by rw [List.length_take, Nat.min_eq_left hk], by rw [List.length_take]; omega, fun i hi => hc i (by rw [List.length_take] at hi; omega), fun i s hi => ?_⟩
  rw [List.getElem?_take] at hi
  split at hi
  · exact ht i s hi
  · cases hi


def distinctB (ss : List S) : Bool := (List.range ss.length).all (fun i => !(lastS (ss.take i) (ss[i]?.getD default).name).isSome)

set_option maxHeartbeats 400000 in
theorem distinct_any (ok : Nat → Prop) (ss : List S) (v : Value) (w : World) (hv : SetsAt w ok v ss) (hl : ss.length ≤ 1073741824) :
    Calls Tryz.prog 11 #[v] w (RetBool w (distinctB ss)) := by
  have HV := hide hv
  obtain ⟨a, cap, c, rfl, hcap, hc, ht⟩ := hv
  go_enter Tryz.func11, Tryz.ntmps11
  go_wp2
  go_loopw [3] (fun i wr => ∃ k : Nat, k ≤ ss.length ∧ i = .int .i64 k ∧ Below w.heap.size w wr ∧ (∀ j, j < k → (lastS (ss.take j) (ss[j]?.getD default).name).isSome = false)) (fun i _ => ss.length - (intOf i).toNat)
  case atStart => exact ⟨0, Nat.zero_le _, rfl, Below.refl _ _, fun j hj => absurd hj (by omega)⟩
  case round =>
    obtain ⟨k, hk, rfl, hbw, hno⟩ := hrel
    have HNO := hide hno
    clear hno
    have HVr := hide (HV.out.same (Same.of_below hbw))
    by_cases hlt : k < ss.length
    · obtain ⟨b, o, rfl, hb, hcell⟩ := hc k hlt
      obtain ⟨h0, htr⟩ := ht k ss[k] (by simp)
      have i1 : (0 : Int) ≤ (k : Int) := by omega
      have i2 : (k : Int) ≤ (cap : Int) := by omega
      have i3 : (k : Int) < (ss.length : Int) := by omega
      have e0 := hcell 0 (by omega)
      have hbl : b < w.heap.size := World.block_lt_of_cell? w _ e0
      rw [h0] at e0
      simp only [Nat.add_zero] at e0
      have e0' : wr.cell? ⟨b, o + k * 7, none⟩ = some (.string ss[k].name) := (hbw.cell hbl).trans e0
      have hwr : b < wr.heap.size := by have := hbw.size; omega
      have HS := hide (SetsAt.take (cap' := cap) HVr.out k hk (by omega))
      have HK := hide (show (ss[k]?.getD default).name = ss[k].name by rw [List.getElem?_eq_getElem hlt]; rfl)
      clear hc ht hcell h0 htr e0
      go_wp2_with fail
      go_region_held3 (fun w' => w'.cell? ⟨b, o + k * 7, none⟩ = some (.string ss[k].name)) (first | go_keep | exact (hb1.cell (p := ⟨b, _, none⟩) hwr).trans e0') ((go_at_call 13; refine (is_any ok (ss.take k) _ _ _ (HS.out.same (Same.of_below (by go_grown))) (by rw [List.length_take]; omega)).mono ?_; rintro e w1 ⟨rfl, hb1⟩))
      all_goals
        have hbb := hide (hbw.trans ((Below.drew (Below.refl wr.heap.size wr)).trans hb1 |>.mono hbw.size))
      all_goals cases hq : (lastS (ss.take k) ss[k].name).isSome
      all_goals go_wp2_with fail
      · go_round
        case rel =>
          refine ⟨k + 1, by omega, by go_num, hbb.out, fun j hj => ?_⟩
          rcases Nat.lt_succ_iff_lt_or_eq.1 hj with h | rfl
          · exact HNO.out j h
          · rw [HK.out]; exact hq
        case measure => simp [intOf]; omega
      · go_returns
        refine ⟨ret_bool ?_, hbb.out⟩
        symm
        unfold distinctB
        rw [List.all_eq_false]
        exact ⟨k, List.mem_range.2 hlt, by rw [HK.out, hq]; simp⟩
    · clear hc ht
      go_wp2
      go_returns
      refine ⟨ret_bool ?_, hbw⟩
      symm
      unfold distinctB
      rw [List.all_eq_true]
      intro j hj
      rw [HNO.out j (by have := List.mem_range.1 hj; omega)]
      rfl
end Go.Proofs.YtbcnhcpgloncdaaGreatDoor
