/-
  THE CONTRACT OF spec.KindsFit.
-/
import Derived.Test.YtbcnhcpgloncdaaGreatDoorA1
import Derived.Deep.RegionHeld3
namespace Go.Proofs.YtbcnhcpgloncdaaGreatDoor
open Go.RowKit Go.Sort

def kType : ByteArray := ⟨#[116, 121, 112, 101]⟩
def kTie : ByteArray := ⟨#[116, 105, 101, 95, 98, 114, 101, 97, 107, 101, 114]⟩
/-- The kinds of a multi_match query. -/
def kindsL : List ByteArray := [⟨#[98, 101, 115, 116, 95, 102, 105, 101, 108, 100, 115]⟩, ⟨#[109, 111, 115, 116, 95, 102, 105, 101, 108, 100, 115]⟩, ⟨#[99, 114, 111, 115, 115, 95, 102, 105, 101, 108, 100, 115]⟩, ⟨#[112, 104, 114, 97, 115, 101]⟩, ⟨#[112, 104, 114, 97, 115, 101, 95, 112, 114, 101, 102, 105, 120]⟩, ⟨#[98, 111, 111, 108, 95, 112, 114, 101, 102, 105, 120]⟩]
def isTie (s : S) : Bool := eqB s.name kTie
def tiedB (ss : List S) : Bool := ss.any isTie
/-- What is said of the setting at a place. -/
def kindOkAt (ss : List S) (i : Nat) : Bool := !(eqB (ss[i]?.getD default).name kType && (tiedB (ss.take (i + 1)) || !hasB kindsL (ss[i]?.getD default).value.text))
def kindsB (ss : List S) : Bool := (List.range ss.length).all (kindOkAt ss)

theorem tiedB_step {ss : List S} {k : Nat} (hk : k < ss.length) : tiedB (ss.take (k + 1)) = (tiedB (ss.take k) || eqB ss[k].name kTie) := by
  unfold tiedB
  rw [List.take_add_one, List.any_append, List.getElem?_eq_getElem hk]
  simp [isTie]

theorem kindsL_at (w : World) : StrsAt (w.alloc (.cells #[.string ⟨#[98, 101, 115, 116, 95, 102, 105, 101, 108, 100, 115]⟩, .string ⟨#[109, 111, 115, 116, 95, 102, 105, 101, 108, 100, 115]⟩, .string ⟨#[99, 114, 111, 115, 115, 95, 102, 105, 101, 108, 100, 115]⟩, .string ⟨#[112, 104, 114, 97, 115, 101]⟩, .string ⟨#[112, 104, 114, 97, 115, 101, 95, 112, 114, 101, 102, 105, 120]⟩, .string ⟨#[98, 111, 111, 108, 95, 112, 114, 101, 102, 105, 120]⟩] 9)) (fun _ => True) (.slice (some ⟨w.heap.size, 0, none⟩) 6 6) kindsL := by
  refine ⟨_, _, rfl, by decide, fun i k hi => ⟨_, _, rfl, trivial, ?_⟩⟩
  rw [World.cell?_alloc_at _ _ _ _ rfl]
  match i, hi with
  | 0, hi => cases hi; rfl
  | 1, hi => cases hi; rfl
  | 2, hi => cases hi; rfl
  | 3, hi => cases hi; rfl
  | 4, hi => cases hi; rfl
  | 5, hi => cases hi; rfl
  | n + 6, hi => simp [kindsL] at hi

theorem kindsL_any (w : World) : Calls Tryz.prog 93 #[] w (fun e w' => ∃ v, e = .returned v ∧ StrsAt w' (fun _ => True) v kindsL ∧ Below w.heap.size w w') := by
  go_enter Tryz.func93, Tryz.ntmps93
  go_wp2
  go_returns
  exact ⟨_, rfl, kindsL_at _, by go_grown⟩

set_option maxHeartbeats 8000000 in
theorem kindsFit_any (ok : Nat → Prop) (ss : List S) (v : Value) (w : World) (hv : SetsAt w ok v ss) (hl : ss.length ≤ 1073741824) :
    Calls Tryz.prog 24 #[v] w (RetBool w (kindsB ss)) := by
  have HV := hide hv
  obtain ⟨a, cap, c, rfl, hcap, hc, ht⟩ := hv
  go_enter Tryz.func24, Tryz.ntmps24
  go_wp2
  go_loopw [3, 4] (fun tied i wr => ∃ k : Nat, k ≤ ss.length ∧ tied = .bool (tiedB (ss.take k)) ∧ i = .int .i64 k ∧ Below w.heap.size w wr ∧ (∀ j, j < k → kindOkAt ss j = true)) (fun _ i _ => ss.length - (intOf i).toNat)
  case atStart => exact ⟨0, Nat.zero_le _, rfl, rfl, Below.refl _ _, fun j hj => absurd hj (by omega)⟩
  case round =>
    obtain ⟨k, hk, rfl, rfl, hbw, hno⟩ := hrel
    have HNO := hide hno
    clear hno
    by_cases hlt : k < ss.length
    · obtain ⟨b, o, rfl, hb, hcell⟩ := hc k hlt
      obtain ⟨h0, htr⟩ := ht k ss[k] (by simp)
      have i1 : (0 : Int) ≤ (k : Int) := by omega
      have i2 : (k : Int) ≤ (cap : Int) := by omega
      have i3 : (k : Int) < (ss.length : Int) := by omega
      have e0 := hcell 0 (by omega)
      have e2 := hcell 2 (by omega)
      obtain ⟨ka, kc, ta, tc, cc, hv6, -⟩ := htr.open
      simp only [Value.agg.injEq, Array.mk.injEq, List.cons.injEq, and_true] at hv6
      obtain ⟨v1, v2, v3, v4, v5, v6⟩ := hv6
      have hbl : b < w.heap.size := World.block_lt_of_cell? w _ e0
      rw [h0] at e0
      rw [v2] at e2
      simp only [Nat.add_zero] at e0
      have e0' : wr.cell? ⟨b, o + k * 7, none⟩ = some (.string ss[k].name) := (hbw.cell hbl).trans e0
      have e2' : wr.cell? ⟨b, o + k * 7 + 2, none⟩ = some (.string ss[k].value.text) := (hbw.cell hbl).trans e2
      have hwr : b < wr.heap.size := by have := hbw.size; omega
      have HK : Hid (kindOkAt ss k = !(eqB ss[k].name kType && (tiedB (ss.take (k + 1)) || !hasB kindsL ss[k].value.text))) := hide (by unfold kindOkAt; rw [List.getElem?_eq_getElem hlt]; rfl)
      have HS := hide (tiedB_step hlt)
      have HE1 : Hid (eqB ss[k].name kTie = (ss[k].name.toList == [116, 105, 101, 95, 98, 114, 101, 97, 107, 101, 114])) := hide (eqB_mk _ _)
      have HE2 : Hid (eqB ss[k].name kType = (ss[k].name.toList == [116, 121, 112, 101])) := hide (eqB_mk _ _)
      clear hc ht hcell h0 htr e0 e2 v1 v2 v3 v4 v5 v6
      have fin : ∀ (wx : World) (t1 : Bool), tiedB (ss.take (k + 1)) = t1 → Below w.heap.size w wx → kindOkAt ss k = true → ∃ j : Nat, j ≤ ss.length ∧ Value.bool t1 = .bool (tiedB (ss.take j)) ∧ Value.int .i64 ((k : Int) + 1) = .int .i64 j ∧ Below w.heap.size w wx ∧ (∀ i, i < j → kindOkAt ss i = true) := by
        intro wx t1 e hb2 hk2
        refine ⟨k + 1, by omega, by rw [e], by simp, hb2, fun j hj => ?_⟩
        rcases Nat.lt_succ_iff_lt_or_eq.1 hj with h | rfl
        · exact HNO.out j h
        · exact hk2
      have bad : kindOkAt ss k = false → false = kindsB ss := by
        intro h
        symm
        unfold kindsB
        rw [List.all_eq_false]
        exact ⟨k, List.mem_range.2 hlt, by rw [h]; simp⟩
      have FIN := hide fin
      have BAD := hide bad
      clear fin bad
      cases hT : tiedB (ss.take k) <;> cases hN : (ss[k].name.toList == [116, 105, 101, 95, 98, 114, 101, 97, 107, 101, 114]) <;> cases hY : (ss[k].name.toList == [116, 121, 112, 101])
      case false.false.true =>
        have HS2 : tiedB (ss.take (k + 1)) = false := HS.out.trans (by rw [hT, HE1.out, hN]; rfl)
        have HK2 := hide (HK.out.trans (show _ = hasB kindsL ss[k].value.text by rw [HE2.out, hY, HS2]; simp))
        go_wp2_with fail
        go_region_held3 (fun w' => w'.cell? ⟨b, o + k * 7, none⟩ = some (.string ss[k].name) ∧ w'.cell? ⟨b, o + k * 7 + 2, none⟩ = some (.string ss[k].value.text)) (first | go_keep | exact ⟨(hb1.cell (p := ⟨b, _, none⟩) hwr).trans e0', (hb1.cell (p := ⟨b, _, none⟩) hwr).trans e2'⟩) (first | (go_at_call 93; refine (kindsL_any _).mono ?_; rintro e w1 ⟨v1, rfl, hv1, hb1⟩; have HV1 := hide hv1; clear hv1) | (go_at_call 31; refine (has_any _ _ _ _ _ (HV1.out.same (Same.of_below (by go_grown))) (by decide)).mono ?_; rintro e w2 ⟨rfl, rfl⟩))
        all_goals
          have hbq := hide (hbw.trans ((((Below.refl wr.heap.size wr).drew).trans (hb1.mono (by simp))).mono hbw.size))
          clear hb1 HV1 e0' e2'
          cases hH : hasB kindsL ss[k].value.text
        all_goals go_wp2_with fail
        · go_returns
          exact ⟨ret_bool (BAD.out (HK2.out.trans hH)), hbq.out⟩
        · go_round
          case rel => exact FIN.out _ _ HS2 hbq.out (HK2.out.trans hH)
          case measure => simp [intOf]; omega
      all_goals
        have HS2 := hide (HS.out.trans (by rw [hT, HE1.out, hN]))
        have HK2 := hide (HK.out.trans (by rw [HE2.out, hY, HS2.out]))
        have K1 := cell_regrown e0'
        have HBQ := hide (fun d os => hbw.trans ((below_regrown wr d os).mono hbw.size))
        go_wp2_with fail
        refine wp_region_quiet_below (by kernel_rfl) (by kernel_rfl) ?_
        repeat (first | go_big_quiet_step (fail) | quiet_step (fail))
        refine wpQuiet_nil ?_
        intro _ hw'
        obtain ⟨⟨dq, osq⟩, hw''⟩ := hw'
        subst hw''
        have hbq := hide (HBQ.out dq osq)
        clear K1 HBQ e0' e2' hwr hbw
        generalize grow (redrawn wr dq) osq = wq at *
        go_wp2_with fail
      all_goals first
        | (go_round
           case rel => exact FIN.out _ _ (HS2.out.trans (by simp)) hbq.out (HK2.out.trans (by simp))
           case measure => simp [intOf]; omega)
        | (go_returns
           exact ⟨ret_bool (BAD.out (HK2.out.trans (by simp))), hbq.out⟩)
    · clear hc ht
      go_wp2
      go_returns
      refine ⟨ret_bool ?_, hbw⟩
      symm
      unfold kindsB
      rw [List.all_eq_true]
      intro j hj
      exact HNO.out j (by have := List.mem_range.1 hj; omega)
end Go.Proofs.YtbcnhcpgloncdaaGreatDoor
