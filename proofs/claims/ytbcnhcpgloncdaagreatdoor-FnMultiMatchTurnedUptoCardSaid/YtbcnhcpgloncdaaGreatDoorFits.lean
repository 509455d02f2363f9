/-
  THE CONTRACT OF spec.Fits at the four builders.
-/
import Derived.Test.YtbcnhcpgloncdaaGreatDoorFit
namespace Go.Proofs.YtbcnhcpgloncdaaGreatDoor
open Go.RowKit Go.Sort

/-- The kinds that the four builders have. -/
def okKind (k : List UInt8) : Bool := k == [116] || (k == [110] || (k == [119] || (k == [98] || (k == [102] || k == []))))

theorem fit_any (ok : Nat → Prop) (k : List UInt8) (hk : okKind k = true) (t : T) (v : Value) (w : World) (hv : TreeAt w ok v t) (hsz : t.text.size ≤ maxLen) :
    Calls Tryz.prog 27 #[.string (bs k), v] w (RetBool w (fitB k t)) := by
  unfold okKind at hk
  simp only [Bool.or_eq_true, beq_iff_eq] at hk
  rcases hk with rfl | rfl | rfl | rfl | rfl | rfl
  · exact fit_t ok t v w hv
  · exact fit_n ok t v w hv
  · exact fit_w ok t v w hv
  · exact fit_b ok t v w hv
  · exact fit_f ok t v w hv hsz
  · exact fit_none ok t v w hv

theorem kindF_ok {rs : List (List UInt8 × List UInt8)} (h : rs.all (fun r => okKind r.2) = true) (name : ByteArray) : okKind (kindF rs name) = true := by
  unfold kindF
  cases hf : rs.find? (fun r => eqB (bs r.1) name) with
  | none => rfl
  | some r => exact List.all_eq_true.1 h r (List.mem_of_find?_eq_some hf)

def fitsAt (B : Builder) (s : S) : Bool := fitB (kindF B.rows s.name) s.value
def fitsB (B : Builder) (ss : List S) : Bool := ss.all (fitsAt B)

/-- A region's class of worlds, met by a contract of the kind RetBool. -/
theorem Calls.regrown_bool {P : Program} {f : FuncId} {args : Array Value} {w : World} {d : Nat} {os : Array Obj} {b : Bool} (h : Calls P f args (grow (redrawn w d) os) (RetBool (grow (redrawn w d) os) b)) :
    Calls P f args (grow (redrawn w d) os) fun e w'' => e = .returned (.bool b) ∧ ∃ p : Regrown, w'' = grow (redrawn w p.d) p.os := Calls.regrown_of h

set_option maxHeartbeats 1000000 in
set_option maxRecDepth 100000 in
theorem fits_any (B : Builder) (hB : B.rows.all (fun r => okKind r.2) = true) (ok : Nat → Prop) (ss : List S) (v : Value) (w : World) (hv : SetsAt w ok v ss) (hl : ss.length ≤ 1073741824)
    (hsz : ∀ s ∈ ss, s.value.text.size ≤ maxLen) : Calls Tryz.prog 12 #[.string (bs B.nm), v] w (RetBool w (fitsB B ss)) := by
  have HV := hide hv
  obtain ⟨a, cap, c, rfl, hcap, hc, ht⟩ := hv
  have HSZ := hide hsz
  clear hsz
  have HK := hide (fun w => kindIn_any B (w := w))
  have HOK := hide (kindF_ok hB)
  clear hB
  have HFA : Hid (∀ s, fitsAt B s = fitB (kindF B.rows s.name) s.value) := hide (fun _ => rfl)
  have HFB : Hid (fitsB B ss = ss.all (fitsAt B)) := hide rfl
  generalize B.nm = nm at *
  go_enter Tryz.func12, Tryz.ntmps12
  go_wp2
  go_loopw [5] (fun i wr => ∃ k : Nat, k ≤ ss.length ∧ i = .int .i64 k ∧ Below w.heap.size w wr ∧ (∀ (j : Nat) s, j < k → ss[j]? = some s → fitsAt B s = true)) (fun i _ => ss.length - (intOf i).toNat)
  case atStart => exact ⟨0, Nat.zero_le _, rfl, Below.refl _ _, fun j s hj => absurd hj (by omega)⟩
  case round =>
    obtain ⟨k, hk, rfl, hbw, hno⟩ := hrel
    have HNO := hide hno
    clear hno
    have HVr := hide (HV.out.same (Same.of_below hbw))
    by_cases hlt : k < ss.length
    · obtain ⟨b, o, rfl, hb, hcell⟩ := hc k hlt
      obtain ⟨h0, htr⟩ := ht k ss[k] (by simp)
      have i1 : (0 : Int) ≤ (k : Int) := by omega
      have i3 : (k : Int) < (ss.length : Int) := by omega
      obtain ⟨ka, kc, ta, tc, cc, hv6, -⟩ := htr.open
      rw [hv6] at htr
      simp only [Value.agg.injEq, Array.mk.injEq, List.cons.injEq, and_true] at hv6
      obtain ⟨v1, v2, v3, v4, v5, v6⟩ := hv6
      have e0 := hcell 0 (by omega)
      have e1 := hcell 1 (by omega)
      have e2 := hcell 2 (by omega)
      have e3 := hcell 3 (by omega)
      have e4 := hcell 4 (by omega)
      have e5 := hcell 5 (by omega)
      have e6 := hcell 6 (by omega)
      rw [h0] at e0
      rw [v1] at e1; rw [v2] at e2; rw [v3] at e3; rw [v4] at e4; rw [v5] at e5; rw [v6] at e6
      simp only [Nat.add_zero] at e0
      have hbl : b < w.heap.size := World.block_lt_of_cell? w _ e0
      have k0 := cell_regrown ((hbw.cell hbl).trans e0)
      have k1 := cell_regrown ((hbw.cell hbl).trans e1)
      have k2 := cell_regrown ((hbw.cell hbl).trans e2)
      have k3 := cell_regrown ((hbw.cell hbl).trans e3)
      have k4 := cell_regrown ((hbw.cell hbl).trans e4)
      have k5 := cell_regrown ((hbw.cell hbl).trans e5)
      have k6 := cell_regrown ((hbw.cell hbl).trans e6)
      have htr' := htr.same (Same.of_below hbw)
      have hkd := HOK.out ss[k].name
      have hfa := HFA.out ss[k]
      have cK : ∀ d os, Calls Tryz.prog 28 #[.string (bs nm), .string ss[k].name] (grow (redrawn wr d) os) fun e w'' => e = .returned (.string (bs (kindF B.rows ss[k].name))) ∧ ∃ p : Regrown, w'' = grow (redrawn wr p.d) p.os := fun d os => Calls.regrown_of (HK.out _ _)
      generalize kindF B.rows ss[k].name = kd at *
      have cF : ∀ d os, Calls Tryz.prog 27 #[.string (bs kd), .agg #[.int .i64 ss[k].value.kind, .string ss[k].value.text, .float .f64 ss[k].value.num, .bool ss[k].value.yes, .slice ka ss[k].value.keys.length kc, .slice ta ss[k].value.kids.length tc]] (grow (redrawn wr d) os) fun e w'' => e = .returned (.bool (fitB kd ss[k].value)) ∧ ∃ p : Regrown, w'' = grow (redrawn wr p.d) p.os :=
        fun d os => Calls.regrown_bool (fit_any ok kd hkd _ _ _ (htr'.same (Same.of_below (below_regrown wr d os))) (HSZ.out _ (List.getElem_mem hlt)))
      have HFIN := hide hfa
      clear hc ht hcell h0 htr htr' e0 e1 e2 e3 e4 e5 e6 v1 v2 v3 v4 v5 v6 hkd hfa
      cases hq : fitB kd ss[k].value
      all_goals
        rw [hq] at cF
        have HQ := hide (HFIN.out.trans hq)
        go_wp2_with fail
        refine wp_region_quiet_below (by kernel_rfl) (by kernel_rfl) ?_
        repeat (first | go_big_quiet_step (first | exact cK _ _ | exact cF _ _) | quiet_step (first | exact cK _ _ | exact cF _ _))
        refine wpQuiet_nil ?_
        intro _ hw'
        obtain ⟨⟨dq, osq⟩, hw''⟩ := hw'
        subst hw''
        have hbq := hide (hbw.trans ((below_regrown wr dq osq).mono hbw.size))
        clear k0 k1 k2 k3 k4 k5 k6 cK cF
        generalize grow (redrawn wr dq) osq = wq at *
      · go_wp2
        go_returns
        refine ⟨ret_bool ?_, hbq.out⟩
        rw [HFB.out]
        symm
        rw [List.all_eq_false]
        exact ⟨ss[k], List.getElem_mem hlt, by rw [HQ.out]; simp⟩
      · go_wp2
        go_round
        case rel =>
          refine ⟨k + 1, by omega, by go_num, hbq.out, fun j s hj hs => ?_⟩
          rcases Nat.lt_succ_iff_lt_or_eq.1 hj with h | rfl
          · exact HNO.out j s h hs
          · rw [List.getElem?_eq_getElem hlt] at hs; cases hs; exact HQ.out
        case measure => simp [intOf]; omega
    · clear hc ht
      go_wp2
      go_returns
      refine ⟨ret_bool ?_, hbw⟩
      rw [HFB.out]
      symm
      rw [List.all_eq_true]
      intro s hs
      obtain ⟨j, hj⟩ := List.mem_iff_getElem?.1 hs
      exact HNO.out j s (by have := (List.getElem?_eq_some_iff.1 hj).1; omega) hj

theorem MM_ok : MM.rows.all (fun r => okKind r.2) = true := by decide +kernel
theorem CF_ok : CF.rows.all (fun r => okKind r.2) = true := by decide +kernel
theorem QS_ok : QS.rows.all (fun r => okKind r.2) = true := by decide +kernel
theorem SQ_ok : SQ.rows.all (fun r => okKind r.2) = true := by decide +kernel
end Go.Proofs.YtbcnhcpgloncdaaGreatDoor
