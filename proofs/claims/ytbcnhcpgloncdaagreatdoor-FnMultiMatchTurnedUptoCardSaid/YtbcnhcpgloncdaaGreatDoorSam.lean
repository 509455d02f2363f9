/-
  THE CONTRACT OF spec.Same.
-/
import Derived.Test.YtbcnhcpgloncdaaGreatDoorQf
namespace Go.Proofs.YtbcnhcpgloncdaaGreatDoor
open Go.RowKit Go.Sort Go.MapKept

/-- Go's == on float64. -/
abbrev feq (x y : Nat) : Bool := FloatKind.f64.format.order x y == some .eq
def keysB : List ByteArray → List ByteArray → Bool
  | [], _ => true
  | k :: ks, ls => match ls with
    | [] => true
    | l :: ls => eqB k l && keysB ks ls
mutual
  def sameB : T → T → Bool
    | .mk k t n y ks ts, b =>
      if k == b.kind && (ts.length == b.kids.length && ks.length == b.keys.length) then
        if k == 1 then eqB t b.text else if k == 2 then feq n b.num else if k == 3 then y == b.yes else if k == 6 then false
        else keysB ks b.keys && sameL ts b.kids
      else false
  def sameL : List T → List T → Bool
    | [], _ => true
    | t :: ts, us => match us with
      | [] => true
      | u :: us => sameB t u && sameL ts us
end
theorem keysB_iff : ∀ {ks ls : List ByteArray}, ks.length = ls.length → (keysB ks ls = true ↔ ∀ (i : Nat) k l, ks[i]? = some k → ls[i]? = some l → eqB k l = true)
  | [], _, _ => by simp [keysB]
  | k :: ks, [], h => by simp at h
  | k :: ks, l :: ls, h => by
    simp only [keysB, Bool.and_eq_true]
    rw [keysB_iff (ks := ks) (ls := ls) (by simpa using h)]
    constructor
    · rintro ⟨h1, h2⟩ i k' l' hk hl
      cases i with
      | zero => simp at hk hl; subst hk; subst hl; exact h1
      | succ i => exact h2 i k' l' (by simpa using hk) (by simpa using hl)
    · intro h1
      exact ⟨h1 0 k l rfl rfl, fun i k' l' hk hl => h1 (i + 1) k' l' (by simpa using hk) (by simpa using hl)⟩
theorem sameL_iff : ∀ {ks ls : List T}, ks.length = ls.length → (sameL ks ls = true ↔ ∀ (i : Nat) k l, ks[i]? = some k → ls[i]? = some l → sameB k l = true)
  | [], _, _ => by simp [sameL]
  | k :: ks, [], h => by simp at h
  | k :: ks, l :: ls, h => by
    simp only [sameL, Bool.and_eq_true]
    rw [sameL_iff (ks := ks) (ls := ls) (by simpa using h)]
    constructor
    · rintro ⟨h1, h2⟩ i k' l' hk hl
      cases i with
      | zero => simp at hk hl; subst hk; subst hl; exact h1
      | succ i => exact h2 i k' l' (by simpa using hk) (by simpa using hl)
    · intro h1
      exact ⟨h1 0 k l rfl rfl, fun i k' l' hk hl => h1 (i + 1) k' l' (by simpa using hk) (by simpa using hl)⟩
theorem sameB_eq (a b : T) : sameB a b = if a.kind == b.kind && (a.kids.length == b.kids.length && a.keys.length == b.keys.length) then
        if a.kind == 1 then eqB a.text b.text else if a.kind == 2 then feq a.num b.num else if a.kind == 3 then a.yes == b.yes else if a.kind == 6 then false
        else keysB a.keys b.keys && sameL a.kids b.kids
      else false := by
  cases a; rw [sameB]; rfl
mutual
  /-- How much a tree holds. -/
  def wT : T → Nat
    | .mk _ _ _ _ ks ts => 1 + ks.length + wL ts
  def wL : List T → Nat
    | [] => 0
    | t :: ts => 1 + wT t + wL ts
end
theorem wL_len : ∀ ts : List T, ts.length ≤ wL ts
  | [] => Nat.le_refl _
  | t :: ts => by have := wL_len ts; simp only [wL, List.length_cons]; omega
theorem wL_mem : ∀ {ts : List T} {t : T}, t ∈ ts → wT t < wL ts
  | u :: us, t, h => by
    simp only [wL]
    rcases List.mem_cons.1 h with rfl | h
    · omega
    · have := wL_mem h; omega
theorem wT_eq (t : T) : wT t = 1 + t.keys.length + wL t.kids := by cases t; rw [wT]; rfl

set_option maxHeartbeats 4000000 in
set_option maxRecDepth 100000 in
theorem same_any : ∀ (n : Nat) (a b : T), n ≤ 1073741824 → wT a ≤ n → ∀ (ok ok' : Nat → Prop) (va vb : Value) (w : World), TreeAt w ok va a → TreeAt w ok' vb b → Calls Tryz.prog 18 #[va, vb] w (RetBool w (sameB a b))
  | 0, a, b, _, hn => by rw [wT_eq] at hn; omega
  | n + 1, a, b, hs, hn => by
    intro ok ok' va vb w ha hb
    have HA := hide ha
    have HB := hide hb
    obtain ⟨ka, kac, ta, tac, ca, rfl, hkac, htac, hka, hca, hta⟩ := ha.open
    obtain ⟨kb, kbc, tb, tbc, cb, rfl, hkbc, htbc, hkb, hcb, htb⟩ := hb.open
    have HKA := hide hka
    have HCA := hide hca
    have HTA := hide hta
    have HKB := hide hkb
    have HCB := hide hcb
    have HTB := hide htb
    have HEQ := hide (sameB_eq a b)
    have IH := hide (fun a b => same_any n a b (by omega))
    have hwk : a.keys.length ≤ 1073741824 := by rw [wT_eq] at hn; omega
    have hwl : a.kids.length ≤ 1073741824 := by rw [wT_eq] at hn; have := wL_len a.kids; omega
    have HWK : Hid (∀ t, t ∈ a.kids → wT t ≤ n) := hide (fun t ht => by rw [wT_eq] at hn; have := wL_mem ht; omega)
    clear ha hb hka hca hta hkb hcb htb hn hs
    cases h1 : (a.kind != b.kind)
    case true =>
      have HF : Hid (sameB a b = false) := hide (by rw [HEQ.out, show (a.kind == b.kind) = false by simpa [bne] using h1]; rfl)
      go_enter Tryz.func18, Tryz.ntmps18
      go_wp2_with fail
      go_returns
      exact ⟨ret_bool (by rw [HF.out]), by go_grown⟩
    cases h2 : ((a.kids.length : Int) != (b.kids.length : Int))
    case true =>
      have HF : Hid (sameB a b = false) := hide (by
        have e : (a.kids.length == b.kids.length) = false := by simp at h2 ⊢; omega
        rw [HEQ.out, e]; simp)
      go_enter Tryz.func18, Tryz.ntmps18
      go_wp2_with fail
      go_returns
      exact ⟨ret_bool (by rw [HF.out]), by go_grown⟩
    cases h3 : ((a.keys.length : Int) != (b.keys.length : Int))
    case true =>
      have HF : Hid (sameB a b = false) := hide (by
        have e : (a.keys.length == b.keys.length) = false := by simp at h3 ⊢; omega
        rw [HEQ.out, e]; simp)
      go_enter Tryz.func18, Tryz.ntmps18
      go_wp2_with fail
      go_returns
      exact ⟨ret_bool (by rw [HF.out]), by go_grown⟩
    have hlk : a.kids.length = b.kids.length := by simp at h2; omega
    have hly : a.keys.length = b.keys.length := by simp at h3; omega
    have HEQ2 : Hid (sameB a b = if a.kind == 1 then eqB a.text b.text else if a.kind == 2 then feq a.num b.num else if a.kind == 3 then a.yes == b.yes else if a.kind == 6 then false else keysB a.keys b.keys && sameL a.kids b.kids) := hide (by
      rw [HEQ.out, show (a.kind == b.kind) = true by simpa [bne] using h1, hlk, hly]; simp)
    have HLK := hide hlk
    have HLY := hide hly
    clear hlk hly HEQ
    cases k1 : (a.kind == 1)
    case true =>
      have HF : Hid (sameB a b = eqB a.text b.text) := hide (by rw [HEQ2.out, k1]; rfl)
      go_enter Tryz.func18, Tryz.ntmps18
      go_wp2_with fail
      go_returns
      exact ⟨ret_bool (by rw [HF.out]), by go_grown⟩
    cases k2 : (a.kind == 2)
    case true =>
      have HF : Hid (sameB a b = feq a.num b.num) := hide (by rw [HEQ2.out, k1, k2]; rfl)
      go_enter Tryz.func18, Tryz.ntmps18
      go_wp2_with fail
      go_returns
      exact ⟨ret_bool (by rw [HF.out]), by go_grown⟩
    cases k3 : (a.kind == 3)
    case true =>
      have HF : Hid (sameB a b = (a.yes == b.yes)) := hide (by rw [HEQ2.out, k1, k2, k3]; rfl)
      go_enter Tryz.func18, Tryz.ntmps18
      go_wp2_with fail
      go_returns
      exact ⟨ret_bool (by rw [HF.out]), by go_grown⟩
    cases k6 : (a.kind == 6)
    case true =>
      have HF : Hid (sameB a b = false) := hide (by rw [HEQ2.out, k1, k2, k3, k6]; rfl)
      go_enter Tryz.func18, Tryz.ntmps18
      go_wp2_with fail
      go_returns
      exact ⟨ret_bool (by rw [HF.out]), by go_grown⟩
    have HF : Hid (sameB a b = (keysB a.keys b.keys && sameL a.kids b.kids)) := hide (by rw [HEQ2.out, k1, k2, k3, k6]; rfl)
    clear HEQ2
    obtain ⟨W2, hW2⟩ : ∃ x, x = ((w.alloc (.cells #[.int .i64 a.kind, .string a.text, .float .f64 a.num, .bool a.yes, .slice ka a.keys.length kac, .slice ta a.kids.length tac] 26 (0, 0))).alloc (.cells #[.int .i64 b.kind, .string b.text, .float .f64 b.num, .bool b.yes, .slice kb b.keys.length kbc, .slice tb b.kids.length tbc] 26 (0, 0))) := ⟨_, rfl⟩
    have B2 : Hid (Below w.heap.size w W2) := hide (by rw [hW2]; go_grown)
    have S2 : W2.heap.size = w.heap.size + 2 := by rw [hW2]; simp
    have hS2 : w.heap.size + 2 ≤ W2.heap.size := by omega
    have hbA : Hid (W2.heap[w.heap.size]? = some (.cells #[.int .i64 a.kind, .string a.text, .float .f64 a.num, .bool a.yes, .slice ka a.keys.length kac, .slice ta a.kids.length tac] 26 (0, 0))) := hide (by rw [hW2, (MapKept.heap_alloc _ _).2 _ (by simp)]; exact heap_alloc_new _ _)
    have hbB : Hid (W2.heap[w.heap.size + 1]? = some (.cells #[.int .i64 b.kind, .string b.text, .float .f64 b.num, .bool b.yes, .slice kb b.keys.length kbc, .slice tb b.kids.length tbc] 26 (0, 0))) := hide (by rw [hW2]; have := heap_alloc_new (w.alloc (.cells #[.int .i64 a.kind, .string a.text, .float .f64 a.num, .bool a.yes, .slice ka a.keys.length kac, .slice ta a.kids.length tac] 26 (0, 0))) (.cells #[.int .i64 b.kind, .string b.text, .float .f64 b.num, .bool b.yes, .slice kb b.keys.length kbc, .slice tb b.kids.length tbc] 26 (0, 0)); simpa using this)
    have HW2 := hide hW2
    clear hW2 S2
    go_enter Tryz.func18, Tryz.ntmps18
    go_wp2_with fail
    rw [← HW2.out]
    go_loopw [5] (fun i wr => ∃ k : Nat, k ≤ a.keys.length ∧ i = .int .i64 k ∧ Below W2.heap.size W2 wr ∧ (∀ (j : Nat) x y, j < k → a.keys[j]? = some x → b.keys[j]? = some y → eqB x y = true)) (fun i _ => a.keys.length - (intOf i).toNat)
    case atStart => exact ⟨0, Nat.zero_le _, rfl, Below.refl _ _, fun j x y hj => absurd hj (by omega)⟩
    case round =>
      obtain ⟨k, hk, rfl, hbw, hno⟩ := hrel
      have HNO := hide hno
      have HBW := hide hbw
      have hsz : w.heap.size + 2 ≤ wr.heap.size := Nat.le_trans hS2 hbw.size
      have A4 : wr.cell? ⟨w.heap.size, 4, none⟩ = some (.slice ka a.keys.length kac) := by rw [cell_of_row wr _ 4 _ _ _ ((hbw.block _ (by omega)).trans hbA.out)]; rfl
      have A5 : wr.cell? ⟨w.heap.size, 5, none⟩ = some (.slice ta a.kids.length tac) := by rw [cell_of_row wr _ 5 _ _ _ ((hbw.block _ (by omega)).trans hbA.out)]; rfl
      have B4 : wr.cell? ⟨w.heap.size + 1, 4, none⟩ = some (.slice kb b.keys.length kbc) := by rw [cell_of_row wr _ 4 _ _ _ ((hbw.block _ (by omega)).trans hbB.out)]; rfl
      clear hno hbw
      by_cases hlt : k < a.keys.length
      · have hltb : k < b.keys.length := by rw [← HLY.out]; exact hlt
        obtain ⟨ba, oa, rfl, -, hcka⟩ := HKA.out k a.keys[k] (by simp)
        obtain ⟨bb, ob, rfl, -, hckb⟩ := HKB.out k b.keys[k] (by simp)
        have hbla : ba < w.heap.size := World.block_lt_of_cell? w _ hcka
        have hblb : bb < w.heap.size := World.block_lt_of_cell? w _ hckb
        have HBT := hide (B2.out.trans (HBW.out.mono B2.out.size))
        have ea : wr.cell? ⟨ba, oa + k, none⟩ = some (.string a.keys[k]) := (HBT.out.cell hbla).trans hcka
        have eb : wr.cell? ⟨bb, ob + k, none⟩ = some (.string b.keys[k]) := (HBT.out.cell hblb).trans hckb
        have i1 : (0 : Int) ≤ (k : Int) := by omega
        have i3 : (k : Int) < (a.keys.length : Int) := by omega
        have i4 : (k : Int) < (b.keys.length : Int) := by omega
        have K4 := cell_regrown A4
        have L4 := cell_regrown B4
        have KA := cell_regrown ea
        have KB := cell_regrown eb
        have HBQ := hide (fun d os => HBW.out.trans ((below_regrown wr d os).mono HBW.out.size))
        obtain ⟨x, hx⟩ : ∃ x, x = a.keys[k] := ⟨_, rfl⟩
        obtain ⟨y, hy⟩ : ∃ y, y = b.keys[k] := ⟨_, rfl⟩
        rw [← hx] at KA
        rw [← hy] at KB
        have HX := hide hx
        have HY := hide hy
        clear hcka hckb ea eb hx hy
        cases hq : (x.toList == y.toList)
        all_goals
          go_wp2_with fail
          refine wp_region_quiet_below (by kernel_rfl) (by kernel_rfl) ?_
          repeat (first | go_big_quiet_step (fail) | quiet_step (fail))
          refine wpQuiet_nil ?_
          intro _ hw'
          obtain ⟨⟨dq, osq⟩, hw''⟩ := hw'
          subst hw''
          have hbq := hide (HBQ.out dq osq)
          clear K4 L4 KA KB HBQ A4 A5 B4 HBW HBT
          generalize grow (redrawn wr dq) osq = wq at *
        · go_wp2
          go_returns
          refine ⟨ret_bool ?_, B2.out.trans (hbq.out.mono B2.out.size)⟩
          rw [HF.out]
          have : keysB a.keys b.keys = false := by
            rw [← Bool.not_eq_true, keysB_iff HLY.out]
            intro hall
            have := hall k x y (by rw [HX.out]; simp) (by rw [HY.out]; simp)
            unfold eqB at this
            rw [hq] at this
            cases this
          rw [this]; rfl
        · go_wp2
          go_round
          case rel =>
            refine ⟨k + 1, by omega, by go_num, hbq.out, fun j p q hj hp hq' => ?_⟩
            rcases Nat.lt_succ_iff_lt_or_eq.1 hj with h | rfl
            · exact HNO.out j p q h hp hq'
            · rw [List.getElem?_eq_getElem hlt] at hp
              rw [List.getElem?_eq_getElem hltb] at hq'
              cases hp; cases hq'
              rw [← HX.out, ← HY.out]
              exact hq
          case measure => simp [intOf]; omega
      · have HKY : Hid (keysB a.keys b.keys = true) := hide (by
          rw [keysB_iff HLY.out]
          exact fun i x y hx hy => HNO.out i x y (by have := (List.getElem?_eq_some_iff.1 hx).1; omega) hx hy)
        have HF2 : Hid (sameB a b = sameL a.kids b.kids) := hide (by rw [HF.out, HKY.out]; rfl)
        go_wp2_with fail
        clear A4 B4 A5
        go_loopw [6] (fun i wr => ∃ k : Nat, k ≤ a.kids.length ∧ i = .int .i64 k ∧ Below W2.heap.size W2 wr ∧ (∀ (j : Nat) x y, j < k → a.kids[j]? = some x → b.kids[j]? = some y → sameB x y = true)) (fun i _ => a.kids.length - (intOf i).toNat)
        case atStart => exact ⟨0, Nat.zero_le _, rfl, HBW.out, fun j x y hj => absurd hj (by omega)⟩
        case round =>
          obtain ⟨k2, hk2, rfl, hbw, hno⟩ := hrel
          have HNO2 := hide hno
          have HBW2 := hide hbw
          have hsz2 : w.heap.size + 2 ≤ wr.heap.size := Nat.le_trans hS2 hbw.size
          have A5 : wr.cell? ⟨w.heap.size, 5, none⟩ = some (.slice ta a.kids.length tac) := by rw [cell_of_row wr _ 5 _ _ _ ((hbw.block _ (by omega)).trans hbA.out)]; rfl
          have B5 : wr.cell? ⟨w.heap.size + 1, 5, none⟩ = some (.slice tb b.kids.length tbc) := by rw [cell_of_row wr _ 5 _ _ _ ((hbw.block _ (by omega)).trans hbB.out)]; rfl
          clear hno hbw
          by_cases hlt2 : k2 < a.kids.length
          · have hltb : k2 < b.kids.length := by rw [← HLK.out]; exact hlt2
            obtain ⟨ba, oa, rfl, -, hcka⟩ := HCA.out k2 hlt2
            obtain ⟨bb, ob, rfl, -, hckb⟩ := HCB.out k2 hltb
            have hta := HTA.out k2 a.kids[k2] (by simp)
            have htb := HTB.out k2 b.kids[k2] (by simp)
            have HWA := hide (HWK.out _ (List.getElem_mem hlt2))
            have HBT := hide (B2.out.trans (HBW2.out.mono B2.out.size))
            have hbla : ba < w.heap.size := World.block_lt_of_cell? w _ (hcka 0 (by omega))
            have hblb : bb < w.heap.size := World.block_lt_of_cell? w _ (hckb 0 (by omega))
            have ea := fun j hj => (HBT.out.cell (p := ⟨ba, oa + k2 * 6 + j, none⟩) hbla).trans (hcka j hj)
            have eb := fun j hj => (HBT.out.cell (p := ⟨bb, ob + k2 * 6 + j, none⟩) hblb).trans (hckb j hj)
            have i1 : (0 : Int) ≤ (k2 : Int) := by omega
            have i3 : (k2 : Int) < (a.kids.length : Int) := by omega
            have i4 : (k2 : Int) < (b.kids.length : Int) := by omega
            obtain ⟨x, hx⟩ : ∃ x, x = a.kids[k2] := ⟨_, rfl⟩
            obtain ⟨y, hy⟩ : ∃ y, y = b.kids[k2] := ⟨_, rfl⟩
            rw [← hx] at hta HWA
            rw [← hy] at htb
            have HX := hide hx
            have HY := hide hy
            obtain ⟨xa, xc, xb, xd, xe, hxv, -⟩ := hta.open
            obtain ⟨ya, yc, yb, yd, ye, hyv, -⟩ := htb.open
            rw [hxv] at hta
            rw [hyv] at htb
            simp only [Value.agg.injEq, Array.mk.injEq, List.cons.injEq, and_true] at hxv hyv
            obtain ⟨p0, p1, p2, p3, p4, p5⟩ := hxv
            obtain ⟨q0, q1, q2, q3, q4, q5⟩ := hyv
            have a0 := cell_regrown (ea 0 (by omega)); have a1 := cell_regrown (ea 1 (by omega)); have a2 := cell_regrown (ea 2 (by omega)); have a3 := cell_regrown (ea 3 (by omega)); have a4 := cell_regrown (ea 4 (by omega)); have a5 := cell_regrown (ea 5 (by omega))
            have b0 := cell_regrown (eb 0 (by omega)); have b1 := cell_regrown (eb 1 (by omega)); have b2 := cell_regrown (eb 2 (by omega)); have b3 := cell_regrown (eb 3 (by omega)); have b4 := cell_regrown (eb 4 (by omega)); have b5 := cell_regrown (eb 5 (by omega))
            rw [p0] at a0; rw [p1] at a1; rw [p2] at a2; rw [p3] at a3; rw [p4] at a4; rw [p5] at a5
            rw [q0] at b0; rw [q1] at b1; rw [q2] at b2; rw [q3] at b3; rw [q4] at b4; rw [q5] at b5
            simp only [Nat.add_zero] at a0 b0
            have K5 := cell_regrown A5
            have L5 := cell_regrown B5
            have HBQ := hide (fun d os => HBW2.out.trans ((below_regrown wr d os).mono HBW2.out.size))
            have cS := fun (d : Nat) (os : Array Obj) => Calls.regrown_bool (d := d) (os := os) (IH.out x y HWA.out ok ok' _ _ _ ((hta.same (Same.of_below HBT.out)).same (Same.of_below (below_regrown wr d os))) ((htb.same (Same.of_below HBT.out)).same (Same.of_below (below_regrown wr d os))))
            clear hcka hckb ea eb hx hy hta htb p0 p1 p2 p3 p4 p5 q0 q1 q2 q3 q4 q5
            cases hq : sameB x y
            all_goals
              rw [hq] at cS
              go_wp2_with fail
              refine wp_region_quiet_below (by kernel_rfl) (by kernel_rfl) ?_
              repeat (first | go_big_quiet_step (exact cS _ _) | quiet_step (exact cS _ _))
              refine wpQuiet_nil ?_
              intro _ hw'
              obtain ⟨⟨dq, osq⟩, hw''⟩ := hw'
              subst hw''
              have hbq := hide (HBQ.out dq osq)
              clear K5 L5 a0 a1 a2 a3 a4 a5 b0 b1 b2 b3 b4 b5 HBQ A5 B5 HBW2 HBT cS
              generalize grow (redrawn wr dq) osq = wq at *
            · go_wp2
              go_returns
              refine ⟨ret_bool ?_, B2.out.trans (hbq.out.mono B2.out.size)⟩
              rw [HF2.out]
              symm
              rw [← Bool.not_eq_true, sameL_iff HLK.out]
              intro hall
              have := hall k2 x y (by rw [HX.out]; simp) (by rw [HY.out]; simp)
              rw [hq] at this
              cases this
            · go_wp2
              go_round
              case rel =>
                refine ⟨k2 + 1, by omega, by go_num, hbq.out, fun j p q hj hp hq' => ?_⟩
                rcases Nat.lt_succ_iff_lt_or_eq.1 hj with h | rfl
                · exact HNO2.out j p q h hp hq'
                · rw [List.getElem?_eq_getElem hlt2] at hp
                  rw [List.getElem?_eq_getElem hltb] at hq'
                  cases hp; cases hq'
                  rw [← HX.out, ← HY.out]
                  exact hq
              case measure => simp [intOf]; omega
          · go_wp2
            go_returns
            refine ⟨ret_bool ?_, B2.out.trans (HBW2.out.mono B2.out.size)⟩
            rw [HF2.out]
            symm
            rw [sameL_iff HLK.out]
            exact fun i x y hx hy => HNO2.out i x y (by have := (List.getElem?_eq_some_iff.1 hx).1; omega) hx hy
end Go.Proofs.YtbcnhcpgloncdaaGreatDoor
