/-
  THE CONTRACT OF spec.Same.
-/
import Derived.Test.YtbcnhcpgloncdaaGreatDoorA3
import Derived.Test.YtbcnhcpgloncdaaGreatDoorA4
namespace Go.Proofs.YtbcnhcpgloncdaaGreatDoor
open Go.RowKit Go.Sort Go.MapKept

/-- Go's == on float64. -/
abbrev feq (x y : Nat) : Bool := FloatKind.f64.format.order x y == some .eq
def keysB : List ByteArray → List ByteArray → Bool
  | [], _ => true
  | k :: ks, ls => match ls with
    | [] => true
    | l :: ls => eqB k l && keysB ks ls
mutual
  def sameB : T → T → Bool
    | .mk k t n y ks ts, b =>
      if k == b.kind && (ts.length == b.kids.length && ks.length == b.keys.length) then
        if k == 1 then eqB t b.text else if k == 2 then feq n b.num else if k == 3 then y == b.yes else if k == 6 then false
        else keysB ks b.keys && sameL ts b.kids
      else false
  def sameL : List T → List T → Bool
    | [], _ => true
    | t :: ts, us => match us with
      | [] => true
      | u :: us => sameB t u && sameL ts us
end
theorem keysB_iff : ∀ {ks ls : List ByteArray}, ks.length = ls.length → (keysB ks ls = true ↔ ∀ (i : Nat) k l, ks[i]? = some k → ls[i]? = some l → eqB k l = true)
  | [], _, _ => by simp [keysB]
  | k :: ks, [], h => by simp at h
  | k :: ks, l :: ls, h => by
    simp only [keysB, Bool.and_eq_true]
    rw [keysB_iff (ks := ks) (ls := ls) (by simpa using h)]
    constructor
    · rintro ⟨h1, h2⟩ i k' l' hk hl
      cases i with
      | zero => simp at hk hl; subst hk; subst hl; exact h1
      | succ i => exact h2 i k' l' (by simpa using hk) (by simpa using hl)
    · intro h1
      exact ⟨h1 0 k l rfl rfl, fun i k' l' hk hl => h1 (i + 1) k' l' (by simpa using hk) (by simpa using hl)⟩
theorem sameL_iff : ∀ {ks ls : List T}, ks.length = ls.length → (sameL ks ls = true ↔ ∀ (i : Nat) k l, ks[i]? = some k → ls[i]? = some l → sameB k l = true)
  | [], _, _ => by simp [sameL]
  | k :: ks, [], h => by simp at h
  | k :: ks, l :: ls, h => by
    simp only [sameL, Bool.and_eq_true]
    rw [sameL_iff (ks := ks) (ls := ls) (by simpa using h)]
    constructor
    · rintro ⟨h1, h2⟩ i k' l' hk hl
      cases i with
      | zero => simp at hk hl; subst hk; subst hl; exact h1
      | succ i => exact h2 i k' l' (by simpa using hk) (by simpa using hl)
    · intro h1
      exact ⟨h1 0 k l rfl rfl, fun i k' l' hk hl => h1 (i + 1) k' l' (by simpa using hk) (by simpa using hl)⟩
theorem sameB_eq (a b : T) : sameB a b = if a.kind == b.kind && (a.kids.length == b.kids.length && a.keys.length == b.keys.length) then
        if a.kind == 1 then eqB a.text b.text else if a.kind == 2 then feq a.num b.num else if a.kind == 3 then a.yes == b.yes else if a.kind == 6 then false
        else keysB a.keys b.keys && sameL a.kids b.kids
      else false := by
  cases a; rw [sameB]; rfl
mutual
  /-- How much a tree holds. -/
  def wT : T → Nat
    | .mk _ _ _ _ ks ts => 1 + ks.length + wL ts
  def wL : List T → Nat
    | [] => 0
    | t :: ts => 1 + wT t + wL ts
end
theorem wL_len : ∀ ts : List T, ts.length ≤ wL ts
  | [] => Nat.le_refl _
  | t :: ts => by have := wL_len ts; simp only [wL, List.length_cons]; omega
theorem wL_mem : ∀ {ts : List T} {t : T}, t ∈ ts → wT t < wL ts
  | u :: us, t, h => by
    simp only [wL]
    rcases List.mem_cons.1 h with rfl | h
    · omega
    · have := wL_mem h; omega
theorem wT_eq (t : T) : wT t = 1 + t.keys.length + wL t.kids := by cases t; rw [wT]; rfl

set_option maxHeartbeats 4000000 in
set_option maxRecDepth 100000 in
theorem same_any : ∀ (n : Nat) (a b : T), n ≤ 1073741824 → wT a ≤ n → ∀ (ok ok' : Nat → Prop) (va vb : Value) (w : World), TreeAt w ok va a → TreeAt w ok' vb b → Calls Tryz.prog 18 #[va, vb] w (RetBool w (sameB a b))
  | 0, a, b, _, hn => by rw [wT_eq] at hn; omega
  | n + 1, a, b, hs, hn => by
    intro ok ok' va vb w ha hb
    have HA := hide ha
    have HB := hide hb
    obtain ⟨ka, kac, ta, tac, ca, rfl, hkac, htac, hka, hca, hta⟩ := ha.open
    obtain ⟨kb, kbc, tb, tbc, cb, rfl, hkbc, htbc, hkb, hcb, htb⟩ := hb.open
    have HKA := hide hka
    have HCA := hide hca
    have HTA := hide hta
    have HKB := hide hkb
    have HCB := hide hcb
    have HTB := hide htb
    have HEQ := hide (sameB_eq a b)
    have IH := hide (fun a b => same_any n a b (by omega))
    have hwk : a.keys.length ≤ 1073741824 := by rw [wT_eq] at hn; omega
    have hwl : a.kids.length ≤ 1073741824 := by rw [wT_eq] at hn; have := wL_len a.kids; omega
    have HWK : Hid (∀ t, t ∈ a.kids → wT t ≤ n) := hide (fun t ht => by rw [wT_eq] at hn; have := wL_mem ht; omega)
    clear ha hb hka hca hta hkb hcb htb hn hs
    cases h1 : (a.kind != b.kind)
    case true =>
      have HF : Hid (sameB a b = false) := hide (by rw [HEQ.out, show (a.kind == b.kind) = false by simpa [bne] using h1]; rfl)
      go_enter Tryz.func18, Tryz.ntmps18
      go_wp2_with fail
      go_returns
      exact ⟨ret_bool (by rw [HF.out]), by go_grown⟩
    cases h2 : ((a.kids.length : Int) != (b.kids.length : Int))
    case true =>
      have HF : Hid (sameB a b = false) := hide (by
        have e : (a.kids.length == b.kids.length) = false := by simp at h2 ⊢; omega
        rw [HEQ.out, e]; simp)
      go_enter Tryz.func18, Tryz.ntmps18
      go_wp2_with fail
      go_returns
      exact ⟨ret_bool (by rw [HF.out]), by go_grown⟩
    cases h3 : ((a.keys.length : Int) != (b.keys.length : Int))
    case true =>
      have HF : Hid (sameB a b = false) := hide (by
        have e : (a.keys.length == b.keys.length) = false := by simp at h3 ⊢; omega
        rw [HEQ.out, e]; simp)
      go_enter Tryz.func18, Tryz.ntmps18
      go_wp2_with fail
      go_returns
      exact ⟨ret_bool (by rw [HF.out]), by go_grown⟩
    have hlk : a.kids.length = b.kids.length := by simp at h2; omega
    have hly : a.keys.length = b.keys.length := by simp at h3; omega
    have HEQ2 : Hid (sameB a b = if a.kind == 1 then eqB a.text b.text else if a.kind == 2 then feq a.num b.num else if a.kind == 3 then a.yes == b.yes else if a.kind == 6 then false else keysB a.keys b.keys && sameL a.kids b.kids) := hide (by
      rw [HEQ.out, show (a.kind == b.kind) = true by simpa [bne] using h1, hlk, hly]; simp)
    have HLK := hide hlk
    have HLY := hide hly
    clear hlk hly HEQ
    cases k1 : (a.kind == 1)
    case true =>
      have HF : Hid (sameB a b = eqB a.text b.text) := hide (by rw [HEQ2.out, k1]; rfl)
      go_enter Tryz.func18, Tryz.ntmps18
      go_wp2_with fail
      go_returns
      exact ⟨ret_bool (by rw [HF.out]), by go_grown⟩
    cases k2 : (a.kind == 2)
    case true =>
      have HF : Hid (sameB a b = feq a.num b.num) := hide (by rw [HEQ2.out, k1, k2]; rfl)
      go_enter Tryz.func18, Tryz.ntmps18
      go_wp2_with fail
      go_returns
      exact ⟨ret_bool (by rw [HF.out]), by go_grown⟩
    cases k3 : (a.kind == 3)
    case true =>
      have HF : Hid (sameB a b = (a.yes == b.yes)) := hide (by rw [HEQ2.out, k1, k2, k3]; rfl)
      go_enter Tryz.func18, Tryz.ntmps18
      go_wp2_with fail
      go_returns
      exact ⟨ret_bool (by rw [HF.out]), by go_grown⟩
    cases k6 : (a.kind == 6)
    case true =>
      have HF : Hid (sameB a b = false) := hide (by rw [HEQ2.out, k1, k2, k3, k6]; rfl)
      go_enter Tryz.func18, Tryz.ntmps18
      go_wp2_with fail
      go_returns
      exact ⟨ret_bool (by rw [HF.out]), by go_grown⟩
    have HF : Hid (sameB a b = (keysB a.keys b.keys && sameL a.kids b.kids)) := hide (by rw [HEQ2.out, k1, k2, k3, k6]; rfl)
    clear HEQ2
    obtain ⟨W2, hW2⟩ : ∃ x, x = ((w.alloc (.cells #[.int .i64 a.kind, .string a.text, .float .f64 a.num, .bool a.yes, .slice ka a.keys.length kac, .slice ta a.kids.length tac] 26 (0, 0))).alloc (.cells #[.int .i64 b.kind, .string b.text, .float .f64 b.num, .bool b.yes, .slice kb b.keys.length kbc, .slice tb b.kids.length tbc] 26 (0, 0))) := ⟨_, rfl⟩
    have B2 : Hid (Below w.heap.size w W2) := hide (by rw [hW2]; go_grown)
    have S2 : W2.heap.size = w.heap.size + 2 := by rw [hW2]; simp
    have hS2 : w.heap.size + 2 ≤ W2.heap.size := by omega
    have hbA : Hid (W2.heap[w.heap.size]? = some (.cells #[.int .i64 a.kind, .string a.text, .float .f64 a.num, .bool a.yes, .slice ka a.keys.length kac, .slice ta a.kids.length tac] 26 (0, 0))) := hide (by rw [hW2, (MapKept.heap_alloc _ _).2 _ (by simp)]; exact heap_alloc_new _ _)
    have hbB : Hid (W2.heap[w.heap.size + 1]? = some (.cells #[.int .i64 b.kind, .string b.text, .float .f64 b.num, .bool b.yes, .slice kb b.keys.length kbc, .slice tb b.kids.length tbc] 26 (0, 0))) := hide (by rw [hW2]; have := heap_alloc_new (w.alloc (.cells #[.int .i64 a.kind, .string a.text, .float .f64 a.num, .bool a.yes, .slice ka a.keys.length kac, .slice ta a.kids.length tac] 26 (0, 0))) (.cells #[.int .i64 b.kind, .string b.text, .float .f64 b.num, .bool b.yes, .slice kb b.keys.length kbc, .slice tb b.kids.length tbc] 26 (0, 0)); simpa using this)
    have HW2 := hide hW2
    clear hW2 S2
    go_enter Tryz.func18, Tryz.ntmps18
    go_wp2_with fail
    rw [← HW2.out]
    go_loopw [5] (fun i wr => ∃ k : Nat, k ≤ a.keys.length ∧ i = .int .i64 k ∧ Below W2.heap.size W2 wr ∧ (∀ (j : Nat) x y, j < k → a.keys[j]? = some x → b.keys[j]? = some y → eqB x y = true)) (fun i _ => a.keys.length - (intOf i).toNat)
    case atStart => exact ⟨0, Nat.zero_le _, rfl, Below.refl _ _, fun j x y hj => absurd hj (by omega)⟩
    case round =>
      obtain ⟨k, hk, rfl, hbw, hno⟩ := hrel
      have HNO := hide hno
      have HBW := hide hbw
      have hsz : w.heap.size + 2 ≤ wr.heap.size := Nat.le_trans hS2 hbw.size
      have A4 : wr.cell? ⟨w.heap.size, 4, none⟩ = some (.slice ka a.keys.length kac) := by rw [cell_of_row wr _ 4 _ _ _ ((hbw.block _ (by omega)).trans hbA.out)]; rfl
      have A5 : wr.cell? ⟨w.heap.size, 5, none⟩ = some (.slice ta a.kids.length tac) := by rw [cell_of_row wr _ 5 _ _ _ ((hbw.block _ (by omega)).trans hbA.out)]; rfl
      have B4 : wr.cell? ⟨w.heap.size + 1, 4, none⟩ = some (.slice kb b.keys.length kbc) := by rw [cell_of_row wr _ 4 _ _ _ ((hbw.block _ (by omega)).trans hbB.out)]; rfl
      clear hno hbw
      by_cases hlt : k < a.keys.length
      · have hltb : k < b.keys.length := by rw [← HLY.out]; exact hlt
        obtain ⟨ba, oa, rfl, -, hcka⟩ := HKA.out k a.keys[k] (by simp)
        obtain ⟨bb, ob, rfl, -, hckb⟩ := HKB.out k b.keys[k] (by simp)
        have hbla : ba < w.heap.size := World.block_lt_of_cell? w _ hcka
        have hblb : bb < w.heap.size := World.block_lt_of_cell? w _ hckb
        have HBT := hide (B2.out.trans (HBW.out.mono B2.out.size))
        have ea : wr.cell? ⟨ba, oa + k, none⟩ = some (.string a.keys[k]) := (HBT.out.cell hbla).trans hcka
        have eb : wr.cell? ⟨bb, ob + k, none⟩ = some (.string b.keys[k]) := (HBT.out.cell hblb).trans hckb
        have i1 : (0 : Int) ≤ (k : Int) := by omega
        have i3 : (k : Int) < (a.keys.length : Int) := by omega
        have i4 : (k : Int) < (b.keys.length : Int) := by omega
        have K4 := cell_regrown A4
        have L4 := cell_regrown B4
        have KA := cell_regrown ea
        have KB := cell_regrown eb
        have HBQ := hide (fun d os => HBW.out.trans ((below_regrown wr d os).mono HBW.out.size))
        obtain ⟨x, hx⟩ : ∃ x, x = a.keys[k] := ⟨_, rfl⟩
        obtain ⟨y, hy⟩ : ∃ y, y = b.keys[k] := ⟨_, rfl⟩
        rw [← hx] at KA
        rw [← hy] at KB
        have HX := hide hx
        have HY := hide hy
        clear hcka hckb ea eb hx hy
        cases hq : (x.toList == y.toList)
        all_goals
          go_wp2_with fail
          refine wp_region_quiet_below (by kernel_rfl) (by kernel_rfl) ?_
          repeat (first | go_big_quiet_step (fail) | quiet_step (fail))
          refine wpQuiet_nil ?_
          intro _ hw'
          obtain ⟨⟨dq, osq⟩, hw''⟩ := hw'
          subst hw''
          have hbq := hide (HBQ.out dq osq)
          clear K4 L4 KA KB HBQ A4 A5 B4 HBW HBT
          generalize grow (redrawn wr dq) osq = wq at *
        · go_wp2
          go_returns
          refine ⟨ret_bool ?_, B2.out.trans (hbq.out.mono B2.out.size)⟩
          rw [HF.out]
          have : keysB a.keys b.keys = false := by
            rw [← Bool.not_eq_true, keysB_iff HLY.out]
            intro hall
            have := hall k x y (by rw [HX.out]; simp) (by rw [HY.out]; simp)
            unfold eqB at this
            rw [hq] at this
            cases this
          rw [this]; rfl
        · go_wp2
          go_round
          case rel =>
            refine ⟨k + 1, by omega, by go_num, hbq.out, fun j p q hj hp hq' => ?_⟩
            rcases Nat.lt_succ_iff_lt_or_eq.1 hj with h | rfl
            · exact HNO.out j p q h hp hq'
            · rw [List.getElem?_eq_getElem hlt] at hp
              rw [List.getElem?_eq_getElem hltb] at hq'
              cases hp; cases hq'
              rw [← HX.out, ← HY.out]
              exact hq
          case measure => simp [intOf]; omega
      · have HKY : Hid (keysB a.keys b.keys = true) := hide (by
          rw [keysB_iff HLY.out]
          exact fun i x y hx hy => HNO.out i x y (by have := (List.getElem?_eq_some_iff.1 hx).1; omega) hx hy)
        have HF2 : Hid (sameB a b = sameL a.kids b.kids) := hide (by rw [HF.out, HKY.out]; rfl)
        go_wp2_with fail
        clear A4 B4 A5
        go_loopw [6] (fun i wr => ∃ k : Nat, k ≤ a.kids.length ∧ i = .int .i64 k ∧ Below W2.heap.size W2 wr ∧ (∀ (j : Nat) x y, j < k → a.kids[j]? = some x → b.kids[j]? = some y → sameB x y = true)) (fun i _ => a.kids.length - (intOf i).toNat)
        case atStart => exact ⟨0, Nat.zero_le _, rfl, HBW.out, fun j x y hj => absurd hj (by omega)⟩
        case round =>
          obtain ⟨k2, hk2, rfl, hbw, hno⟩ := hrel
          have HNO2 := hide hno
          have HBW2 := hide hbw
          have hsz2 : w.heap.size + 2 ≤ wr.heap.size := Nat.le_trans hS2 hbw.size
          have A5 : wr.cell? ⟨w.heap.size, 5, none⟩ = some (.slice ta a.kids.length tac) := by rw [cell_of_row wr _ 5 _ _ _ ((hbw.block _ (by omega)).trans hbA.out)]; rfl
          have B5 : wr.cell? ⟨w.heap.size + 1, 5, none⟩ = some (.slice tb b.kids.length tbc) := by rw [cell_of_row wr _ 5 _ _ _ ((hbw.block _ (by omega)).trans hbB.out)]; rfl
          clear hno hbw
          by_cases hlt2 : k2 < a.kids.length
          · have hltb : k2 < b.kids.length := by rw [← HLK.out]; exact hlt2
            obtain ⟨ba, oa, rfl, -, hcka⟩ := HCA.out k2 hlt2
            obtain ⟨bb, ob, rfl, -, hckb⟩ := HCB.out k2 hltb
            have hta := HTA.out k2 a.kids[k2] (by simp)
            have htb := HTB.out k2 b.kids[k2] (by simp)
            have HWA := hide (HWK.out _ (List.getElem_mem hlt2))
            have HBT := hide (B2.out.trans (HBW2.out.mono B2.out.size))
            have hbla : ba < w.heap.size := World.block_lt_of_cell? w _ (hcka 0 (by omega))
            have hblb : bb < w.heap.size := World.block_lt_of_cell? w _ (hckb 0 (by omega))
            have ea := fun j hj => (HBT.out.cell (p := ⟨ba, oa + k2 * 6 + j, none⟩) hbla).trans (hcka j hj)
            have eb := fun j hj => (HBT.out.cell (p := ⟨bb, ob + k2 * 6 + j, none⟩) hblb).trans (hckb j hj)
            have i1 : (0 : Int) ≤ (k2 : Int) := by omega
            have i3 : (k2 : Int) < (a.kids.length : Int) := by omega
            have i4 : (k2 : Int) < (b.kids.length : Int) := by omega
            obtain ⟨x, hx⟩ : ∃ x, x = a.kids[k2] := ⟨_, rfl⟩
            obtain ⟨y, hy⟩ : ∃ y, y = b.kids[k2] := ⟨_, rfl⟩
            rw [← hx] at hta HWA
            rw [← hy] at htb
            have HX := hide hx
            have HY := hide hy
            obtain ⟨xa, xc, xb, xd, xe, hxv, -⟩ := hta.open
            obtain ⟨ya, yc, yb, yd, ye, hyv, -⟩ := htb.open
            rw [hxv] at hta
            rw [hyv] at htb
            simp only [Value.agg.injEq, Array.mk.injEq, List.cons.injEq, and_true] at hxv hyv
            obtain ⟨p0, p1, p2, p3, p4, p5⟩ := hxv
            obtain ⟨q0, q1, q2, q3, q4, q5⟩ := hyv
            have a0 := cell_regrown (ea 0 (by omega)); have a1 := cell_regrown (ea 1 (by omega)); have a2 := cell_regrown (ea 2 (by omega)); have a3 := cell_regrown (ea 3 (by omega)); have a4 := cell_regrown (ea 4 (by omega)); have a5 := cell_regrown (ea 5 (by omega))
            have b0 := cell_regrown (eb 0 (by omega)); have b1 := cell_regrown (eb 1 (by omega)); have b2 := cell_regrown (eb 2 (by omega)); have b3 := cell_regrown (eb 3 (by omega)); have b4 := cell_regrown (eb 4 (by omega)); have b5 := cell_regrown (eb 5 (by omega))
            rw [p0] at a0; rw [p1] at a1; rw [p2] at a2; rw [p3] at a3; rw [p4] at a4; rw [p5] at a5
            rw [q0] at b0; rw [q1] at b1; rw [q2] at b2; rw [q3] at b3; rw [q4] at b4; rw [q5] at b5
            simp only [Nat.add_zero] at a0 b0
            have K5 := cell_regrown A5
            have L5 := cell_regrown B5
            have HBQ := hide (fun d os => HBW2.out.trans ((below_regrown wr d os).mono HBW2.out.size))
            have cS := fun (d : Nat) (os : Array Obj) => Calls.regrown_bool (d := d) (os := os) (IH.out x y HWA.out ok ok' _ _ _ ((hta.same (Same.of_below HBT.out)).same (Same.of_below (below_regrown wr d os))) ((htb.same (Same.of_below HBT.out)).same (Same.of_below (below_regrown wr d os))))
            clear hcka hckb ea eb hx hy hta htb p0 p1 p2 p3 p4 p5 q0 q1 q2 q3 q4 q5
            cases hq : sameB x y
            all_goals
              rw [hq] at cS
              go_wp2_with fail
              refine wp_region_quiet_below (by kernel_rfl) (by kernel_rfl) ?_
              repeat (first | go_big_quiet_step (exact cS _ _) | quiet_step (exact cS _ _))
              refine wpQuiet_nil ?_
              intro _ hw'
              obtain ⟨⟨dq, osq⟩, hw''⟩ := hw'
              subst hw''
              have hbq := hide (HBQ.out dq osq)
              clear K5 L5 a0 a1 a2 a3 a4 a5 b0 b1 b2 b3 b4 b5 HBQ A5 B5 HBW2 HBT cS
              generalize grow (redrawn wr dq) osq = wq at *
            · go_wp2
              go_returns
              refine ⟨ret_bool ?_, B2.out.trans (hbq.out.mono B2.out.size)⟩
              rw [HF2.out]
              symm
              rw [← Bool.not_eq_true, sameL_iff HLK.out]
              intro hall
              have := hall k2 x y (by rw [HX.out]; simp) (by rw [HY.out]; simp)
              rw [hq] at this
              cases this
            · go_wp2
              go_round
              case rel =>
                refine ⟨k2 + 1, by omega, by go_num, hbq.out, fun j p q hj hp hq' => ?_⟩
                rcases Nat.lt_succ_iff_lt_or_eq.1 hj with h | rfl
                · exact HNO2.out j p q h hp hq'
                · rw [List.getElem?_eq_getElem hlt2] at hp
                  rw [List.getElem?_eq_getElem hltb] at hq'
                  cases hp; cases hq'
                  rw [← HX.out, ← HY.out]
                  exact hq
              case measure => simp [intOf]; omega
          · go_wp2
            go_returns
            refine ⟨ret_bool ?_, B2.out.trans (HBW2.out.mono B2.out.size)⟩
            rw [HF2.out]
            symm
            rw [sameL_iff HLK.out]
            exact fun i x y hx hy => HNO2.out i x y (by have := (List.getElem?_eq_some_iff.1 hx).1; omega) hx hy
end Go.Proofs.YtbcnhcpgloncdaaGreatDoor

/-
  THE TREE OF A MAP OF ENTRIES, WRITTEN OUT; A TREE IS SAME WITH ITSELF.
-/
namespace Go.Proofs.YtbcnhcpgloncdaaGreatDoor
open Go.RowKit

def nub : List (List UInt8) → List (List UInt8)
  | [] => []
  | x :: xs => if x ∈ nub xs then nub xs else x :: nub xs
theorem nub_mem : ∀ {xs : List (List UInt8)} {l : List UInt8}, l ∈ nub xs ↔ l ∈ xs
  | [], l => by simp [nub]
  | x :: xs, l => by
    unfold nub
    split
    · rename_i h
      rw [nub_mem, List.mem_cons]
      exact ⟨Or.inr, fun h' => h'.elim (fun e => by subst e; exact nub_mem.1 h) id⟩
    · rw [List.mem_cons, List.mem_cons, nub_mem]
theorem nub_nodup : ∀ xs : List (List UInt8), (nub xs).Nodup
  | [] => List.nodup_nil
  | x :: xs => by
    unfold nub
    split
    · exact nub_nodup xs
    · rename_i h
      exact List.nodup_cons.2 ⟨h, nub_nodup xs⟩
theorem nub_length : ∀ xs : List (List UInt8), (nub xs).length ≤ xs.length
  | [] => Nat.le_refl _
  | x :: xs => by
    have := nub_length xs
    unfold nub
    split <;> simp <;> omega

theorem lookL_isSome {α : Type} (E : List (ByteArray × α)) (l : List UInt8) : (lookL E (bs l)).isSome = true ↔ l ∈ E.map (fun p => p.1.data.toList) := by
  unfold lookL
  simp only [Option.isSome_map, List.find?_isSome, List.mem_reverse, List.mem_map]
  constructor
  · rintro ⟨p, hp, he⟩
    exact ⟨p, hp, congrArg (fun x : ByteArray => x.data.toList) ((eqB_iff _ _).1 he)⟩
  · rintro ⟨p, hp, he⟩
    refine ⟨p, hp, (eqB_iff _ _).2 ?_⟩
    cases hq : p.1 with
    | mk d => rw [hq] at he; subst he; rfl

/-- The keys of a map of entries, rising. -/
def mapKeys (E : List (ByteArray × T)) : List (List UInt8) := (nub (E.map (fun p => p.1.data.toList))).mergeSort fun x y => decide (x ≤ y)
theorem mapKeys_length (E : List (ByteArray × T)) : (mapKeys E).length ≤ E.length := by
  unfold mapKeys
  rw [List.length_mergeSort]
  exact Nat.le_trans (nub_length _) (by simp)
theorem mapKeys_mem (E : List (ByteArray × T)) (l : List UInt8) : l ∈ mapKeys E ↔ (lookL E (bs l)).isSome = true := by
  unfold mapKeys
  rw [lookL_isSome, (List.mergeSort_perm _ _).mem_iff, nub_mem]
theorem mapKeys_rise (E : List (ByteArray × T)) : (mapKeys E).Pairwise (· < ·) := by
  unfold mapKeys
  have tr : ∀ a b c : List UInt8, decide (a ≤ b) = true → decide (b ≤ c) = true → decide (a ≤ c) = true := fun a b c h1 h2 => by simp only [decide_eq_true_eq] at *; exact List.le_trans h1 h2
  have tot : ∀ a b : List UInt8, (decide (a ≤ b) || decide (b ≤ a)) = true := fun a b => by simp only [Bool.or_eq_true, decide_eq_true_eq]; exact List.le_total a b
  have hnd := (List.mergeSort_perm (nub (E.map (fun p => p.1.data.toList))) (fun x y => decide (x ≤ y))).nodup_iff.2 (nub_nodup _)
  refine ((List.pairwise_mergeSort tr tot _).and hnd).imp fun {a b} h => ?_
  rcases List.le_iff_lt_or_eq.1 (by simpa using h.1) with h1 | h1
  · exact h1
  · exact absurd h1 h.2

theorem mapTree_eq (E : List (ByteArray × T)) : mapTree E = .mk 5 ⟨#[]⟩ 0 false ((mapKeys E).map bs) ((mapKeys E).map fun l => (lookL E (bs l)).getD default) :=
  (IsMapT.eq ⟨mapKeys E, mapKeys_rise E, mapKeys_mem E, rfl⟩).symm

/-- Each kid is an entry's. -/
theorem mapTree_kid {E : List (ByteArray × T)} {u : T} (h : u ∈ (mapTree E).kids) : ∃ p ∈ E, u = p.2 := by
  rw [mapTree_eq] at h
  obtain ⟨l, hl, rfl⟩ := List.mem_map.1 (show u ∈ (mapKeys E).map fun l => (lookL E (bs l)).getD default from h)
  have h1 := (mapKeys_mem E l).1 hl
  cases hq : lookL E (bs l) with
  | none => rw [hq] at h1; cases h1
  | some t => exact ⟨_, lookL_mem hq, rfl⟩

/-! ### Same with itself -/
theorem keysB_self (ks : List ByteArray) : keysB ks ks = true := by
  rw [keysB_iff rfl]
  intro i k l h1 h2
  rw [h1] at h2; cases h2
  exact (eqB_iff _ _).2 rfl
theorem same_node {t : T} (h1 : t.kind ≠ 1) (h2 : t.kind ≠ 2) (h3 : t.kind ≠ 3) (h6 : t.kind ≠ 6) (hk : ∀ u ∈ t.kids, sameB u u = true) : sameB t t = true := by
  rw [sameB_eq]
  have e : sameL t.kids t.kids = true := by
    rw [sameL_iff rfl]
    intro i k l e1 e2
    rw [e1] at e2; cases e2
    exact hk k (List.mem_of_getElem? e1)
  simp [h1, h2, h3, h6, keysB_self, e]
theorem same_text (s : ByteArray) : sameB (tText s) (tText s) = true := by
  rw [sameB_eq]; simp [tText, T.kind, T.kids, T.keys, T.text, eqB]
theorem same_yes (y : Bool) : sameB (tYes y) (tYes y) = true := by
  rw [sameB_eq]; simp [tYes, T.kind, T.kids, T.keys, T.yes]
theorem same_num {x : Nat} (h : feq x x = true) : sameB (tNum x) (tNum x) = true := by
  rw [sameB_eq]
  have : feq (tNum x).num (tNum x).num = true := h
  simp only [this]
  simp [tNum, T.kind, T.kids, T.keys]
theorem same_list (ks : List ByteArray) : sameB (tList ks) (tList ks) = true :=
  same_node (by simp [tList, T.kind]) (by simp [tList, T.kind]) (by simp [tList, T.kind]) (by simp [tList, T.kind]) fun u hu => by
    obtain ⟨k, -, rfl⟩ := List.mem_map.1 (show u ∈ ks.map tText from hu)
    exact same_text k
theorem same_map {E : List (ByteArray × T)} (h : ∀ p ∈ E, sameB p.2 p.2 = true) : sameB (mapTree E) (mapTree E) = true := by
  have e : (mapTree E).kind = 5 := by rw [mapTree_eq]; rfl
  refine same_node (by rw [e]; decide) (by rw [e]; decide) (by rw [e]; decide) (by rw [e]; decide) fun u hu => ?_
  obtain ⟨p, hp, rfl⟩ := mapTree_kid hu
  exact h p hp

/-! ### How much it holds -/
theorem wL_le {M : Nat} : ∀ {ts : List T}, (∀ t ∈ ts, wT t ≤ M) → wL ts ≤ ts.length * (M + 1)
  | [], _ => by simp [wL]
  | t :: ts, h => by
    have h1 := h t (by simp)
    have h2 := wL_le (ts := ts) fun u hu => h u (List.mem_cons_of_mem _ hu)
    simp only [wL, List.length_cons, Nat.add_mul, Nat.one_mul]
    omega
theorem wT_map {E : List (ByteArray × T)} {M : Nat} (h : ∀ p ∈ E, wT p.2 ≤ M) : wT (mapTree E) ≤ 1 + E.length + E.length * (M + 1) := by
  rw [wT_eq]
  have h1 : (mapTree E).keys.length ≤ E.length := by rw [mapTree_eq]; show ((mapKeys E).map bs).length ≤ _; rw [List.length_map]; exact mapKeys_length E
  have h2 : (mapTree E).kids.length ≤ E.length := by rw [mapTree_eq]; show ((mapKeys E).map fun l => (lookL E (bs l)).getD default).length ≤ _; rw [List.length_map]; exact mapKeys_length E
  have h3 : wL (mapTree E).kids ≤ (mapTree E).kids.length * (M + 1) := wL_le fun t ht => by
    obtain ⟨p, hp, rfl⟩ := mapTree_kid ht
    exact h p hp
  have h4 : (mapTree E).kids.length * (M + 1) ≤ E.length * (M + 1) := Nat.mul_le_mul_right _ h2
  omega
theorem wT_text (s : ByteArray) : wT (tText s) = 1 := by rw [wT_eq]; rfl
theorem wT_num (x : Nat) : wT (tNum x) = 1 := by rw [wT_eq]; rfl
theorem wT_yes (y : Bool) : wT (tYes y) = 1 := by rw [wT_eq]; rfl
theorem wT_list (ks : List ByteArray) : wT (tList ks) ≤ 1 + ks.length * 2 := by
  rw [wT_eq]
  have h : wL (tList ks).kids ≤ (tList ks).kids.length * (1 + 1) := wL_le fun t ht => by
    obtain ⟨k, -, rfl⟩ := List.mem_map.1 (show t ∈ ks.map tText from ht)
    rw [wT_text]; exact Nat.le_refl _
  have e : (tList ks).kids.length = ks.length := by show (ks.map tText).length = _; simp
  have e2 : (tList ks).keys.length = 0 := rfl
  rw [e] at h
  omega
end Go.Proofs.YtbcnhcpgloncdaaGreatDoor

/-
  THE ORDER OF SETTINGS MAKES NO ODDS: the plain law.
-/
namespace Go.Proofs.YtbcnhcpgloncdaaGreatDoor
open Go.RowKit

theorem list_ext {a b : ByteArray} (h : a.data.toList = b.data.toList) : a = b := by
  cases a; cases b; simp_all
theorem nameOf_none {s : S} (h : nameOf s = none) : s.name.data.toList ≠ nField ∧ s.name.data.toList ≠ nBoost := by
  unfold nameOf at h
  split at h
  · cases h
  · rename_i hn
    rw [not_or] at hn
    refine ⟨fun e => hn.1 ((eqB_iff _ _).2 (list_ext e)), fun e => hn.2 ((eqB_iff _ _).2 (list_ext e))⟩

/-- A setting's place in the table. -/
def hit (tab : QTab) (s : S) : Option (List UInt8 × Nat × Nat) := tab.find? (fun r => r.1 == s.name.data.toList)
theorem hit_name {tab : QTab} {s : S} {r : List UInt8 × Nat × Nat} (h : hit tab s = some r) : r.1 = s.name.data.toList ∧ r ∈ tab := by
  have h1 := List.find?_some h
  exact ⟨by simpa using h1, List.mem_of_find?_eq_some h⟩

theorem stepQ_plain {tab : QTab} {q : Q} {s : S} (h : nameOf s = none) : stepQ tab q s = match hit tab s with
    | some r => { q with f := upd q.f r.2.1 (fvK r.2.2 s.value) }
    | none => q := by
  obtain ⟨h1, h2⟩ := nameOf_none h
  unfold stepQ
  rw [if_neg h1, if_neg h2]
  rfl

theorem upd_comm (f : Nat → FV) {i j : Nat} (h : i ≠ j) (u v : FV) : upd (upd f i u) j v = upd (upd f j v) i u := by
  funext k
  unfold upd
  by_cases e : k = j
  · subst e
    simp [Ne.symm h]
  · by_cases e' : k = i
    · subst e'; simp [e]
    · simp [e, e']

theorem step_comm1 {tab : QTab} {q : Q} {s s' : S} (hs : nameOf s = none) : stepQ tab (stepQ tab q s) s' = match hit tab s with
    | some r => (if nameOf s' = none then stepQ tab { q with f := upd q.f r.2.1 (fvK r.2.2 s.value) } s' else { stepQ tab q s' with f := upd (stepQ tab q s').f r.2.1 (fvK r.2.2 s.value) })
    | none => stepQ tab q s' := by
  rw [stepQ_plain hs]
  cases hit tab s with
  | none => rfl
  | some r =>
    dsimp only
    split
    · rfl
    · rename_i hn
      unfold stepQ
      split
      · rfl
      · split
        · rfl
        · rename_i h1 h2
          exfalso
          apply hn
          unfold nameOf
          rw [if_neg]
          rintro (h | h)
          · exact h1 (congrArg (fun x : ByteArray => x.data.toList) ((eqB_iff _ _).1 h))
          · exact h2 (congrArg (fun x : ByteArray => x.data.toList) ((eqB_iff _ _).1 h))

theorem step_comm {tab : QTab} (hd : tab.Pairwise (fun a b => a.2.1 ≠ b.2.1)) {q : Q} {s s' : S} (hn : s.name ≠ s'.name) (hf : nameOf s = none ∨ nameOf s' = none) : stepQ tab (stepQ tab q s) s' = stepQ tab (stepQ tab q s') s := by
  have two : ∀ {s s' : S}, s.name ≠ s'.name → nameOf s = none → stepQ tab (stepQ tab q s) s' = stepQ tab (stepQ tab q s') s := by
    intro s s' hn hs
    rw [step_comm1 hs, stepQ_plain (q := stepQ tab q s') hs]
    cases hh : hit tab s with
    | none => rfl
    | some r =>
      dsimp only
      split
      · rename_i hs'
        rw [stepQ_plain hs', stepQ_plain hs']
        cases hh' : hit tab s' with
        | none => rfl
        | some r' =>
          dsimp only
          have hne : r.2.1 ≠ r'.2.1 := by
            obtain ⟨n1, m1⟩ := hit_name hh
            obtain ⟨n2, m2⟩ := hit_name hh'
            obtain ⟨i, hi, e1⟩ := List.getElem_of_mem m1
            obtain ⟨j, hj, e2⟩ := List.getElem_of_mem m2
            have hp := List.pairwise_iff_getElem.1 hd
            rcases Nat.lt_trichotomy i j with h | h | h
            · rw [← e1, ← e2]; exact hp i j hi hj h
            · subst h
              rw [e1] at e2
              subst e2
              exact absurd (list_ext (n1.symm.trans n2)) hn
            · rw [← e1, ← e2]; exact Ne.symm (hp j i hj hi h)
          rw [upd_comm _ hne]
      · rfl
  rcases hf with h | h
  · exact two hn h
  · exact (two (Ne.symm hn) h).symm

theorem foldl_comm {α β : Type} {f : β → α → β} {s : α} : ∀ (ss : List α) (q : β), (∀ q, ∀ t ∈ ss, f (f q s) t = f (f q t) s) → f (ss.foldl f q) s = ss.foldl f (f q s)
  | [], _, _ => rfl
  | t :: ss, q, h => by
    simp only [List.foldl_cons]
    rw [foldl_comm ss (f q t) (fun q u hu => h q u (List.mem_cons_of_mem _ hu)), h q t (by simp)]
theorem foldl_reverse {α β : Type} {f : β → α → β} : ∀ (ss : List α) (q : β), ss.Pairwise (fun s t => ∀ q, f (f q s) t = f (f q t) s) → ss.reverse.foldl f q = ss.foldl f q
  | [], _, _ => rfl
  | s :: ss, q, h => by
    obtain ⟨h1, h2⟩ := List.pairwise_cons.1 h
    rw [List.reverse_cons, List.foldl_append, foldl_reverse ss q h2]
    show f (ss.foldl f q) s = ss.foldl f (f q s)
    exact foldl_comm ss q fun q t ht => h1 t ht q

theorem distinct_names {ss : List S} (h : distinctB ss = true) : ss.Pairwise (fun s t => s.name ≠ t.name) := by
  rw [List.pairwise_iff_getElem]
  intro i j hi hj hij e
  unfold distinctB at h
  rw [List.all_eq_true] at h
  have h1 := h j (by simpa using hj)
  simp only [Bool.not_eq_true', Option.isSome_eq_false_iff, List.getElem?_eq_getElem hj, Option.getD_some] at h1
  unfold lastS at h1
  simp only [Option.isNone_map, Option.isNone_iff_eq_none, List.find?_eq_none] at h1
  have := h1 ss[i] (by simp [List.mem_take_iff_getElem]; exact ⟨i, by omega, rfl⟩)
  exact this ((eqB_iff _ _).2 e)

theorem names_le_one {ss : List S} (h : (ss.filterMap nameOf).length ≤ 1) : ss.Pairwise (fun s t => nameOf s = none ∨ nameOf t = none) := by
  induction ss with
  | nil => exact List.Pairwise.nil
  | cons s ss ih =>
    refine List.pairwise_cons.2 ⟨fun t ht => ?_, ih ?_⟩
    · cases hs : nameOf s with
      | none => exact Or.inl rfl
      | some x =>
        right
        rw [List.filterMap_cons_some hs] at h
        have h0 : ss.filterMap nameOf = [] := List.eq_nil_of_length_eq_zero (by rw [List.length_cons] at h; omega)
        exact List.filterMap_eq_nil_iff.1 h0 t ht
    · cases hs : nameOf s with
      | none => rw [List.filterMap_cons_none hs] at h; exact h
      | some x => rw [List.filterMap_cons_some hs, List.length_cons] at h; omega

/-- Settings of other names, not two of them fields: turned round they do the same. -/
theorem runQ_reverse {tab : QTab} (hd : tab.Pairwise (fun a b => a.2.1 ≠ b.2.1)) {ss : List S} (h1 : distinctB ss = true) (h2 : (ss.filterMap nameOf).length ≤ 1) (q : Q) : runQ tab q ss.reverse = runQ tab q ss := by
  unfold runQ
  refine foldl_reverse ss q ?_
  exact ((distinct_names h1).and (names_le_one h2)).imp fun {s t} h q => step_comm hd h.1 h.2
end Go.Proofs.YtbcnhcpgloncdaaGreatDoor
