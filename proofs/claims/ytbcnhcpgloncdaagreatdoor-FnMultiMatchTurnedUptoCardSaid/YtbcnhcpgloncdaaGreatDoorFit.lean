/-
  THE CONTRACT OF spec.fit at the kinds that the four builders have.
-/
import Derived.Test.YtbcnhcpgloncdaaGreatDoorKin
import Derived.Test.YtbcnhcpgloncdaaGreatDoorFlb
namespace Go.Proofs.YtbcnhcpgloncdaaGreatDoor
open Go.RowKit Go.Sort
open Ieee (Datum)

abbrev geB (x c : Nat) : Bool := FloatKind.f64.format.order x c == some .gt || FloatKind.f64.format.order x c == some .eq
abbrev leB (x c : Nat) : Bool := FloatKind.f64.format.order x c == some .lt || FloatKind.f64.format.order x c == some .eq
/-- float64(int(x)) == x -/
def intEq (n : Nat) : Bool := match floatToIntVal .f64 n .i64 with
  | some m => FloatKind.f64.format.order (floatOfInt .f64 m) n == some .eq
  | none => false
abbrev f1e6 : Nat := 4696837146684686336
abbrev f64k : Nat := 4679028906605412352
abbrev f1 : Nat := 4607182418800017408
abbrev f64 : Nat := 4634204016564240384
def wholeB (n : Nat) : Bool := geB n 0 && (leB n f1e6 && intEq n)
def boostB (n : Nat) : Bool := match dbl.mul n f64 with
  | some p => geB p f1 && (leB p f64k && intEq p)
  | none => false

def fitB (kind : List UInt8) (t : T) : Bool :=
  if kind = [116] then t.kind == 1 && scalarT t
  else if kind = [110] then t.kind == 2 && scalarT t
  else if kind = [119] then t.kind == 2 && (scalarT t && wholeB t.num)
  else if kind = [98] then t.kind == 3 && scalarT t
  else if kind = [102] then t.kind == 1 && (scalarT t && (fieldB t.text && boostB t.num))
  else false

theorem geB_sc {x c : Nat} (hx : isNum x = true) (hc : isNum c = true) : geB x c = true ↔ sc c ≤ sc x := by
  unfold geB
  show (dbl.order x c == some .gt || dbl.order x c == some .eq) = true ↔ _
  rw [order_num hx hc]
  rcases Int.lt_trichotomy (sc x) (sc c) with h | h | h
  · rw [Int.compare_eq_lt.2 h]; simp; omega
  · rw [h]; simp
  · rw [Int.compare_eq_gt.2 h]; simp; omega
theorem leB_sc {x c : Nat} (hx : isNum x = true) (hc : isNum c = true) : leB x c = true ↔ sc x ≤ sc c := by
  unfold leB
  show (dbl.order x c == some .lt || dbl.order x c == some .eq) = true ↔ _
  rw [order_num hx hc]
  rcases Int.lt_trichotomy (sc x) (sc c) with h | h | h
  · rw [Int.compare_eq_lt.2 h]; simp; omega
  · rw [h]; simp
  · rw [Int.compare_eq_gt.2 h]; simp; omega
theorem sc_0 : sc 0 = 0 := by decide +kernel
theorem sc_1 : sc f1 = U := by decide +kernel
theorem sc_1e6 : sc f1e6 = 1000000 * U := by decide +kernel
theorem sc_64k : sc f64k = 64000 * U := by decide +kernel
theorem num_between {x a b : Nat} (ha : isNum a = true) (hb : isNum b = true) (h1 : geB x a = true) (h2 : leB x b = true) : isNum x = true := by
  unfold isNum at *
  unfold geB at h1
  unfold leB at h2
  simp only [show FloatKind.f64.format.order x a = (dbl.read x).order (dbl.read a) from rfl, show FloatKind.f64.format.order x b = (dbl.read x).order (dbl.read b) from rfl] at h1 h2
  cases hx : dbl.read x with
  | number s m i => rfl
  | infinity s =>
    rw [hx] at h1 h2
    cases ha' : dbl.read a <;> rw [ha'] at ha h1 <;> simp_all
    cases hb' : dbl.read b <;> rw [hb'] at hb h2 <;> simp_all
    cases s <;> simp_all [Datum.order]
  | nan s f =>
    rw [hx] at h1
    cases ha' : dbl.read a <;> rw [ha'] at ha h1 <;> simp_all [Datum.order]

/-- At a whole number in range the conversion is determined. -/
theorem whole_int {n : Nat} (hn : isNum n = true) (h0 : geB n 0 = true) (h1 : leB n f1e6 = true) : ∃ m, floatToIntVal .f64 n .i64 = some m ∧ 0 ≤ m ∧ m ≤ 1000000 := by
  have e0 := (geB_sc hn (by decide)).1 h0
  have e1 := (leB_sc hn (by decide)).1 h1
  rw [sc_0] at e0
  rw [sc_1e6] at e1
  exact ⟨_, int_small hn e0 e1⟩


set_option maxHeartbeats 1000000 in
set_option maxRecDepth 100000 in
theorem fit_t (ok : Nat → Prop) (t : T) (v : Value) (w : World) (hv : TreeAt w ok v t) : Calls Tryz.prog 27 #[.string (bs [116]), v] w (RetBool w (fitB [116] t)) := by
  obtain ⟨ka, kc, ta, tc, cc, rfl, -, -, -, -, -⟩ := hv.open
  have HV := hide (fun w' (hb : Below w.heap.size w w') => hv.same (Same.of_below hb))
  clear hv
  have hL : (bs [116]).toList = [116] := by rw [ByteArray.toList_eq]; rfl
  have key : ∀ b, fitB [116] t = b → Calls Tryz.prog 27 #[.string (bs [116]), .agg #[.int .i64 t.kind, .string t.text, .float .f64 t.num, .bool t.yes, .slice ka t.keys.length kc, .slice ta t.kids.length tc]] w (RetBool w b) := by
    intro b hb
    have HB := hide hb
    clear hb
    cases h1 : (t.kind == 1)
    · have HF : Hid (fitB [116] t = false) := hide (by simp [fitB, h1])
      go_enter Tryz.func27, Tryz.ntmps27
      go_wp2_with fail
      go_returns
      exact ⟨ret_bool (by rw [← HB.out, HF.out]), by go_grown⟩
    · have HF : Hid (fitB [116] t = scalarT t) := hide (by simp [fitB, h1])
      go_enter Tryz.func27, Tryz.ntmps27
      go_wp2_with fail
      refine (scalar_any ok t _ _ (HV.out _ (by go_grown))).mono ?_
      rintro e w1 ⟨rfl, hb1⟩
      go_wp2_with fail
      go_returns
      exact ⟨ret_bool (by rw [← HB.out, HF.out]), (Below.alloc (Below.refl _ _) (Nat.le_refl _) _).trans (hb1.mono (by simp))⟩

  exact key _ rfl

set_option maxHeartbeats 1000000 in
set_option maxRecDepth 100000 in
theorem fit_n (ok : Nat → Prop) (t : T) (v : Value) (w : World) (hv : TreeAt w ok v t) : Calls Tryz.prog 27 #[.string (bs [110]), v] w (RetBool w (fitB [110] t)) := by
  obtain ⟨ka, kc, ta, tc, cc, rfl, -, -, -, -, -⟩ := hv.open
  have HV := hide (fun w' (hb : Below w.heap.size w w') => hv.same (Same.of_below hb))
  clear hv
  have hL : (bs [110]).toList = [110] := by rw [ByteArray.toList_eq]; rfl
  have key : ∀ b, fitB [110] t = b → Calls Tryz.prog 27 #[.string (bs [110]), .agg #[.int .i64 t.kind, .string t.text, .float .f64 t.num, .bool t.yes, .slice ka t.keys.length kc, .slice ta t.kids.length tc]] w (RetBool w b) := by
    intro b hb
    have HB := hide hb
    clear hb
    cases h1 : (t.kind == 2)
    · have HF : Hid (fitB [110] t = false) := hide (by simp [fitB, h1])
      go_enter Tryz.func27, Tryz.ntmps27
      go_wp2_with fail
      go_returns
      exact ⟨ret_bool (by rw [← HB.out, HF.out]), by go_grown⟩
    · have HF : Hid (fitB [110] t = scalarT t) := hide (by simp [fitB, h1])
      go_enter Tryz.func27, Tryz.ntmps27
      go_wp2_with fail
      refine (scalar_any ok t _ _ (HV.out _ (by go_grown))).mono ?_
      rintro e w1 ⟨rfl, hb1⟩
      go_wp2_with fail
      go_returns
      exact ⟨ret_bool (by rw [← HB.out, HF.out]), (Below.alloc (Below.refl _ _) (Nat.le_refl _) _).trans (hb1.mono (by simp))⟩

  exact key _ rfl

set_option maxHeartbeats 1000000 in
set_option maxRecDepth 100000 in
theorem fit_b (ok : Nat → Prop) (t : T) (v : Value) (w : World) (hv : TreeAt w ok v t) : Calls Tryz.prog 27 #[.string (bs [98]), v] w (RetBool w (fitB [98] t)) := by
  obtain ⟨ka, kc, ta, tc, cc, rfl, -, -, -, -, -⟩ := hv.open
  have HV := hide (fun w' (hb : Below w.heap.size w w') => hv.same (Same.of_below hb))
  clear hv
  have hL : (bs [98]).toList = [98] := by rw [ByteArray.toList_eq]; rfl
  have key : ∀ b, fitB [98] t = b → Calls Tryz.prog 27 #[.string (bs [98]), .agg #[.int .i64 t.kind, .string t.text, .float .f64 t.num, .bool t.yes, .slice ka t.keys.length kc, .slice ta t.kids.length tc]] w (RetBool w b) := by
    intro b hb
    have HB := hide hb
    clear hb
    cases h1 : (t.kind == 3)
    · have HF : Hid (fitB [98] t = false) := hide (by simp [fitB, h1])
      go_enter Tryz.func27, Tryz.ntmps27
      go_wp2_with fail
      go_returns
      exact ⟨ret_bool (by rw [← HB.out, HF.out]), by go_grown⟩
    · have HF : Hid (fitB [98] t = scalarT t) := hide (by simp [fitB, h1])
      go_enter Tryz.func27, Tryz.ntmps27
      go_wp2_with fail
      refine (scalar_any ok t _ _ (HV.out _ (by go_grown))).mono ?_
      rintro e w1 ⟨rfl, hb1⟩
      go_wp2_with fail
      go_returns
      exact ⟨ret_bool (by rw [← HB.out, HF.out]), (Below.alloc (Below.refl _ _) (Nat.le_refl _) _).trans (hb1.mono (by simp))⟩

  exact key _ rfl

set_option maxHeartbeats 1000000 in
set_option maxRecDepth 100000 in
theorem fit_none (ok : Nat → Prop) (t : T) (v : Value) (w : World) (hv : TreeAt w ok v t) : Calls Tryz.prog 27 #[.string (bs []), v] w (RetBool w (fitB [] t)) := by
  obtain ⟨ka, kc, ta, tc, cc, rfl, -, -, -, -, -⟩ := hv.open
  have HV := hide (fun w' (hb : Below w.heap.size w w') => hv.same (Same.of_below hb))
  clear hv
  have hL : (bs []).toList = [] := by rw [ByteArray.toList_eq]; rfl
  have key : ∀ b, fitB [] t = b → Calls Tryz.prog 27 #[.string (bs []), .agg #[.int .i64 t.kind, .string t.text, .float .f64 t.num, .bool t.yes, .slice ka t.keys.length kc, .slice ta t.kids.length tc]] w (RetBool w b) := by
    intro b hb
    have HB := hide hb
    clear hb
    have HF : Hid (fitB [] t = false) := hide rfl
    go_enter Tryz.func27, Tryz.ntmps27
    go_wp2_with fail
    go_returns
    exact ⟨ret_bool (by rw [← HB.out, HF.out]), by go_grown⟩

  exact key _ rfl

set_option maxHeartbeats 1000000 in
set_option maxRecDepth 100000 in
theorem fit_w (ok : Nat → Prop) (t : T) (v : Value) (w : World) (hv : TreeAt w ok v t) : Calls Tryz.prog 27 #[.string (bs [119]), v] w (RetBool w (fitB [119] t)) := by
  obtain ⟨ka, kc, ta, tc, cc, rfl, -, -, -, -, -⟩ := hv.open
  have HV := hide (fun w' (hb : Below w.heap.size w w') => hv.same (Same.of_below hb))
  clear hv
  have hL : (bs [119]).toList = [119] := by rw [ByteArray.toList_eq]; rfl
  have key : ∀ b, fitB [119] t = b → Calls Tryz.prog 27 #[.string (bs [119]), .agg #[.int .i64 t.kind, .string t.text, .float .f64 t.num, .bool t.yes, .slice ka t.keys.length kc, .slice ta t.kids.length tc]] w (RetBool w b) := by
    intro b hb
    have HB := hide hb
    clear hb
    cases h1 : (t.kind == 2)
    · have HF : Hid (fitB [119] t = false) := hide (by simp [fitB, h1])
      go_enter Tryz.func27, Tryz.ntmps27
      go_wp2_with fail
      go_returns
      exact ⟨ret_bool (by rw [← HB.out, HF.out]), by go_grown⟩
    · have HF : Hid (fitB [119] t = (scalarT t && wholeB t.num)) := hide (by simp [fitB, h1])
      have hz : (Below w.heap.size w (w.alloc (.cells #[.int .i64 t.kind, .string t.text, .float .f64 t.num, .bool t.yes, .slice ka t.keys.length kc, .slice ta t.kids.length tc] 26))) := by go_grown
      cases hs : scalarT t
      · go_enter Tryz.func27, Tryz.ntmps27
        go_wp2_with fail
        refine (scalar_any ok t _ _ (HV.out _ (by go_grown))).mono ?_
        rw [hs]
        rintro e w1 ⟨rfl, hb1⟩
        go_wp2_with fail
        go_returns
        exact ⟨ret_bool (by rw [← HB.out, HF.out, hs]; rfl), hz.trans (hb1.mono (by simp))⟩
      · have hnum : Hid (isNum t.num = true) := hide (by
          have hs' := hs
          unfold scalarT at hs'
          split at hs'
          · cases hs'
          · have hk : t.kind = 2 := by simpa using h1
            rw [if_neg (by rw [hk]; decide), if_pos hk] at hs'
            rw [← fin_num]; exact hs')
        have hcell := fun (w1 : World) (hb1 : Below (w.alloc (.cells #[.int .i64 t.kind, .string t.text, .float .f64 t.num, .bool t.yes, .slice ka t.keys.length kc, .slice ta t.kids.length tc] 26)).heap.size (w.alloc (.cells #[.int .i64 t.kind, .string t.text, .float .f64 t.num, .bool t.yes, .slice ka t.keys.length kc, .slice ta t.kids.length tc] 26)) w1) =>
          show w1.cell? ⟨w.heap.size, 2, none⟩ = some (.float .f64 t.num) from (hb1.cell (p := ⟨w.heap.size, 2, none⟩) (by simp)).trans (by rw [World.cell?_alloc_at _ _ _ _ rfl]; rfl)
        have HC := hide hcell
        clear hcell
        cases hge : geB t.num 0
        · have HW : Hid (wholeB t.num = false) := hide (by unfold wholeB; rw [hge]; rfl)
          go_enter Tryz.func27, Tryz.ntmps27
          go_wp2_with fail
          refine (scalar_any ok t _ _ (HV.out _ (by go_grown))).mono ?_
          rw [hs]
          rintro e w1 ⟨rfl, hb1⟩
          have c2 := HC.out _ hb1
          go_wp2_with fail
          go_returns
          exact ⟨ret_bool (by rw [← HB.out, HF.out, hs, HW.out]; rfl), hz.trans (hb1.mono (by simp))⟩
        · cases hle : leB t.num f1e6
          · have HW : Hid (wholeB t.num = false) := hide (by unfold wholeB; rw [hge, hle]; rfl)
            go_enter Tryz.func27, Tryz.ntmps27
            go_wp2_with fail
            refine (scalar_any ok t _ _ (HV.out _ (by go_grown))).mono ?_
            rw [hs]
            rintro e w1 ⟨rfl, hb1⟩
            have c2 := HC.out _ hb1
            go_wp2_with fail
            go_returns
            exact ⟨ret_bool (by rw [← HB.out, HF.out, hs, HW.out]; rfl), hz.trans (hb1.mono (by simp))⟩
          · obtain ⟨m, hm, hm0, hm1⟩ := whole_int hnum.out hge hle
            have HW : Hid (wholeB t.num = (FloatKind.f64.format.order (floatOfInt .f64 m) t.num == some .eq)) := hide (by unfold wholeB intEq; rw [hge, hle, hm]; rfl)
            have hcv : ∀ w1 : World, (convert 22 3 (.float .f64 t.num)).run Tryz.prog w1 = .ok (.int .i64 m) w1 := fun w1 => run_convert_float_int (P := Tryz.prog) w1 22 3 .f64 .i64 t.num m (by kernel_rfl) Tryz.underlying3 hm
            have hcv2 : ∀ w1 : World, (convert 3 22 (.int .i64 m)).run Tryz.prog w1 = .ok (.float .f64 (floatOfInt .f64 m)) w1 := fun w1 => run_convert_int_float (P := Tryz.prog) w1 3 22 .i64 .f64 m (by kernel_rfl) Tryz.underlying22
            clear hm
            go_enter Tryz.func27, Tryz.ntmps27
            go_wp2_with fail
            refine (scalar_any ok t _ _ (HV.out _ (by go_grown))).mono ?_
            rw [hs]
            rintro e w1 ⟨rfl, hb1⟩
            have c2 := HC.out _ hb1
            go_wp2_with fail
            go_returns
            exact ⟨ret_bool (by rw [← HB.out, HF.out, hs, HW.out]; rfl), hz.trans (hb1.mono (by simp))⟩
  exact key _ rfl

/-- x * 64: some number, in this world or behind a draw. -/
theorem mul64_any (n : Nat) (w0 : World) : ∃ p wq, (binOp .mul 22 (.float .f64 n) (.float .f64 f64)).run Tryz.prog w0 = .ok (.float .f64 p) wq ∧ Below w0.heap.size w0 wq ∧ wq.heap.size = w0.heap.size ∧ boostB n = (geB p f1 && (leB p f64k && intEq p)) := by
  cases h : dbl.mul n f64 with
  | some p => exact ⟨p, w0, run_float_arith (P := Tryz.prog) w0 .mul 22 .f64 n f64 p h, Below.refl _ _, rfl, by unfold boostB; rw [h]⟩
  | none =>
    refine ⟨_, _, run_float_nan (P := Tryz.prog) w0 .mul 22 n f64 (by simp) h, (Below.refl _ _).drew, rfl, ?_⟩
    have hn : FloatKind.f64.format.order (nanOf (w0.tape w0.drawn (.nanBits .f64 n f64))) f1 = none := order_nan_left (read_nanOf _)
    unfold boostB geB
    rw [h, hn]
    rfl

theorem boost_int {p : Nat} (h0 : geB p f1 = true) (h1 : leB p f64k = true) : ∃ m, floatToIntVal .f64 p .i64 = some m ∧ 1 ≤ m ∧ m ≤ 64000 ∧ isNum p = true ∧ m = sc p / U := by
  have hn := num_between (by decide) (by decide) h0 h1
  have e0 := (geB_sc hn (by decide)).1 h0
  have e1 := (leB_sc hn (by decide)).1 h1
  rw [sc_1] at e0
  rw [sc_64k] at e1
  have hU := U_pos
  obtain ⟨a, b, c⟩ := int_small hn (by omega) (by omega)
  refine ⟨_, a, ?_, ?_, hn, rfl⟩
  · exact (Int.le_ediv_iff_mul_le hU).2 (by omega)
  · exact Int.ediv_le_of_le_mul hU (by omega)

set_option maxHeartbeats 2000000 in
set_option maxRecDepth 100000 in
theorem fit_f (ok : Nat → Prop) (t : T) (v : Value) (w : World) (hv : TreeAt w ok v t) (hsz : t.text.size ≤ maxLen) : Calls Tryz.prog 27 #[.string (bs [102]), v] w (RetBool w (fitB [102] t)) := by
  obtain ⟨ka, kc, ta, tc, cc, rfl, -, -, -, -, -⟩ := hv.open
  have HV := hide (fun w' (hb : Below w.heap.size w w') => hv.same (Same.of_below hb))
  clear hv
  have hL : (bs [102]).toList = [102] := by rw [ByteArray.toList_eq]; rfl
  have key : ∀ b, fitB [102] t = b → Calls Tryz.prog 27 #[.string (bs [102]), .agg #[.int .i64 t.kind, .string t.text, .float .f64 t.num, .bool t.yes, .slice ka t.keys.length kc, .slice ta t.kids.length tc]] w (RetBool w b) := by
    intro b hb
    have HB := hide hb
    clear hb
    have hz : Below w.heap.size w (w.alloc (.cells #[.int .i64 t.kind, .string t.text, .float .f64 t.num, .bool t.yes, .slice ka t.keys.length kc, .slice ta t.kids.length tc] 26)) := by go_grown
    have HZ := hide hz
    have hc0 : ∀ j u, (#[.int .i64 t.kind, .string t.text, .float .f64 t.num, .bool t.yes, .slice ka t.keys.length kc, .slice ta t.kids.length tc] : Array Value)[j]? = some u →
        (w.alloc (.cells #[.int .i64 t.kind, .string t.text, .float .f64 t.num, .bool t.yes, .slice ka t.keys.length kc, .slice ta t.kids.length tc] 26)).cell? ⟨w.heap.size, j, none⟩ = some u := fun j u hu => by
      rw [World.cell?_alloc_at _ _ _ _ rfl]; exact hu
    have hhs : (w.alloc (.cells #[.int .i64 t.kind, .string t.text, .float .f64 t.num, .bool t.yes, .slice ka t.keys.length kc, .slice ta t.kids.length tc] 26)).heap.size = w.heap.size + 1 := by simp
    obtain ⟨p, wq, hrun, hbq, hsq, hbo⟩ := mul64_any t.num (w.alloc (.cells #[.int .i64 t.kind, .string t.text, .float .f64 t.num, .bool t.yes, .slice ka t.keys.length kc, .slice ta t.kids.length tc] 26))
    have g0 := (hbq.cell (p := ⟨w.heap.size, 0, none⟩) (by simp)).trans (hc0 0 _ rfl)
    have g1 := (hbq.cell (p := ⟨w.heap.size, 1, none⟩) (by simp)).trans (hc0 1 _ rfl)
    have g2 := (hbq.cell (p := ⟨w.heap.size, 2, none⟩) (by simp)).trans (hc0 2 _ rfl)
    have g3 := (hbq.cell (p := ⟨w.heap.size, 3, none⟩) (by simp)).trans (hc0 3 _ rfl)
    have g4 := (hbq.cell (p := ⟨w.heap.size, 4, none⟩) (by simp)).trans (hc0 4 _ rfl)
    have g5 := (hbq.cell (p := ⟨w.heap.size, 5, none⟩) (by simp)).trans (hc0 5 _ rfl)
    have hq1 : wq.heap.size = w.heap.size + 1 := by rw [hsq, hhs]
    have HQ := hide (hz.trans (hbq.mono (by simp)))
    have HBO := hide hbo
    clear hz hc0 hhs hbq hsq hbo
    cases h1 : (t.kind == 1)
    · have HF : Hid (fitB [102] t = false) := hide (by simp [fitB, h1])
      go_enter Tryz.func27, Tryz.ntmps27
      go_wp2_with fail
      go_returns
      exact ⟨ret_bool (by rw [← HB.out, HF.out]), HQ.out⟩
    · have HF : Hid (fitB [102] t = (scalarT t && (fieldB t.text && boostB t.num))) := hide (by simp [fitB, h1])
      cases hs : scalarT t
      · go_enter Tryz.func27, Tryz.ntmps27
        go_wp2_with fail
        refine (scalar_any ok t _ _ (HV.out _ HQ.out)).mono ?_
        rw [hs]
        rintro e w1 ⟨rfl, hb1⟩
        go_wp2_with fail
        go_returns
        exact ⟨ret_bool (by rw [← HB.out, HF.out, hs]; rfl), HQ.out.trans (hb1.mono (by omega))⟩
      · have G1 := hide (fun (w1 : World) (hb1 : Below wq.heap.size wq w1) => (hb1.cell (p := ⟨w.heap.size, 1, none⟩) (by show w.heap.size < wq.heap.size; omega)).trans g1)
        have tail : Hid (∀ c, (fieldB t.text = c) → True) := hide (fun _ _ => trivial)
        cases hf : fieldB t.text
        · go_enter Tryz.func27, Tryz.ntmps27
          go_wp2_with fail
          refine (scalar_any ok t _ _ (HV.out _ HQ.out)).mono ?_
          rw [hs]
          rintro e w1 ⟨rfl, hb1⟩
          have k1 := G1.out w1 hb1
          go_wp2_with fail
          refine (field_any _ _ hsz).mono ?_
          rw [hf]
          rintro e w2 ⟨rfl, hb2⟩
          go_wp2_with fail
          go_returns
          exact ⟨ret_bool (by rw [← HB.out, HF.out, hs, hf]; rfl), HQ.out.trans ((hb1.mono (by omega)).trans (hb2.mono (by have := hb1.size; omega)))⟩
        · cases hge : geB p f1
          · have HW : Hid (boostB t.num = false) := hide (by rw [HBO.out, hge]; rfl)
            go_enter Tryz.func27, Tryz.ntmps27
            go_wp2_with fail
            refine (scalar_any ok t _ _ (HV.out _ HQ.out)).mono ?_
            rw [hs]
            rintro e w1 ⟨rfl, hb1⟩
            have k1 := G1.out w1 hb1
            go_wp2_with fail
            refine (field_any _ _ hsz).mono ?_
            rw [hf]
            rintro e w2 ⟨rfl, hb2⟩
            go_wp2_with fail
            go_returns
            exact ⟨ret_bool (by rw [← HB.out, HF.out, hs, hf, HW.out]; rfl), HQ.out.trans ((hb1.mono (by omega)).trans (hb2.mono (by have := hb1.size; omega)))⟩
          · cases hle : leB p f64k
            · have HW : Hid (boostB t.num = false) := hide (by rw [HBO.out, hge, hle]; rfl)
              go_enter Tryz.func27, Tryz.ntmps27
              go_wp2_with fail
              refine (scalar_any ok t _ _ (HV.out _ HQ.out)).mono ?_
              rw [hs]
              rintro e w1 ⟨rfl, hb1⟩
              have k1 := G1.out w1 hb1
              go_wp2_with fail
              refine (field_any _ _ hsz).mono ?_
              rw [hf]
              rintro e w2 ⟨rfl, hb2⟩
              go_wp2_with fail
              go_returns
              exact ⟨ret_bool (by rw [← HB.out, HF.out, hs, hf, HW.out]; rfl), HQ.out.trans ((hb1.mono (by omega)).trans (hb2.mono (by have := hb1.size; omega)))⟩
            · obtain ⟨m, hm, -⟩ := boost_int hge hle
              have HW : Hid (boostB t.num = (FloatKind.f64.format.order (floatOfInt .f64 m) p == some .eq)) := hide (by rw [HBO.out, hge, hle]; unfold intEq; rw [hm]; rfl)
              have hcv : ∀ w1 : World, (convert 22 3 (.float .f64 p)).run Tryz.prog w1 = .ok (.int .i64 m) w1 := fun w1 => run_convert_float_int (P := Tryz.prog) w1 22 3 .f64 .i64 p m (by kernel_rfl) Tryz.underlying3 hm
              have hcv2 : ∀ w1 : World, (convert 3 22 (.int .i64 m)).run Tryz.prog w1 = .ok (.float .f64 (floatOfInt .f64 m)) w1 := fun w1 => run_convert_int_float (P := Tryz.prog) w1 3 22 .i64 .f64 m (by kernel_rfl) Tryz.underlying22
              clear hm
              go_enter Tryz.func27, Tryz.ntmps27
              go_wp2_with fail
              refine (scalar_any ok t _ _ (HV.out _ HQ.out)).mono ?_
              rw [hs]
              rintro e w1 ⟨rfl, hb1⟩
              have k1 := G1.out w1 hb1
              go_wp2_with fail
              refine (field_any _ _ hsz).mono ?_
              rw [hf]
              rintro e w2 ⟨rfl, hb2⟩
              go_wp2_with fail
              go_returns
              exact ⟨ret_bool (by rw [← HB.out, HF.out, hs, hf, HW.out]; rfl), HQ.out.trans ((hb1.mono (by omega)).trans (hb2.mono (by have := hb1.size; omega)))⟩
  exact key _ rfl

end Go.Proofs.YtbcnhcpgloncdaaGreatDoor
