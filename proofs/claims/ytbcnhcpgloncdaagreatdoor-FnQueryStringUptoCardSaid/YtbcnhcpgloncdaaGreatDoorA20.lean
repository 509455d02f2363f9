/-
  WHAT THE ROW's LIST GIVES: the library's tables.
-/
import Derived.Test.YtbcnhcpgloncdaaGreatDoorB5
import Derived.Test.YtbcnhcpgloncdaaGreatDoorA1
import Derived.Test.YtbcnhcpgloncdaaGreatDoorA16
import Derived.Test.YtbcnhcpgloncdaaGreatDoorRows
import Derived.Lib.LaidCase
import Derived.Lib.LaidU8
import Derived.PinnedBridge
import Derived.ChangeArms
import Derived.SliceStrings
import Derived.Lib.LaidCaseMet
import Derived.Deep.DeepWitnessRowRef
namespace Go.Proofs.YtbcnhcpgloncdaaGreatDoor
open Go.RowKit Go.Lib

theorem at_two {cs : List Value} {k : Nat} {a b : Value} (h : (cs.drop k).take 2 = [a, b]) : cs[k]? = some a ∧ cs[k + 1]? = some b := by
  have h0 := congrArg (·[0]?) h
  have h1 := congrArg (·[1]?) h
  simp only [List.getElem?_take, List.getElem?_drop] at h0 h1
  exact ⟨by simpa using h0, by simpa using h1⟩

theorem gOpt : Tryz.prog.globalNamed "internal/strconv.optimize" = some 3 := by kernel_rfl
theorem gTen : Tryz.prog.globalNamed "internal/strconv.pow10Tab" = some 13 := by kernel_rfl
theorem cells190 : Tryz.prog.cellsOf 190 = 1 := by kernel_rfl
theorem cells288 : Tryz.prog.cellsOf 288 = 2 := by kernel_rfl
theorem cells264 : Tryz.prog.cellsOf 264 = 20 := by kernel_rfl

theorem glob_of {l : List (String × DataW Unit)} {W : World} (h : laidMet Tryz.prog l W) (m1 : ("unicode.CaseRanges", Rows.laid_unicode_CaseRanges) ∈ l) (m2 : ("unicode/utf8.first", Rows.laid_unicode_utf8_first) ∈ l) (m3 : ("unicode/utf8.acceptRanges", Rows.laid_unicode_utf8_acceptRanges) ∈ l)
    (m4 : ("internal/strconv.uint64pow10", Rows.laid_internal_strconv_uint64pow10) ∈ l) (m5 : ("internal/strconv.optimize", Rows.laid_internal_strconv_optimize) ∈ l) (m6 : ("internal/strconv.pow10Tab", Rows.laid_internal_strconv_pow10Tab) ∈ l) : Glob W := by
  have r1 := laidMet.reads h m1
  have r2 := laidMet.reads h m2
  have r3 := laidMet.reads h m3
  have r4 := laidMet.reads h m4
  have r5 := laidMet.reads h m5
  have r6 := laidMet.reads h m6
  rw [show Rows.laid_unicode_CaseRanges = caseData from Go.Pinned.caseRanges_eq] at r1
  rw [show Rows.laid_unicode_utf8_first = firstData from Go.Pinned.utf8First_eq] at r2
  rw [show (Rows.laid_unicode_utf8_acceptRanges : DataW Unit) = acceptData by kernel_rfl] at r3
  rw [show (Rows.laid_internal_strconv_uint64pow10 : DataW Unit) = tabData .u64 pow10Tab by kernel_rfl] at r4
  have ten : ∀ i z, i < 696 → (Go.Pinned.pow10Rows.map fun x => (DataW.agg [.lit (.int .u64 x.1), .lit (.int .u64 x.2)] : DataW Unit))[i]? = some (.agg [.lit (.int .u64 z), .lit (.int .u64 0)]) →
      W.cell? ⟨13, i * 2, none⟩ = some (.int .u64 z) ∧ W.cell? ⟨13, i * 2 + 1, none⟩ = some (.int .u64 0) := by
    intro i z hi hz
    obtain ⟨g, t, cs, fuel, p, hg, hty, hvar, hd⟩ := r6
    obtain rfl := Option.some.inj (gTen.symm.trans hg)
    obtain rfl := Option.some.inj ((show (Tryz.prog.globals[13]?).map (·.type) = some 289 by kernel_rfl).symm.trans hty)
    obtain ⟨f2, d, q, hdi, he⟩ := array_elem Tryz.underlying289 (show DataW.trod (fun _ => ()) Tryz.prog W 0 (fun _ => true) false fuel 289 cs.toList = some (.agg (Go.Pinned.pow10Rows.map fun x => (DataW.agg [.lit (.int .u64 x.1), .lit (.int .u64 x.2)] : DataW Unit)), p) from hd) i hi
    obtain rfl := Option.some.inj (hz.symm.trans hdi)
    rw [cells288] at he
    have hcs := ints_of_struct (zs := [z, 0]) (k := .u64) Tryz.underlying288 (fun j f hj => by
      match j, hj with
      | 0, hj => cases hj; exact ⟨Tryz.underlying190, rfl, cells190⟩
      | 1, hj => cases hj; exact ⟨Tryz.underlying190, rfl, cells190⟩) cells288 he
    obtain ⟨a1, a2⟩ := at_two hcs
    rw [World.var?_cell hg hvar, World.var?_cell hg hvar, ← Array.getElem?_toList, ← Array.getElem?_toList]
    exact ⟨a1, a2⟩
  refine ⟨caseVar_of_reads { Tryz.lays262 with } Tryz.lays262.t206 ⟨by kernel_rfl, by kernel_rfl, by kernel_rfl, by kernel_rfl, by kernel_rfl, by kernel_rfl⟩ r1,
    utf8Tabs_of_reads { Tryz.lays260 with } ⟨by kernel_rfl, by kernel_rfl, by kernel_rfl, by kernel_rfl, by kernel_rfl, by kernel_rfl, by kernel_rfl⟩ r2 r3, ?_, ?_, ?_, ?_, ?_, ?_⟩
  · obtain ⟨g, t, cs, fuel, p, hg, hty, hvar, hd⟩ := r4
    obtain rfl := Option.some.inj (gPow.symm.trans hg)
    obtain rfl := Option.some.inj ((show (Tryz.prog.globals[9]?).map (·.type) = some 264 by kernel_rfl).symm.trans hty)
    unfold TabIs
    rw [hvar, ← cells_of_tab Tryz.underlying264 Tryz.underlying190 cells190 cells264 hd]
  · obtain ⟨g, t, cs, fuel, p, hg, hty, hvar, hd⟩ := r5
    obtain rfl := Option.some.inj (gOpt.symm.trans hg)
    obtain rfl := Option.some.inj ((show (Tryz.prog.globals[3]?).map (·.type) = some 4 by kernel_rfl).symm.trans hty)
    obtain ⟨y, hc, hy⟩ := DataW.trod_bool Tryz.underlying4 hd
    have e : y = true := by
      have := congrArg Prod.fst hy
      simpa [Rows.laid_internal_strconv_optimize] using this.symm
    subst e
    rw [World.var?_cell hg hvar, ← Array.getElem?_toList, hc]
    rfl
  · exact (ten 354 _ (by decide) (by kernel_rfl)).1
  · exact (ten 354 17592186044416000000 (by decide) (by kernel_rfl)).2
  · exact (ten 355 _ (by decide) (by kernel_rfl)).1
  · exact (ten 355 10995116277760000000 (by decide) (by kernel_rfl)).2
end Go.Proofs.YtbcnhcpgloncdaaGreatDoor

/-
  WHAT A READING SAYS: the arguments as trees, texts and settings.
-/
namespace Go.Proofs.YtbcnhcpgloncdaaGreatDoor
open Go.ChangeShapes Go.WideShapes Go.ChangeAt Go.RowKit

theorem bulk_one {H : Type} (d : DataW H) : 1 ≤ Rows.uptoBulk d := by
  cases d with
  | lit l => cases l <;> simp [Rows.uptoBulk]
  | nil => simp [Rows.uptoBulk]
  | ptr d => simp [Rows.uptoBulk]
  | slice elems spare => simp [Rows.uptoBulk]
  | agg parts => simp [Rows.uptoBulk]
  | iface t d => simp [Rows.uptoBulk]
  | map entries => simp [Rows.uptoBulk]
  | held h => simp [Rows.uptoBulk]
theorem bulk_part {H : Type} {d : DataW H} {l : List (DataW H)} (h : d ∈ l) : Rows.uptoBulk d ≤ Rows.uptoBulkAll l := by
  induction l with
  | nil => cases h
  | cons x r ih =>
    simp only [Rows.uptoBulkAll]
    cases List.mem_cons.1 h with
    | inl e => subst e; omega
    | inr e => have := ih e; omega
theorem bulk_length {H : Type} (l : List (DataW H)) : l.length ≤ Rows.uptoBulkAll l := by
  induction l with
  | nil => simp [Rows.uptoBulkAll]
  | cons x r ih => have := bulk_one x; simp only [Rows.uptoBulkAll, List.length_cons]; omega

theorem list_choose {α : Type} {P : Nat → α → Prop} : ∀ n : Nat, (∀ i, i < n → ∃ t, P i t) → ∃ ts : List α, ts.length = n ∧ ∀ (i : Nat) t, ts[i]? = some t → P i t
  | 0, _ => ⟨[], rfl, fun i t h => by simp at h⟩
  | n + 1, h => by
    obtain ⟨ts, hl, ht⟩ := list_choose n fun i hi => h i (by omega)
    obtain ⟨t, htn⟩ := h n (by omega)
    refine ⟨ts ++ [t], by simp [hl], fun i u hu => ?_⟩
    rcases Nat.lt_or_ge i n with hi | hi
    · rw [List.getElem?_append_left (by omega)] at hu
      exact ht i u hu
    · have : i = n := by
        have := (List.getElem?_eq_some_iff.1 hu).1
        simp at this
        omega
      subst this
      rw [List.getElem?_append_right (by omega), hl] at hu
      simp at hu
      subst hu
      exact htn

section
variable {H : Type} {enc : TypeId × Value → H} {W : World}
/-- The reading of an argument. -/
noncomputable abbrev rdW (enc : TypeId × Value → H) (W : World) (fuel : Nat) (t : TypeId) (cs : List Value) : Option (DataW H × List MemPlace) := DataW.trod enc Tryz.prog W 0 (fun _ => true) true fuel t cs

theorem trod_float {k : FloatKind} {t : TypeId} {fuel : Nat} {cs : List Value} {x : DataW H × List MemPlace} (ht : Tryz.prog.underlying t = some (.float k)) (h : rdW enc W fuel t cs = some x) : ∃ n, cs = [.float k n] ∧ x = (.lit (.float k n), []) ∧ (Lit.float k n).wf = true := by
  cases fuel with
  | zero => simp [rdW, DataW.trod] at h
  | succ n =>
    unfold rdW DataW.trod at h
    rw [ht] at h
    split at h <;> simp_all

theorem cells9 : Tryz.prog.cellsOf 9 = 1 := by kernel_rfl
theorem cells26 : Tryz.prog.cellsOf 26 = 6 := by kernel_rfl
theorem cells45 : Tryz.prog.cellsOf 45 = 7 := by kernel_rfl

theorem read_strs {fuel : Nat} {cs : List Value} {x : DataW H × List MemPlace} (h : rdW enc W fuel 23 cs = some x) :
    ∃ v ks, cs = [v] ∧ StrsAt W (fun _ => True) v ks ∧ ks.length + 1 ≤ Rows.uptoBulk x.1 ∧ ∀ k ∈ ks, k.size + 1 ≤ Rows.uptoBulk x.1 := by
  rcases open_strings Tryz.underlying23 Tryz.underlying9 cells9 h with ⟨rfl, rfl⟩ | ⟨a, len, cap, ss, rfl, hb, hl, hm, hz, rfl, hc, hs⟩
  · exact ⟨_, [], rfl, ⟨none, 0, rfl, Nat.le_refl _, fun i k h => by simp at h⟩, by simp [Rows.uptoBulk], fun k hk => by cases hk⟩
  · simp only [if_true] at hz
    have hlt : (ss.take len).length = len := by simp; omega
    have hbk : ∀ k ∈ ss.take len, k.size + 1 ≤ Rows.uptoBulkAll (H := H) (strs (ss.take len)) := fun k hk => by
      have : (DataW.lit (.string k.data.toList) : DataW H) ∈ strs (ss.take len) := List.mem_map.2 ⟨k, hk, rfl⟩
      have := bulk_part this
      simp only [Rows.uptoBulk] at this
      have e : k.data.toList.length = k.size := by rw [Array.length_toList]; rfl
      omega
    have hln : (strs (H := H) (ss.take len)).length = len := by simp [strs]; omega
    have hlb := bulk_length (H := H) (strs (ss.take len))
    refine ⟨_, ss.take len, rfl, ⟨some a, cap, by rw [hlt], by omega, fun i k hk => ?_⟩, ?_, ?_⟩
    · have hi : i < len := by have := (List.getElem?_eq_some_iff.1 hk).1; omega
      have h0 := hc i (by omega)
      obtain ⟨b, o, spot⟩ := a
      have hspot : spot = none := by simpa [Addr.add] using World.cell?_spot (hc 0 (by omega))
      subst hspot
      refine ⟨b, o, rfl, trivial, ?_⟩
      have e : (⟨b, o, none⟩ : Addr).add i = ⟨b, o + i, none⟩ := by unfold Addr.add; split <;> simp_all
      rw [e] at h0
      rw [h0]
      rw [List.getElem?_take, if_pos hi] at hk
      rw [List.getD_eq_getElem?_getD, hk]; rfl
    · simp only [Rows.uptoBulk]; omega
    · intro k hk
      have := hbk k hk
      simp only [Rows.uptoBulk]; omega

theorem add_plain' (b o j : Nat) : (⟨b, o, none⟩ : Addr).add j = ⟨b, o + j, none⟩ := by unfold Addr.add; split <;> simp_all
/-- The elements of a slice, as rows of cells. -/
theorem read_slice {e n : Nat} {t : TypeId} (ht : Tryz.prog.underlying t = some (.slice e)) (hn : Tryz.prog.cellsOf e = n) (h0 : 0 < n) {fuel : Nat} {cs : List Value} {x : DataW H × List MemPlace} (h : rdW enc W fuel t cs = some x) :
    ∃ (a : Option Addr) (len cap f : Nat) (elems : List (DataW H × List MemPlace)), f < fuel ∧ cs = [.slice a len cap] ∧ len ≤ cap ∧ elems.length = len ∧ len + 1 ≤ Rows.uptoBulk x.1 ∧ (∀ y ∈ elems, Rows.uptoBulk y.1 + 1 ≤ Rows.uptoBulk x.1) ∧
      ∀ i, i < len → ∃ b o ci y, a = some ⟨b, o, none⟩ ∧ ci.length = n ∧ (∀ j, j < n → W.cell? ⟨b, o + i * n + j, none⟩ = ci[j]?) ∧ elems[i]? = some y ∧ rdW enc W f e ci = some y := by
  cases fuel with
  | zero => simp [rdW, DataW.trod] at h
  | succ fuel =>
  rcases DataW.trod_slice ht h with ⟨rfl, rfl⟩ | ⟨a, len, cap, elems, rest, f, hf, rfl, rfl, hb, hl, hm, hlen, hel, hsp, hns⟩
  · exact ⟨none, 0, 0, fuel, [], Nat.lt_succ_self _, rfl, Nat.le_refl _, rfl, by simp [Rows.uptoBulk], fun y hy => (by cases hy), fun i hi => (by omega)⟩
  · have hlb := bulk_length (elems.map (·.1))
    rw [List.length_map] at hlb
    refine ⟨some a, len, cap, f, elems, by omega, rfl, hl, hlen, by simp only [Rows.uptoBulk]; omega, fun y hy => ?_, fun i hi => ?_⟩
    · have := bulk_part (List.mem_map.2 ⟨y, hy, rfl⟩ : y.1 ∈ elems.map (·.1))
      simp only [Rows.uptoBulk]; omega
    · have key : ∀ i, i < len → ∃ ci y, W.cells? 0 (a.add (i * n)) n = some ci ∧ elems[i]? = some y ∧ rdW enc W f e ci = some y := by
        intro i hi
        have := hel i hi
        rw [hn, List.getElem?_eq_getElem (by omega)] at this
        obtain ⟨ci, h1, h2⟩ := Option.bind_eq_some_iff.1 this
        exact ⟨ci, _, h1, List.getElem?_eq_getElem (by omega), h2⟩
      obtain ⟨c0, y0, g1, -, -⟩ := key 0 (by omega)
      obtain ⟨b, o, spot⟩ := a
      have hspot : spot = none := by
        obtain ⟨-, hl0, hc0⟩ := World.cells?_some g1
        have hh := hc0 0 h0
        rw [List.getElem?_eq_getElem (by omega)] at hh
        simpa [Addr.add] using World.cell?_spot hh
      subst hspot
      obtain ⟨ci, y, g1, g2, g3⟩ := key i hi
      obtain ⟨-, hl0, hc0⟩ := World.cells?_some g1
      refine ⟨b, o, ci, y, rfl, hl0, fun j hj => ?_, g2, g3⟩
      have := hc0 j hj
      rw [add_plain', add_plain'] at this
      exact this

/-- A row's cell. -/
noncomputable def cellO (W : World) (a : Option Addr) (n i j : Nat) : Value := match a with
  | some ad => (W.cell? ⟨ad.block, ad.off + i * n + j, none⟩).getD .nilIface
  | none => .nilIface
theorem cellO_at {b o n i j : Nat} {ci : List Value} (hl : ci.length = n) (h : ∀ j, j < n → W.cell? ⟨b, o + i * n + j, none⟩ = ci[j]?) (hj : j < n) : W.cell? ⟨b, o + i * n + j, none⟩ = some (cellO W (some ⟨b, o, none⟩) n i j) ∧ ci[j]? = some (cellO W (some ⟨b, o, none⟩) n i j) := by
  have e : ci[j]? = some (ci[j]'(by omega)) := List.getElem?_eq_getElem (by omega)
  have e2 : cellO W (some ⟨b, o, none⟩) n i j = ci[j]'(by omega) := by
    unfold cellO
    simp only
    rw [h j hj, e]; rfl
  rw [h j hj, e2]
  exact ⟨e, e⟩
/-- A tree's bounds. -/
def TreeOk (t : T) (n : Nat) : Prop := t.num < 18446744073709551616 ∧ t.text.size + 1 ≤ n ∧ t.keys.length + 1 ≤ n ∧ t.kids.length + 1 ≤ n

set_option maxRecDepth 100000 in
theorem read_tree : ∀ (fuel : Nat) (cs : List Value) (x : DataW H × List MemPlace), rdW enc W fuel 26 cs = some x → ∃ t, TreeAt W (fun _ => True) (.agg cs.toArray) t ∧ TreeOk t (Rows.uptoBulk x.1) := by
  intro fuel
  induction fuel using Nat.strongRecOn with
  | _ fuel ih =>
  intro cs x h
  obtain ⟨xs, n, rfl, rfl, hl, hxl, hf⟩ := DataW.trod_struct Tryz.underlying26 h
  rw [cells26] at hl
  obtain ⟨c0, c1, c2, c3, c4, c5, rfl⟩ : ∃ c0 c1 c2 c3 c4 c5, cs = [c0, c1, c2, c3, c4, c5] := by
    match cs, hl with
    | [a, b, c, d, e, f], _ => exact ⟨a, b, c, d, e, f, rfl⟩
  obtain ⟨x0, x1, x2, x3, x4, x5, rfl⟩ : ∃ x0 x1 x2 x3 x4 x5, xs = [x0, x1, x2, x3, x4, x5] := by
    match xs, hxl with
    | [a, b, c, d, e, f], _ => exact ⟨a, b, c, d, e, f, rfl⟩
  have e3 : Tryz.prog.cellsOf 3 = 1 := by kernel_rfl
  have e22 : Tryz.prog.cellsOf 22 = 1 := by kernel_rfl
  have e4 : Tryz.prog.cellsOf 4 = 1 := by kernel_rfl
  have e23 : Tryz.prog.cellsOf 23 = 1 := by kernel_rfl
  have e24 : Tryz.prog.cellsOf 24 = 1 := by kernel_rfl
  have f0 := hf 0 _ rfl
  have f1 := hf 1 _ rfl
  have f2 := hf 2 _ rfl
  have f3 := hf 3 _ rfl
  have f4 := hf 4 _ rfl
  have f5 := hf 5 _ rfl
  simp only [List.getElem?_cons_zero, List.getElem?_cons_succ] at f0 f1 f2 f3 f4 f5
  obtain ⟨k, g0, q0, -⟩ := DataW.trod_int Tryz.underlying3 f0
  obtain ⟨s, g1, q1, hs⟩ := DataW.trod_string Tryz.underlying9 f1
  obtain ⟨m, g2, q2, hm⟩ := trod_float Tryz.underlying22 f2
  obtain ⟨y, g3, q3⟩ := DataW.trod_bool Tryz.underlying4 f3
  obtain ⟨v4, ks, g4, hks, hkl, hkz⟩ := read_strs f4
  obtain ⟨a, len, cap, f, elems, hfl, g5, hlc, hel, hbl, hbe, hcc⟩ := read_slice Tryz.underlying24 cells26 (by decide) f5
  cases g0; cases g1; cases g2; cases g3; cases g4; cases g5
  subst q0; subst q1; subst q2; subst q3
  -- the kids
  obtain ⟨ts, htl, hts⟩ := list_choose (P := fun i t => ∃ b o, a = some ⟨b, o, none⟩ ∧ ∃ ci : List Value, ci.length = 6 ∧ (∀ j, j < 6 → W.cell? ⟨b, o + i * 6 + j, none⟩ = ci[j]?) ∧ TreeAt W (fun _ => True) (.agg ci.toArray) t) len (fun i hi => by
    obtain ⟨b, o, ci, z, ha, hci, hcell, hz, hr⟩ := hcc i hi
    obtain ⟨t, ht, -⟩ := ih f (by omega) ci z hr
    exact ⟨t, b, o, ha, ci, hci, hcell, ht⟩)
  subst htl
  refine ⟨.mk k s m y ks ts, TreeAt.mk (cellO W a 6) hks hlc (fun i hi => ?_) (fun i t hi => ?_), ?_⟩
  · obtain ⟨b, o, ci, z, ha, hci, hcell, hz, hr⟩ := hcc i hi
    subst ha
    exact ⟨b, o, rfl, trivial, fun j hj => (cellO_at hci hcell hj).1⟩
  · obtain ⟨b, o, ha, ci, hci, hcell, ht⟩ := hts i t hi
    subst ha
    have e : ci = [cellO W (some ⟨b, o, none⟩) 6 i 0, cellO W (some ⟨b, o, none⟩) 6 i 1, cellO W (some ⟨b, o, none⟩) 6 i 2, cellO W (some ⟨b, o, none⟩) 6 i 3, cellO W (some ⟨b, o, none⟩) 6 i 4, cellO W (some ⟨b, o, none⟩) 6 i 5] := by
      apply List.ext_getElem?
      intro j
      rcases Nat.lt_or_ge j 6 with hj | hj
      · rw [(cellO_at hci hcell hj).2]
        have : j = 0 ∨ j = 1 ∨ j = 2 ∨ j = 3 ∨ j = 4 ∨ j = 5 := by omega
        rcases this with rfl | rfl | rfl | rfl | rfl | rfl <;> rfl
      · rw [List.getElem?_eq_none (by omega), List.getElem?_eq_none (by simpa using hj)]
    rw [e] at ht
    exact ht
  · have hm' : m < 18446744073709551616 := by simpa [Lit.wf, FloatKind.format, Ieee.Format.width, Ieee.double] using hm
    have b1 : Rows.uptoBulk (H := H) (.lit (.string s.data.toList)) = s.data.toList.length + 1 := by simp [Rows.uptoBulk]
    have e : s.data.toList.length = s.size := by rw [Array.length_toList]; rfl
    have b4 := bulk_part (List.mem_map.2 ⟨x4, by simp, rfl⟩ : x4.1 ∈ [(DataW.lit (H := H) (.int .i64 k), ([] : List MemPlace)), (.lit (.string s.data.toList), []), (.lit (.float .f64 m), []), (.lit (.bool y), []), x4, x5].map (·.1))
    have b5 := bulk_part (List.mem_map.2 ⟨x5, by simp, rfl⟩ : x5.1 ∈ [(DataW.lit (H := H) (.int .i64 k), ([] : List MemPlace)), (.lit (.string s.data.toList), []), (.lit (.float .f64 m), []), (.lit (.bool y), []), x4, x5].map (·.1))
    have b0 := bulk_part (List.mem_map.2 ⟨(.lit (.string s.data.toList), []), by simp, rfl⟩ : (.lit (.string s.data.toList)) ∈ [(DataW.lit (H := H) (.int .i64 k), ([] : List MemPlace)), (.lit (.string s.data.toList), []), (.lit (.float .f64 m), []), (.lit (.bool y), []), x4, x5].map (·.1))
    have hA : Rows.uptoBulk (H := H) (.agg ([(DataW.lit (H := H) (.int .i64 k), ([] : List MemPlace)), (.lit (.string s.data.toList), []), (.lit (.float .f64 m), []), (.lit (.bool y), []), x4, x5].map (·.1))) = Rows.uptoBulkAll ([(DataW.lit (H := H) (.int .i64 k), ([] : List MemPlace)), (.lit (.string s.data.toList), []), (.lit (.float .f64 m), []), (.lit (.bool y), []), x4, x5].map (·.1)) + 1 := by simp only [Rows.uptoBulk]
    refine ⟨hm', ?_, ?_, ?_⟩
    · show s.size + 1 ≤ Rows.uptoBulk (H := H) (.agg _)
      rw [hA]; omega
    · show ks.length + 1 ≤ Rows.uptoBulk (H := H) (.agg _)
      rw [hA]; omega
    · show ts.length + 1 ≤ Rows.uptoBulk (H := H) (.agg _)
      rw [hA]; omega

theorem read_sets {fuel : Nat} {cs : List Value} {x : DataW H × List MemPlace} (h : rdW enc W fuel 27 cs = some x) :
    ∃ v ss, cs = [v] ∧ SetsAt W (fun _ => True) v ss ∧ ss.length + 1 ≤ Rows.uptoBulk x.1 ∧ ∀ s ∈ ss, TreeOk s.value (Rows.uptoBulk x.1) := by
  obtain ⟨a, len, cap, f, elems, hfl, rfl, hlc, hel, hbl, hbe, hcc⟩ := read_slice Tryz.underlying27 cells45 (by decide) h
  obtain ⟨ss, hsl, hss⟩ := list_choose (P := fun i (s : S) => ∃ b o, a = some ⟨b, o, none⟩ ∧ ∃ ci : List Value, ci.length = 7 ∧ (∀ j, j < 7 → W.cell? ⟨b, o + i * 7 + j, none⟩ = ci[j]?) ∧ ci[0]? = some (.string s.name) ∧ TreeAt W (fun _ => True) (.agg (ci.drop 1).toArray) s.value ∧ TreeOk s.value (Rows.uptoBulk x.1)) len (fun i hi => by
    obtain ⟨b, o, ci, z, ha, hci, hcell, hz, hr⟩ := hcc i hi
    have hzb := hbe z (List.mem_of_getElem? hz)
    obtain ⟨xs, n, rfl, rfl, hl, hxl, hf⟩ := DataW.trod_struct Tryz.underlying45 hr
    obtain ⟨x0, x1, rfl⟩ : ∃ x0 x1, xs = [x0, x1] := by
      match xs, hxl with
      | [a, b], _ => exact ⟨a, b, rfl⟩
    have e6 : (ci.drop 1).take 6 = ci.drop 1 := List.take_of_length_le (by rw [List.length_drop]; omega)
    have f0 : rdW enc W n 9 ((ci.drop 0).take (Tryz.prog.cellsOf 9)) = some x0 := hf 0 _ rfl
    have f1 : rdW enc W n 26 ((ci.drop 1).take (Tryz.prog.cellsOf 26)) = some x1 := hf 1 _ rfl
    rw [cells9, List.drop_zero] at f0
    rw [cells26, e6] at f1
    obtain ⟨s, g0, q0, -⟩ := DataW.trod_string Tryz.underlying9 f0
    obtain ⟨t, ht, htk⟩ := read_tree _ _ _ f1
    have b1 := bulk_part (List.mem_map.2 ⟨x1, by simp, rfl⟩ : x1.1 ∈ [x0, x1].map (·.1))
    have hA : Rows.uptoBulk (H := H) (.agg ([x0, x1].map (·.1))) = Rows.uptoBulkAll ([x0, x1].map (·.1)) + 1 := by simp only [Rows.uptoBulk]
    refine ⟨⟨s, t⟩, b, o, ha, ci, hci, hcell, ?_, ht, ?_⟩
    · have : (ci.take 1)[0]? = some (Value.string s) := by rw [g0]; rfl
      rw [List.getElem?_take, if_pos (by decide)] at this
      exact this
    · obtain ⟨k1, k2, k3, k4⟩ := htk
      rw [hA] at hzb
      exact ⟨k1, (by show t.text.size + 1 ≤ _; omega), (by show t.keys.length + 1 ≤ _; omega), (by show t.kids.length + 1 ≤ _; omega)⟩)
  subst hsl
  refine ⟨_, ss, rfl, ⟨a, cap, cellO W a 7, rfl, hlc, fun i hi => ?_, fun i s hi => ?_⟩, hbl, fun s hs => ?_⟩
  · obtain ⟨b, o, ci, z, ha, hci, hcell, hz, hr⟩ := hcc i hi
    subst ha
    exact ⟨b, o, rfl, trivial, fun j hj => (cellO_at hci hcell hj).1⟩
  · obtain ⟨b, o, ha, ci, hci, hcell, hn, ht, -⟩ := hss i s hi
    subst ha
    have e : ci.drop 1 = [cellO W (some ⟨b, o, none⟩) 7 i 1, cellO W (some ⟨b, o, none⟩) 7 i 2, cellO W (some ⟨b, o, none⟩) 7 i 3, cellO W (some ⟨b, o, none⟩) 7 i 4, cellO W (some ⟨b, o, none⟩) 7 i 5, cellO W (some ⟨b, o, none⟩) 7 i 6] := by
      apply List.ext_getElem?
      intro j
      rw [List.getElem?_drop]
      rcases Nat.lt_or_ge j 6 with hj | hj
      · rw [(cellO_at hci hcell (show 1 + j < 7 by omega)).2]
        have : j = 0 ∨ j = 1 ∨ j = 2 ∨ j = 3 ∨ j = 4 ∨ j = 5 := by omega
        rcases this with rfl | rfl | rfl | rfl | rfl | rfl <;> rfl
      · rw [List.getElem?_eq_none (by omega), List.getElem?_eq_none (by simpa using hj)]
    rw [e] at ht
    have h0 := (cellO_at hci hcell (show 0 < 7 by decide)).2
    rw [hn] at h0
    exact ⟨(Option.some.inj h0).symm, ht⟩
  · obtain ⟨i, hi, hsi⟩ := List.getElem_of_mem hs
    obtain ⟨b, o, ha, ci, hci, hcell, hn, ht, hk⟩ := hss i s (by rw [List.getElem?_eq_getElem hi, hsi])
    exact hk
end
end Go.Proofs.YtbcnhcpgloncdaaGreatDoor

/-
  WHAT THE ROW's LIST GIVES: ParseFloat's tables.
-/
namespace Go.Proofs.YtbcnhcpgloncdaaGreatDoor
open Go.RowKit Go.Lib

theorem gInfo : Tryz.prog.globalNamed "internal/strconv.float64info" = some 5 := by kernel_rfl
theorem gF10 : Tryz.prog.globalNamed "internal/strconv.float64pow10" = some 12 := by kernel_rfl
theorem cells22 : Tryz.prog.cellsOf 22 = 1 := by kernel_rfl
theorem cells189 : Tryz.prog.cellsOf 189 = 1 := by kernel_rfl
theorem float_lit {W : World} {k : FloatKind} {t : TypeId} {fuel : Nat} {cs : List Value} {x : DataW Unit × List MemPlace} (ht : Tryz.prog.underlying t = some (.float k)) (h : DataW.trod (fun _ => ()) Tryz.prog W 0 (fun _ => true) false fuel t cs = some x) : ∃ n, cs = [.float k n] ∧ x.1 = .lit (.float k n) := by
  cases fuel with
  | zero => simp [DataW.trod] at h
  | succ n =>
    unfold DataW.trod at h
    rw [ht] at h
    split at h <;> simp_all
    rw [← h.2]

set_option maxRecDepth 100000 in
theorem globP_of {l : List (String × DataW Unit)} {W : World} (h : laidMet Tryz.prog l W) (hG : Glob W) (m1 : ("internal/strconv.float64info", Rows.laid_internal_strconv_float64info) ∈ l) (m2 : ("internal/strconv.float64pow10", Rows.laid_internal_strconv_float64pow10) ∈ l) : GlobP W := by
  have r1 := laidMet.reads h m1
  have r2 := laidMet.reads h m2
  refine ⟨hG.opt, ?_, ?_⟩
  · obtain ⟨g, t, cs, fuel, p, hg, hty, hvar, hd⟩ := r1
    obtain rfl := Option.some.inj (gInfo.symm.trans hg)
    obtain rfl := Option.some.inj ((show (Tryz.prog.globals[5]?).map (·.type) = some 218 by kernel_rfl).symm.trans hty)
    obtain ⟨xs, n, rfl, hx, hl, hxl, hall⟩ := DataW.trod_struct Tryz.underlying218 hd
    have hxs : xs.map (·.1) = [.lit (.int .u64 52), .lit (.int .u64 11), .lit (.int .i64 (-1023))] := by
      have := congrArg Prod.fst hx
      simpa [Rows.laid_internal_strconv_float64info] using this.symm
    match xs, hxs with
    | x0 :: x1 :: x2 :: [], hxs =>
      have h0 : DataW.trod (fun _ => ()) Tryz.prog W 0 (fun _ => true) false n 189 ((cs.toList.drop 0).take (Tryz.prog.cellsOf 189)) = some x0 := hall 0 _ rfl
      have hx0 : x0.1 = .lit (.int .u64 52) := by simpa using (List.cons.inj hxs).1
      obtain ⟨z, hz, he, -⟩ := DataW.trod_int Tryz.underlying189 h0
      have hz2 : z = 52 := by
        rw [he] at hx0
        simpa using hx0
      subst hz2
      have h1 : cs.toList[0]? = some (.int .u64 52) := by
        have h9 := congrArg (·[0]?) hz
        rw [cells189] at h9
        simpa [List.getElem?_take, List.getElem?_drop] using h9
      rw [World.var?_cell hg hvar, ← Array.getElem?_toList, h1]
  · obtain ⟨g, t, cs, fuel, p, hg, hty, hvar, hd⟩ := r2
    obtain rfl := Option.some.inj (gF10.symm.trans hg)
    obtain rfl := Option.some.inj ((show (Tryz.prog.globals[12]?).map (·.type) = some 146 by kernel_rfl).symm.trans hty)
    rcases DataW.trod_slice Tryz.underlying146 hd with ⟨-, hx⟩ | ⟨a, len, cap, elems, rest, n, -, hcs, hx, hb, hl, hm, hlen, hel, hsp, hns⟩
    · simp [Rows.laid_internal_strconv_float64pow10] at hx
    · have hxs : elems.map (·.1) = [.lit (.float .f64 4607182418800017408), .lit (.float .f64 4621819117588971520), .lit (.float .f64 4636737291354636288), .lit (.float .f64 4652007308841189376), .lit (.float .f64 4666723172467343360), .lit (.float .f64 4681608360884174848), .lit (.float .f64 4696837146684686336)] ++ (elems.map (·.1)).drop 7 ∧ len = 23 := by
        have h1 := congrArg Prod.fst hx
        unfold Rows.laid_internal_strconv_float64pow10 at h1
        injection h1 with h2 h3
        have hle := congrArg List.length h2
        rw [List.length_map, hlen] at hle
        refine ⟨?_, by rw [← hle]; rfl⟩
        rw [← h2]; rfl
      obtain ⟨hxs, hl23⟩ := hxs
      subst hl23
      have he6 : (elems.map (·.1))[6]? = some (.lit (.float .f64 4696837146684686336)) := by rw [hxs]; rfl
      rw [List.getElem?_map] at he6
      obtain ⟨e6, h6, h66⟩ := Option.map_eq_some_iff.1 he6
      have hc := hel 6 (by decide)
      rw [h6, cells22] at hc
      obtain ⟨ci, g1, g2⟩ := Option.bind_eq_some_iff.1 hc
      obtain ⟨-, hl0, hc0⟩ := World.cells?_some g1
      obtain ⟨x, hci, hex⟩ := float_lit Tryz.underlying22 g2
      have hx6 : x = f1e6 := by
        rw [hex] at h66
        simpa using h66
      subst hx6
      have hh := hc0 0 (by decide)
      rw [hci] at hh
      obtain ⟨R, o, spot⟩ := a
      have hspot : spot = none := by
        have hq := hel 0 (by decide)
        rw [List.getElem?_eq_getElem (by omega), cells22] at hq
        obtain ⟨c0, k1, -⟩ := Option.bind_eq_some_iff.1 hq
        obtain ⟨-, hk0, hkc⟩ := World.cells?_some k1
        have hk := hkc 0 (by decide)
        rw [List.getElem?_eq_getElem (by omega)] at hk
        simpa [Addr.add] using World.cell?_spot hk
      subst hspot
      rw [add_plain', add_plain'] at hh
      refine ⟨R, o, cap, ?_, hh⟩
      rw [World.var?_cell hg hvar, ← Array.getElem?_toList, hcs]
      rfl
end Go.Proofs.YtbcnhcpgloncdaaGreatDoor

/-
  READINGS OF LAID TABLES BY LAW: arrays and slices of rows; and 'laidMet' from one variable's reading after the other.
-/
namespace Go.Proofs.YtbcnhcpgloncdaaGreatDoor
open Go.RowKit Go.Lib

theorem flat_row {α : Type} (f : α → List Value) (m : Nat) (hf : ∀ x, (f x).length = m) : ∀ (l : List α) (i : Nat) (x : α), l[i]? = some x → ((l.flatMap f).drop (i * m)).take m = f x
  | [], i, x, h => by simp at h
  | y :: t, 0, x, h => by
    simp at h
    subst h
    rw [List.flatMap_cons, Nat.zero_mul, List.drop_zero, List.take_append_of_le_length (by rw [hf]; exact Nat.le_refl _), ← hf y, List.take_length]
  | y :: t, i + 1, x, h => by
    simp at h
    rw [List.flatMap_cons, Nat.add_mul, Nat.one_mul, Nat.add_comm, ← hf y, ← List.drop_drop, List.drop_left, hf y]
    exact flat_row f m hf t i x h
theorem flat_len {α : Type} (f : α → List Value) (m : Nat) (hf : ∀ x, (f x).length = m) : ∀ l : List α, (l.flatMap f).length = l.length * m
  | [] => by simp
  | y :: t => by rw [List.flatMap_cons, List.length_append, hf, flat_len f m hf t, List.length_cons, Nat.add_mul]; omega

section
variable {W : World}
theorem range_map {α β : Type} (l : List α) (g : α → β) (d : α) : ((List.range l.length).map fun i => g (l.getD i d)) = l.map g := by
  apply List.ext_getElem?
  intro i
  by_cases hi : i < l.length
  · simp [hi]
  · simp [hi]

/-- An array of rows. -/
theorem arr_reads {α : Type} [Inhabited α] {fuel : Nat} {t e : TypeId} {m : Nat} (l : List α) (f : α → List Value) (g : α → DataW Unit) (ht : Tryz.prog.underlying t = some (.array l.length e)) (hct : Tryz.prog.cellsOf t = l.length * m) (hce : Tryz.prog.cellsOf e = m) (hf : ∀ x, (f x).length = m)
    (h : ∀ x ∈ l, DataW.trod (fun _ => ()) Tryz.prog W 0 (fun _ => true) false fuel e (f x) = some (g x, [])) :
    DataW.trod (fun _ => ()) Tryz.prog W 0 (fun _ => true) false (fuel + 1) t (l.flatMap f) = some (.agg (l.map g), []) := by
  unfold DataW.trod
  simp only [ht, hce]
  rw [if_pos (by rw [flat_len f m hf, hct])]
  rw [mapM_some _ (fun i => (g (l.getD i default), ([] : List MemPlace))) _ (fun i hi => by
    have hi' := List.mem_range.1 hi
    have hx : l[i]? = some (l.getD i default) := by simp [hi']
    rw [flat_row f m hf l i _ hx]
    exact h _ (List.mem_of_getElem? hx))]
  simp only [Option.map_some, List.map_map]
  refine congrArg some (Prod.ext (congrArg DataW.agg ?_) ?_)
  · exact range_map l g default
  · simp

/-- A slice of rows. -/
theorem slice_reads {α : Type} [Inhabited α] {fuel R : Nat} {t e T : TypeId} {m : Nat} (l : List α) (f : α → List Value) (g : α → DataW Unit) (ht : Tryz.prog.underlying t = some (.slice e)) (hce : Tryz.prog.cellsOf e = m) (hf : ∀ x, (f x).length = m) (hl : l.length ≤ maxLen)
    (hb : W.heap[R]? = some (.cells (l.flatMap f).toArray T (0, 0)))
    (h : ∀ x ∈ l, DataW.trod (fun _ => ()) Tryz.prog W 0 (fun _ => true) false fuel e (f x) = some (g x, [])) :
    DataW.trod (fun _ => ()) Tryz.prog W 0 (fun _ => true) false (fuel + 1) t [.slice (some ⟨R, 0, none⟩) l.length l.length] = some (.slice (l.map g) [], MemPlace.row ⟨R, 0, none⟩ (l.length * m)) := by
  have helem : ∀ i ∈ List.range l.length, (W.cells? 0 ((⟨R, 0, none⟩ : Addr).add (i * m)) m).bind (DataW.trod (fun _ => ()) Tryz.prog W 0 (fun _ => true) false fuel e) = some (g (l.getD i default), ([] : List MemPlace)) := by
    intro i hi
    have hi' := List.mem_range.1 hi
    have hx : l[i]? = some (l.getD i default) := by simp [hi']
    have hc : W.cells? 0 ((⟨R, 0, none⟩ : Addr).add (i * m)) m = some (f (l.getD i default)) := by
      rw [add_plain, Nat.zero_add]
      refine ChangeShapes.cells?_of (Nat.zero_le _) (hf _) fun j hj => ?_
      rw [cell_of_row W R _ _ _ _ hb, List.getElem?_toArray]
      have := flat_row f m hf l i _ hx
      have h2 := congrArg (·[j]?) this
      simp only [List.getElem?_take, List.getElem?_drop, if_pos hj] at h2
      exact h2
    rw [hc]
    exact h _ (List.mem_of_getElem? hx)
  unfold DataW.trod
  simp only [ht, hce]
  rw [if_pos ⟨Nat.zero_le _, Nat.le_refl _, hl⟩, mapM_some _ _ _ helem]
  simp only [Option.bind_some, Nat.sub_self, List.range_zero, List.mapM_nil, Option.pure_def, Option.map_some, if_true, List.map_map, List.map_nil, List.length_map, List.length_range, List.length_nil, Nat.add_zero, List.append_nil]
  refine congrArg some (Prod.ext ?_ ?_)
  · exact congrArg (fun z => DataW.slice z []) (range_map l g default)
  · simp

/-- One listed variable. -/
def OneVar (W : World) (tag : Nat → Nat) (n : String) (d : DataW Unit) (k : Nat) : Prop :=
  ∃ g t cs fuel p, Tryz.prog.globalNamed n = some g ∧ (Tryz.prog.globals[g]?).map (·.type) = some t ∧ W.var? Tryz.prog n = some cs ∧ DataW.trod (fun _ => ()) Tryz.prog W 0 (fun _ => true) false fuel t cs.toList = some (d, p) ∧
    (MemPlace.row ⟨g, 0, none⟩ cs.size ++ p).Nodup ∧ (∀ q ∈ MemPlace.row ⟨g, 0, none⟩ cs.size ++ p, tag q.block = k) ∧
    ∀ b off, MemPlace.cell b off ∈ MemPlace.row ⟨g, 0, none⟩ cs.size ++ p → (∃ c t, W.heap[b]? = some (.cells c t (0, 0))) ∧ ∀ u v, W.cell? ⟨b, off, none⟩ = some (.iface u v) → Value.okWide Tryz.prog W .any 0 u v

theorem laidMet_of_ones (tag : Nat → Nat) (key : String → Nat) : ∀ l : List (String × DataW Unit), (l.map fun x => key x.1).Nodup → (∀ x ∈ l, OneVar W tag x.1 x.2 (key x.1)) →
    ∃ ps, DataW.LaidVars Tryz.prog W l ps ∧ ps.Nodup ∧ (∀ q ∈ ps, tag q.block ∈ l.map fun x => key x.1) ∧ ∀ b off, MemPlace.cell b off ∈ ps →
      (∃ c t, W.heap[b]? = some (.cells c t (0, 0))) ∧ ∀ u v, W.cell? ⟨b, off, none⟩ = some (.iface u v) → Value.okWide Tryz.prog W .any 0 u v
  | [], _, _ => ⟨[], rfl, List.nodup_nil, fun q hq => (by cases hq), fun b off h => (by cases h)⟩
  | (n, d) :: r, hn, h => by
    obtain ⟨hk, hr⟩ := List.nodup_cons.1 hn
    obtain ⟨g, t, cs, fuel, p, h1, h2, h3, h4, h5, h6, h7⟩ := h (n, d) (by simp)
    obtain ⟨ps, g1, g2, g3, g4⟩ := laidMet_of_ones tag key r hr fun x hx => h x (List.mem_cons_of_mem _ hx)
    refine ⟨MemPlace.row ⟨g, 0, none⟩ cs.size ++ p ++ ps, ⟨g, t, cs, fuel, p, ps, h1, h2, h3, h4, g1, rfl⟩, ?_, ?_, ?_⟩
    · refine List.nodup_append.2 ⟨h5, g2, fun a ha b hb e => ?_⟩
      subst e
      have hk' : key n ∉ r.map fun x => key x.1 := hk
      have h6a : tag a.block = key n := h6 a ha
      exact hk' (by rw [← h6a]; exact g3 a hb)
    · intro q hq
      rcases List.mem_append.1 hq with hq | hq
      · rw [h6 q hq]; simp
      · exact List.mem_cons_of_mem _ (g3 q hq)
    · intro b off hq
      rcases List.mem_append.1 hq with hq | hq
      · exact h7 b off hq
      · exact g4 b off hq

def noIface (v : Value) : Bool := match v with
  | .iface _ _ => false
  | _ => true
theorem block_good {b : Nat} {cs : Array Value} {t : TypeId} (hb : W.heap[b]? = some (.cells cs t (0, 0))) (hno : ∀ v ∈ cs.toList, noIface v = true) (off : Nat) :
    (∃ c t, W.heap[b]? = some (.cells c t (0, 0))) ∧ ∀ u v, W.cell? ⟨b, off, none⟩ = some (.iface u v) → Value.okWide Tryz.prog W .any 0 u v := by
  refine ⟨⟨_, _, hb⟩, fun u v hc => ?_⟩
  rw [cell_of_row W b off cs t (0, 0) hb] at hc
  have := hno _ (by rw [← Array.getElem?_toList] at hc; exact List.mem_of_getElem? hc)
  cases this

/-- A variable that holds no pointers. -/
theorem one_plain {tag : Nat → Nat} {n : String} {d : DataW Unit} {k g : Nat} {t T : TypeId} {cs : Array Value} (fuel : Nat) (hg : Tryz.prog.globalNamed n = some g) (hty : (Tryz.prog.globals[g]?).map (·.type) = some t) (hb : W.heap[g]? = some (.cells cs T (0, 0)))
    (hr : DataW.trod (fun _ => ()) Tryz.prog W 0 (fun _ => true) false fuel t cs.toList = some (d, [])) (hk : tag g = k) (hno : ∀ v ∈ cs.toList, noIface v = true) : OneVar W tag n d k := by
  refine ⟨g, t, cs, fuel, [], hg, hty, by simp [World.var?, hg, hb], hr, by rw [List.append_nil]; exact row_nodup _ _, fun q hq => ?_, fun b off hq => ?_⟩
  · rw [List.append_nil] at hq
    obtain ⟨i, _, rfl⟩ := MemPlace.mem_row.1 hq
    exact hk
  · rw [List.append_nil] at hq
    obtain ⟨i, _, e⟩ := MemPlace.mem_row.1 hq
    cases e
    exact block_good hb hno _
/-- A variable that holds a slice of rows. -/
theorem one_slice {tag : Nat → Nat} {n : String} {d : DataW Unit} {k g R len : Nat} {t T T' : TypeId} {cs : Array Value} (fuel : Nat) (m : Nat) (hg : Tryz.prog.globalNamed n = some g) (hty : (Tryz.prog.globals[g]?).map (·.type) = some t) (hb : W.heap[g]? = some (.cells #[.slice (some ⟨R, 0, none⟩) len len] T (0, 0)))
    (hR : W.heap[R]? = some (.cells cs T' (0, 0)))
    (hr : DataW.trod (fun _ => ()) Tryz.prog W 0 (fun _ => true) false fuel t [.slice (some ⟨R, 0, none⟩) len len] = some (d, MemPlace.row ⟨R, 0, none⟩ m)) (hk : tag g = k) (hk2 : tag R = k) (hne : g ≠ R) (hno : ∀ v ∈ cs.toList, noIface v = true) : OneVar W tag n d k := by
  refine ⟨g, t, _, fuel, _, hg, hty, by simp [World.var?, hg, hb], hr, ?_, fun q hq => ?_, fun b off hq => ?_⟩
  · refine List.nodup_append.2 ⟨row_nodup _ _, row_nodup _ _, fun a ha b hb e => ?_⟩
    obtain ⟨i, _, rfl⟩ := MemPlace.mem_row.1 ha
    obtain ⟨j, _, rfl⟩ := MemPlace.mem_row.1 hb
    simp at e
    exact hne e.1
  · rcases List.mem_append.1 hq with hq | hq
    · obtain ⟨i, _, rfl⟩ := MemPlace.mem_row.1 hq
      exact hk
    · obtain ⟨i, _, rfl⟩ := MemPlace.mem_row.1 hq
      exact hk2
  · rcases List.mem_append.1 hq with hq | hq
    · obtain ⟨i, _, e⟩ := MemPlace.mem_row.1 hq
      cases e
      exact block_good hb (by intro v hv; simp at hv; subst hv; rfl) _
    · obtain ⟨i, _, e⟩ := MemPlace.mem_row.1 hq
      cases e
      exact block_good hR hno _
end
end Go.Proofs.YtbcnhcpgloncdaaGreatDoor
