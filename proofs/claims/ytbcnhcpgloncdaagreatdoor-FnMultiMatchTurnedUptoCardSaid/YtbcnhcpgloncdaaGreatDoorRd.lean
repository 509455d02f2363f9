/-
  WHAT A READING SAYS: the arguments as trees, texts and settings.
-/
import Derived.Test.YtbcnhcpgloncdaaGreatDoorBase
import Derived.Test.YtbcnhcpgloncdaaGreatDoorRows
import Derived.ChangeArms
import Derived.SliceStrings
namespace Go.Proofs.YtbcnhcpgloncdaaGreatDoor
open Go.ChangeShapes Go.WideShapes Go.ChangeAt Go.RowKit

theorem bulk_one {H : Type} (d : DataW H) : 1 ≤ Rows.uptoBulk d := by
  cases d with
  | lit l => cases l <;> simp [Rows.uptoBulk]
  | nil => simp [Rows.uptoBulk]
  | ptr d => simp [Rows.uptoBulk]
  | slice elems spare => simp [Rows.uptoBulk]
  | agg parts => simp [Rows.uptoBulk]
  | iface t d => simp [Rows.uptoBulk]
  | map entries => simp [Rows.uptoBulk]
  | held h => simp [Rows.uptoBulk]
theorem bulk_part {H : Type} {d : DataW H} {l : List (DataW H)} (h : d ∈ l) : Rows.uptoBulk d ≤ Rows.uptoBulkAll l := by
  induction l with
  | nil => cases h
  | cons x r ih =>
    simp only [Rows.uptoBulkAll]
    cases List.mem_cons.1 h with
    | inl e => subst e; omega
    | inr e => have := ih e; omega
theorem bulk_length {H : Type} (l : List (DataW H)) : l.length ≤ Rows.uptoBulkAll l := by
  induction l with
  | nil => simp [Rows.uptoBulkAll]
  | cons x r ih => have := bulk_one x; simp only [Rows.uptoBulkAll, List.length_cons]; omega

theorem list_choose {α : Type} {P : Nat → α → Prop} : ∀ n : Nat, (∀ i, i < n → ∃ t, P i t) → ∃ ts : List α, ts.length = n ∧ ∀ (i : Nat) t, ts[i]? = some t → P i t
  | 0, _ => ⟨[], rfl, fun i t h => by simp at h⟩
  | n + 1, h => by
    obtain ⟨ts, hl, ht⟩ := list_choose n fun i hi => h i (by omega)
    obtain ⟨t, htn⟩ := h n (by omega)
    refine ⟨ts ++ [t], by simp [hl], fun i u hu => ?_⟩
    rcases Nat.lt_or_ge i n with hi | hi
    · rw [List.getElem?_append_left (by omega)] at hu
      exact ht i u hu
    · have : i = n := by
        have := (List.getElem?_eq_some_iff.1 hu).1
        simp at this
        omega
      subst this
      rw [List.getElem?_append_right (by omega), hl] at hu
      simp at hu
      subst hu
      exact htn

section
variable {H : Type} {enc : TypeId × Value → H} {W : World}
/-- The reading of an argument. -/
noncomputable abbrev rdW (enc : TypeId × Value → H) (W : World) (fuel : Nat) (t : TypeId) (cs : List Value) : Option (DataW H × List MemPlace) := DataW.trod enc Tryz.prog W 0 (fun _ => true) true fuel t cs

theorem trod_float {k : FloatKind} {t : TypeId} {fuel : Nat} {cs : List Value} {x : DataW H × List MemPlace} (ht : Tryz.prog.underlying t = some (.float k)) (h : rdW enc W fuel t cs = some x) : ∃ n, cs = [.float k n] ∧ x = (.lit (.float k n), []) ∧ (Lit.float k n).wf = true := by
  cases fuel with
  | zero => simp [rdW, DataW.trod] at h
  | succ n =>
    unfold rdW DataW.trod at h
    rw [ht] at h
    split at h <;> simp_all

theorem cells9 : Tryz.prog.cellsOf 9 = 1 := by kernel_rfl
theorem cells26 : Tryz.prog.cellsOf 26 = 6 := by kernel_rfl
theorem cells45 : Tryz.prog.cellsOf 45 = 7 := by kernel_rfl

theorem read_strs {fuel : Nat} {cs : List Value} {x : DataW H × List MemPlace} (h : rdW enc W fuel 23 cs = some x) :
    ∃ v ks, cs = [v] ∧ StrsAt W (fun _ => True) v ks ∧ ks.length + 1 ≤ Rows.uptoBulk x.1 ∧ ∀ k ∈ ks, k.size + 1 ≤ Rows.uptoBulk x.1 := by
  rcases open_strings Tryz.underlying23 Tryz.underlying9 cells9 h with ⟨rfl, rfl⟩ | ⟨a, len, cap, ss, rfl, hb, hl, hm, hz, rfl, hc, hs⟩
  · exact ⟨_, [], rfl, ⟨none, 0, rfl, Nat.le_refl _, fun i k h => by simp at h⟩, by simp [Rows.uptoBulk], fun k hk => by cases hk⟩
  · simp only [if_true] at hz
    have hlt : (ss.take len).length = len := by simp; omega
    have hbk : ∀ k ∈ ss.take len, k.size + 1 ≤ Rows.uptoBulkAll (H := H) (strs (ss.take len)) := fun k hk => by
      have : (DataW.lit (.string k.data.toList) : DataW H) ∈ strs (ss.take len) := List.mem_map.2 ⟨k, hk, rfl⟩
      have := bulk_part this
      simp only [Rows.uptoBulk] at this
      have e : k.data.toList.length = k.size := by rw [Array.length_toList]; rfl
      omega
    have hln : (strs (H := H) (ss.take len)).length = len := by simp [strs]; omega
    have hlb := bulk_length (H := H) (strs (ss.take len))
    refine ⟨_, ss.take len, rfl, ⟨some a, cap, by rw [hlt], by omega, fun i k hk => ?_⟩, ?_, ?_⟩
    · have hi : i < len := by have := (List.getElem?_eq_some_iff.1 hk).1; omega
      have h0 := hc i (by omega)
      obtain ⟨b, o, spot⟩ := a
      have hspot : spot = none := by simpa [Addr.add] using World.cell?_spot (hc 0 (by omega))
      subst hspot
      refine ⟨b, o, rfl, trivial, ?_⟩
      have e : (⟨b, o, none⟩ : Addr).add i = ⟨b, o + i, none⟩ := by unfold Addr.add; split <;> simp_all
      rw [e] at h0
      rw [h0]
      rw [List.getElem?_take, if_pos hi] at hk
      rw [List.getD_eq_getElem?_getD, hk]; rfl
    · simp only [Rows.uptoBulk]; omega
    · intro k hk
      have := hbk k hk
      simp only [Rows.uptoBulk]; omega

theorem add_plain' (b o j : Nat) : (⟨b, o, none⟩ : Addr).add j = ⟨b, o + j, none⟩ := by unfold Addr.add; split <;> simp_all
/-- The elements of a slice, as rows of cells. -/
theorem read_slice {e n : Nat} {t : TypeId} (ht : Tryz.prog.underlying t = some (.slice e)) (hn : Tryz.prog.cellsOf e = n) (h0 : 0 < n) {fuel : Nat} {cs : List Value} {x : DataW H × List MemPlace} (h : rdW enc W fuel t cs = some x) :
    ∃ (a : Option Addr) (len cap f : Nat) (elems : List (DataW H × List MemPlace)), f < fuel ∧ cs = [.slice a len cap] ∧ len ≤ cap ∧ elems.length = len ∧ len + 1 ≤ Rows.uptoBulk x.1 ∧ (∀ y ∈ elems, Rows.uptoBulk y.1 + 1 ≤ Rows.uptoBulk x.1) ∧
      ∀ i, i < len → ∃ b o ci y, a = some ⟨b, o, none⟩ ∧ ci.length = n ∧ (∀ j, j < n → W.cell? ⟨b, o + i * n + j, none⟩ = ci[j]?) ∧ elems[i]? = some y ∧ rdW enc W f e ci = some y := by
  cases fuel with
  | zero => simp [rdW, DataW.trod] at h
  | succ fuel =>
  rcases DataW.trod_slice ht h with ⟨rfl, rfl⟩ | ⟨a, len, cap, elems, rest, f, hf, rfl, rfl, hb, hl, hm, hlen, hel, hsp, hns⟩
  · exact ⟨none, 0, 0, fuel, [], Nat.lt_succ_self _, rfl, Nat.le_refl _, rfl, by simp [Rows.uptoBulk], fun y hy => (by cases hy), fun i hi => (by omega)⟩
  · have hlb := bulk_length (elems.map (·.1))
    rw [List.length_map] at hlb
    refine ⟨some a, len, cap, f, elems, by omega, rfl, hl, hlen, by simp only [Rows.uptoBulk]; omega, fun y hy => ?_, fun i hi => ?_⟩
    · have := bulk_part (List.mem_map.2 ⟨y, hy, rfl⟩ : y.1 ∈ elems.map (·.1))
      simp only [Rows.uptoBulk]; omega
    · have key : ∀ i, i < len → ∃ ci y, W.cells? 0 (a.add (i * n)) n = some ci ∧ elems[i]? = some y ∧ rdW enc W f e ci = some y := by
        intro i hi
        have := hel i hi
        rw [hn, List.getElem?_eq_getElem (by omega)] at this
        obtain ⟨ci, h1, h2⟩ := Option.bind_eq_some_iff.1 this
        exact ⟨ci, _, h1, List.getElem?_eq_getElem (by omega), h2⟩
      obtain ⟨c0, y0, g1, -, -⟩ := key 0 (by omega)
      obtain ⟨b, o, spot⟩ := a
      have hspot : spot = none := by
        obtain ⟨-, hl0, hc0⟩ := World.cells?_some g1
        have hh := hc0 0 h0
        rw [List.getElem?_eq_getElem (by omega)] at hh
        simpa [Addr.add] using World.cell?_spot hh
      subst hspot
      obtain ⟨ci, y, g1, g2, g3⟩ := key i hi
      obtain ⟨-, hl0, hc0⟩ := World.cells?_some g1
      refine ⟨b, o, ci, y, rfl, hl0, fun j hj => ?_, g2, g3⟩
      have := hc0 j hj
      rw [add_plain', add_plain'] at this
      exact this

/-- A row's cell. -/
noncomputable def cellO (W : World) (a : Option Addr) (n i j : Nat) : Value := match a with
  | some ad => (W.cell? ⟨ad.block, ad.off + i * n + j, none⟩).getD .nilIface
  | none => .nilIface
theorem cellO_at {b o n i j : Nat} {ci : List Value} (hl : ci.length = n) (h : ∀ j, j < n → W.cell? ⟨b, o + i * n + j, none⟩ = ci[j]?) (hj : j < n) : W.cell? ⟨b, o + i * n + j, none⟩ = some (cellO W (some ⟨b, o, none⟩) n i j) ∧ ci[j]? = some (cellO W (some ⟨b, o, none⟩) n i j) := by
  have e : ci[j]? = some (ci[j]'(by omega)) := List.getElem?_eq_getElem (by omega)
  have e2 : cellO W (some ⟨b, o, none⟩) n i j = ci[j]'(by omega) := by
    unfold cellO
    simp only
    rw [h j hj, e]; rfl
  rw [h j hj, e2]
  exact ⟨e, e⟩
/-- A tree's bounds. -/
def TreeOk (t : T) (n : Nat) : Prop := t.num < 18446744073709551616 ∧ t.text.size + 1 ≤ n ∧ t.keys.length + 1 ≤ n ∧ t.kids.length + 1 ≤ n

set_option maxRecDepth 100000 in
theorem read_tree : ∀ (fuel : Nat) (cs : List Value) (x : DataW H × List MemPlace), rdW enc W fuel 26 cs = some x → ∃ t, TreeAt W (fun _ => True) (.agg cs.toArray) t ∧ TreeOk t (Rows.uptoBulk x.1) := by
  intro fuel
  induction fuel using Nat.strongRecOn with
  | _ fuel ih =>
  intro cs x h
  obtain ⟨xs, n, rfl, rfl, hl, hxl, hf⟩ := DataW.trod_struct Tryz.underlying26 h
  rw [cells26] at hl
  obtain ⟨c0, c1, c2, c3, c4, c5, rfl⟩ : ∃ c0 c1 c2 c3 c4 c5, cs = [c0, c1, c2, c3, c4, c5] := by
    match cs, hl with
    | [a, b, c, d, e, f], _ => exact ⟨a, b, c, d, e, f, rfl⟩
  obtain ⟨x0, x1, x2, x3, x4, x5, rfl⟩ : ∃ x0 x1 x2 x3 x4 x5, xs = [x0, x1, x2, x3, x4, x5] := by
    match xs, hxl with
    | [a, b, c, d, e, f], _ => exact ⟨a, b, c, d, e, f, rfl⟩
  have e3 : Tryz.prog.cellsOf 3 = 1 := by kernel_rfl
  have e22 : Tryz.prog.cellsOf 22 = 1 := by kernel_rfl
  have e4 : Tryz.prog.cellsOf 4 = 1 := by kernel_rfl
  have e23 : Tryz.prog.cellsOf 23 = 1 := by kernel_rfl
  have e24 : Tryz.prog.cellsOf 24 = 1 := by kernel_rfl
  have f0 := hf 0 _ rfl
  have f1 := hf 1 _ rfl
  have f2 := hf 2 _ rfl
  have f3 := hf 3 _ rfl
  have f4 := hf 4 _ rfl
  have f5 := hf 5 _ rfl
  simp only [List.getElem?_cons_zero, List.getElem?_cons_succ] at f0 f1 f2 f3 f4 f5
  obtain ⟨k, g0, q0, -⟩ := DataW.trod_int Tryz.underlying3 f0
  obtain ⟨s, g1, q1, hs⟩ := DataW.trod_string Tryz.underlying9 f1
  obtain ⟨m, g2, q2, hm⟩ := trod_float Tryz.underlying22 f2
  obtain ⟨y, g3, q3⟩ := DataW.trod_bool Tryz.underlying4 f3
  obtain ⟨v4, ks, g4, hks, hkl, hkz⟩ := read_strs f4
  obtain ⟨a, len, cap, f, elems, hfl, g5, hlc, hel, hbl, hbe, hcc⟩ := read_slice Tryz.underlying24 cells26 (by decide) f5
  cases g0; cases g1; cases g2; cases g3; cases g4; cases g5
  subst q0; subst q1; subst q2; subst q3
  -- the kids
  obtain ⟨ts, htl, hts⟩ := list_choose (P := fun i t => ∃ b o, a = some ⟨b, o, none⟩ ∧ ∃ ci : List Value, ci.length = 6 ∧ (∀ j, j < 6 → W.cell? ⟨b, o + i * 6 + j, none⟩ = ci[j]?) ∧ TreeAt W (fun _ => True) (.agg ci.toArray) t) len (fun i hi => by
    obtain ⟨b, o, ci, z, ha, hci, hcell, hz, hr⟩ := hcc i hi
    obtain ⟨t, ht, -⟩ := ih f (by omega) ci z hr
    exact ⟨t, b, o, ha, ci, hci, hcell, ht⟩)
  subst htl
  refine ⟨.mk k s m y ks ts, TreeAt.mk (cellO W a 6) hks hlc (fun i hi => ?_) (fun i t hi => ?_), ?_⟩
  · obtain ⟨b, o, ci, z, ha, hci, hcell, hz, hr⟩ := hcc i hi
    subst ha
    exact ⟨b, o, rfl, trivial, fun j hj => (cellO_at hci hcell hj).1⟩
  · obtain ⟨b, o, ha, ci, hci, hcell, ht⟩ := hts i t hi
    subst ha
    have e : ci = [cellO W (some ⟨b, o, none⟩) 6 i 0, cellO W (some ⟨b, o, none⟩) 6 i 1, cellO W (some ⟨b, o, none⟩) 6 i 2, cellO W (some ⟨b, o, none⟩) 6 i 3, cellO W (some ⟨b, o, none⟩) 6 i 4, cellO W (some ⟨b, o, none⟩) 6 i 5] := by
      apply List.ext_getElem?
      intro j
      rcases Nat.lt_or_ge j 6 with hj | hj
      · rw [(cellO_at hci hcell hj).2]
        have : j = 0 ∨ j = 1 ∨ j = 2 ∨ j = 3 ∨ j = 4 ∨ j = 5 := by omega
        rcases this with rfl | rfl | rfl | rfl | rfl | rfl <;> rfl
      · rw [List.getElem?_eq_none (by omega), List.getElem?_eq_none (by simpa using hj)]
    rw [e] at ht
    exact ht
  · have hm' : m < 18446744073709551616 := by simpa [Lit.wf, FloatKind.format, Ieee.Format.width, Ieee.double] using hm
    have b1 : Rows.uptoBulk (H := H) (.lit (.string s.data.toList)) = s.data.toList.length + 1 := by simp [Rows.uptoBulk]
    have e : s.data.toList.length = s.size := by rw [Array.length_toList]; rfl
    have b4 := bulk_part (List.mem_map.2 ⟨x4, by simp, rfl⟩ : x4.1 ∈ [(DataW.lit (H := H) (.int .i64 k), ([] : List MemPlace)), (.lit (.string s.data.toList), []), (.lit (.float .f64 m), []), (.lit (.bool y), []), x4, x5].map (·.1))
    have b5 := bulk_part (List.mem_map.2 ⟨x5, by simp, rfl⟩ : x5.1 ∈ [(DataW.lit (H := H) (.int .i64 k), ([] : List MemPlace)), (.lit (.string s.data.toList), []), (.lit (.float .f64 m), []), (.lit (.bool y), []), x4, x5].map (·.1))
    have b0 := bulk_part (List.mem_map.2 ⟨(.lit (.string s.data.toList), []), by simp, rfl⟩ : (.lit (.string s.data.toList)) ∈ [(DataW.lit (H := H) (.int .i64 k), ([] : List MemPlace)), (.lit (.string s.data.toList), []), (.lit (.float .f64 m), []), (.lit (.bool y), []), x4, x5].map (·.1))
    have hA : Rows.uptoBulk (H := H) (.agg ([(DataW.lit (H := H) (.int .i64 k), ([] : List MemPlace)), (.lit (.string s.data.toList), []), (.lit (.float .f64 m), []), (.lit (.bool y), []), x4, x5].map (·.1))) = Rows.uptoBulkAll ([(DataW.lit (H := H) (.int .i64 k), ([] : List MemPlace)), (.lit (.string s.data.toList), []), (.lit (.float .f64 m), []), (.lit (.bool y), []), x4, x5].map (·.1)) + 1 := by simp only [Rows.uptoBulk]
    refine ⟨hm', ?_, ?_, ?_⟩
    · show s.size + 1 ≤ Rows.uptoBulk (H := H) (.agg _)
      rw [hA]; omega
    · show ks.length + 1 ≤ Rows.uptoBulk (H := H) (.agg _)
      rw [hA]; omega
    · show ts.length + 1 ≤ Rows.uptoBulk (H := H) (.agg _)
      rw [hA]; omega

theorem read_sets {fuel : Nat} {cs : List Value} {x : DataW H × List MemPlace} (h : rdW enc W fuel 27 cs = some x) :
    ∃ v ss, cs = [v] ∧ SetsAt W (fun _ => True) v ss ∧ ss.length + 1 ≤ Rows.uptoBulk x.1 ∧ ∀ s ∈ ss, TreeOk s.value (Rows.uptoBulk x.1) := by
  obtain ⟨a, len, cap, f, elems, hfl, rfl, hlc, hel, hbl, hbe, hcc⟩ := read_slice Tryz.underlying27 cells45 (by decide) h
  obtain ⟨ss, hsl, hss⟩ := list_choose (P := fun i (s : S) => ∃ b o, a = some ⟨b, o, none⟩ ∧ ∃ ci : List Value, ci.length = 7 ∧ (∀ j, j < 7 → W.cell? ⟨b, o + i * 7 + j, none⟩ = ci[j]?) ∧ ci[0]? = some (.string s.name) ∧ TreeAt W (fun _ => True) (.agg (ci.drop 1).toArray) s.value ∧ TreeOk s.value (Rows.uptoBulk x.1)) len (fun i hi => by
    obtain ⟨b, o, ci, z, ha, hci, hcell, hz, hr⟩ := hcc i hi
    have hzb := hbe z (List.mem_of_getElem? hz)
    obtain ⟨xs, n, rfl, rfl, hl, hxl, hf⟩ := DataW.trod_struct Tryz.underlying45 hr
    obtain ⟨x0, x1, rfl⟩ : ∃ x0 x1, xs = [x0, x1] := by
      match xs, hxl with
      | [a, b], _ => exact ⟨a, b, rfl⟩
    have e6 : (ci.drop 1).take 6 = ci.drop 1 := List.take_of_length_le (by rw [List.length_drop]; omega)
    have f0 : rdW enc W n 9 ((ci.drop 0).take (Tryz.prog.cellsOf 9)) = some x0 := hf 0 _ rfl
    have f1 : rdW enc W n 26 ((ci.drop 1).take (Tryz.prog.cellsOf 26)) = some x1 := hf 1 _ rfl
    rw [cells9, List.drop_zero] at f0
    rw [cells26, e6] at f1
    obtain ⟨s, g0, q0, -⟩ := DataW.trod_string Tryz.underlying9 f0
    obtain ⟨t, ht, htk⟩ := read_tree _ _ _ f1
    have b1 := bulk_part (List.mem_map.2 ⟨x1, by simp, rfl⟩ : x1.1 ∈ [x0, x1].map (·.1))
    have hA : Rows.uptoBulk (H := H) (.agg ([x0, x1].map (·.1))) = Rows.uptoBulkAll ([x0, x1].map (·.1)) + 1 := by simp only [Rows.uptoBulk]
    refine ⟨⟨s, t⟩, b, o, ha, ci, hci, hcell, ?_, ht, ?_⟩
    · have : (ci.take 1)[0]? = some (Value.string s) := by rw [g0]; rfl
      rw [List.getElem?_take, if_pos (by decide)] at this
      exact this
    · obtain ⟨k1, k2, k3, k4⟩ := htk
      rw [hA] at hzb
      exact ⟨k1, (by show t.text.size + 1 ≤ _; omega), (by show t.keys.length + 1 ≤ _; omega), (by show t.kids.length + 1 ≤ _; omega)⟩)
  subst hsl
  refine ⟨_, ss, rfl, ⟨a, cap, cellO W a 7, rfl, hlc, fun i hi => ?_, fun i s hi => ?_⟩, hbl, fun s hs => ?_⟩
  · obtain ⟨b, o, ci, z, ha, hci, hcell, hz, hr⟩ := hcc i hi
    subst ha
    exact ⟨b, o, rfl, trivial, fun j hj => (cellO_at hci hcell hj).1⟩
  · obtain ⟨b, o, ha, ci, hci, hcell, hn, ht, -⟩ := hss i s hi
    subst ha
    have e : ci.drop 1 = [cellO W (some ⟨b, o, none⟩) 7 i 1, cellO W (some ⟨b, o, none⟩) 7 i 2, cellO W (some ⟨b, o, none⟩) 7 i 3, cellO W (some ⟨b, o, none⟩) 7 i 4, cellO W (some ⟨b, o, none⟩) 7 i 5, cellO W (some ⟨b, o, none⟩) 7 i 6] := by
      apply List.ext_getElem?
      intro j
      rw [List.getElem?_drop]
      rcases Nat.lt_or_ge j 6 with hj | hj
      · rw [(cellO_at hci hcell (show 1 + j < 7 by omega)).2]
        have : j = 0 ∨ j = 1 ∨ j = 2 ∨ j = 3 ∨ j = 4 ∨ j = 5 := by omega
        rcases this with rfl | rfl | rfl | rfl | rfl | rfl <;> rfl
      · rw [List.getElem?_eq_none (by omega), List.getElem?_eq_none (by simpa using hj)]
    rw [e] at ht
    have h0 := (cellO_at hci hcell (show 0 < 7 by decide)).2
    rw [hn] at h0
    exact ⟨(Option.some.inj h0).symm, ht⟩
  · obtain ⟨i, hi, hsi⟩ := List.getElem_of_mem hs
    obtain ⟨b, o, ha, ci, hci, hcell, hn, ht, hk⟩ := hss i s (by rw [List.getElem?_eq_getElem hi, hsi])
    exact hk
end
end Go.Proofs.YtbcnhcpgloncdaaGreatDoor
