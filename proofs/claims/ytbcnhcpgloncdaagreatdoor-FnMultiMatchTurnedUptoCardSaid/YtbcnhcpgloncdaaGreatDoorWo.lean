/-
  EACH LISTED VARIABLE READS AS IT IS LISTED, IN THE WITNESS's WORLD.
-/
import Derived.Test.YtbcnhcpgloncdaaGreatDoorWi
import Derived.Test.YtbcnhcpgloncdaaGreatDoorRd
namespace Go.Proofs.YtbcnhcpgloncdaaGreatDoor
open Go.RowKit Go.Lib
section
variable (os : Os) (args : Array Value)

theorem wf_u64 (n : Nat) (h : n < 18446744073709551616) : (Lit.int .u64 (n : Int)).wf = true := by
  have h0 : IntKind.u64.min = 0 := by decide
  have h1 : IntKind.u64.max = 18446744073709551615 := by decide
  simp only [Lit.wf, h0, h1, decide_eq_true_eq, Bool.and_eq_true]
  omega
theorem wf_i64 (n : Nat) (h : n < 1000) : (Lit.int .i64 (n : Int)).wf = true := by
  have h0 : IntKind.i64.min = -9223372036854775808 := by decide
  have h1 : IntKind.i64.max = 9223372036854775807 := by decide
  simp only [Lit.wf, h0, h1, decide_eq_true_eq, Bool.and_eq_true]
  omega
theorem wf64 : (Go.Pinned.pow10Rows.all fun x => decide (x.1 < 18446744073709551616) && decide (x.2 < 18446744073709551616)) = true := by decide +kernel
theorem wfCheat : (Go.Pinned.cheatRows.all fun x => decide (x.1 < 1000) && decide (x.2.length < 1000)) = true := by decide +kernel
theorem len10 : Go.Pinned.pow10Rows.length = 696 := by decide +kernel
theorem lenCheat : Go.Pinned.cheatRows.length = 61 := by decide +kernel
theorem cells289 : Tryz.prog.cellsOf 289 = 696 * 2 := by kernel_rfl
theorem cells294 : Tryz.prog.cellsOf 294 = 2 := by kernel_rfl
theorem cells3 : Tryz.prog.cellsOf 3 = 1 := by kernel_rfl

theorem one_pow10 : OneVar (laidMem os args) tagB "internal/strconv.pow10Tab" Rows.laid_internal_strconv_pow10Tab 13 := by
  refine one_plain 5 gTen (show (Tryz.prog.globals[13]?).map (·.type) = some 289 by kernel_rfl) (at13 os args) ?_ (by unfold tagB; kernel_rfl) ?_
  · refine arr_reads (fuel := 4) (m := 2) Go.Pinned.pow10Rows pow10Cell (fun x => .agg [.lit (.int .u64 x.1), .lit (.int .u64 x.2)]) (by rw [len10]; exact Tryz.underlying289) (by rw [len10]; exact cells289) cells288 (fun _ => rfl) ?_
    intro x hx
    have hw := List.all_eq_true.1 wf64 x hx
    simp only [Bool.and_eq_true, decide_eq_true_eq] at hw
    have w1 := wf_u64 x.1 hw.1
    have w2 := wf_u64 x.2 hw.2
    simp [DataW.trod, Tryz.underlying288, Tryz.underlying190, cells288, cells190, pow10Cell, w1, w2]
  · intro v hv
    obtain ⟨x, _, hx⟩ := List.mem_flatMap.1 (show v ∈ Go.Pinned.pow10Rows.flatMap pow10Cell from hv)
    simp [pow10Cell] at hx
    rcases hx with rfl | rfl <;> rfl

theorem one_cheat : OneVar (laidMem os args) tagB "internal/strconv.leftcheats" Rows.laid_internal_strconv_leftcheats 14 := by
  refine one_slice 5 (61 * 2) (show Tryz.prog.globalNamed "internal/strconv.leftcheats" = some 14 by kernel_rfl) (show (Tryz.prog.globals[14]?).map (·.type) = some 295 by kernel_rfl) (at14 os args) (atN1 os args) ?_ (by unfold tagB; kernel_rfl) (by unfold tagB; kernel_rfl) (by decide +kernel) ?_
  · have := slice_reads (W := laidMem os args) (fuel := 4) (m := 2) (R := bigN + 1) (T := 294) Go.Pinned.cheatRows cheatCell (fun x => .agg [.lit (.int .i64 x.1), .lit (.string x.2)]) Tryz.underlying295 cells294 (fun _ => rfl) (by rw [lenCheat]; decide) (atN1 os args) (fun x hx => by
      have hw := List.all_eq_true.1 wfCheat x hx
      simp only [Bool.and_eq_true, decide_eq_true_eq] at hw
      have w1 := wf_i64 x.1 hw.1
      have w2 : (⟨x.2.toArray⟩ : ByteArray).size ≤ maxLen := by
        show x.2.toArray.size ≤ maxLen
        unfold maxLen; simp; omega
      simp [DataW.trod, Tryz.underlying294, Tryz.underlying3, Tryz.underlying9, cells294, cells3, cells9, cheatCell, w1, w2])
    rw [lenCheat] at this
    exact this
  · intro v hv
    obtain ⟨x, _, hx⟩ := List.mem_flatMap.1 (show v ∈ Go.Pinned.cheatRows.flatMap cheatCell from hv)
    simp [cheatCell] at hx
    rcases hx with rfl | rfl <;> rfl

theorem one_case : OneVar (laidMem os args) tagB "unicode.CaseRanges" Rows.laid_unicode_CaseRanges 2 := by
  rw [show Rows.laid_unicode_CaseRanges = caseData from Go.Pinned.caseRanges_eq]
  refine one_slice 4 (336 * 5) (show Tryz.prog.globalNamed "unicode.CaseRanges" = some 2 by kernel_rfl) (show (Tryz.prog.globals[2]?).map (·.type) = some 186 by kernel_rfl) (at2 os args) (atN os args) ?_ (by unfold tagB; kernel_rfl) (by unfold tagB; kernel_rfl) (by decide +kernel) ?_
  · have hread := case_slice_reads (P := Tryz.prog) (ρ := Tryz.lays262_ren) { Tryz.lays262 with } Tryz.lays262.t206 ⟨by kernel_rfl, by kernel_rfl, by kernel_rfl, by kernel_rfl, by kernel_rfl, by kernel_rfl⟩ (caseTab_of_block (atN os args)) caseA_wf (by rw [caseA_size]; unfold maxLen; omega) 0
    rw [case_rows_data, caseA_size] at hread
    exact hread
  · intro v hv
    obtain ⟨x, _, hx⟩ := List.mem_flatMap.1 (show v ∈ caseT.flatMap cells5 from hv)
    simp [cells5] at hx
    rcases hx with rfl | rfl | rfl | rfl | rfl <;> rfl

theorem ints_noIface (k : IntKind) (zs : List Int) : ∀ v ∈ (intsOf k zs).toList, noIface v = true := fun v hv => by
  obtain ⟨z, _, rfl⟩ := List.mem_map.1 (show v ∈ zs.map fun z => Value.int k z from hv)
  rfl
theorem one_opt : OneVar (laidMem os args) tagB "internal/strconv.optimize" Rows.laid_internal_strconv_optimize 3 :=
  one_plain 3 gOpt (show (Tryz.prog.globals[3]?).map (·.type) = some 4 by kernel_rfl) (at3 os args) (by simp [DataW.trod, Tryz.underlying4, Rows.laid_internal_strconv_optimize]) (by unfold tagB; kernel_rfl) (by intro v hv; simp at hv; subst hv; rfl)
theorem one_u64 : OneVar (laidMem os args) tagB "internal/strconv.uint64pow10" Rows.laid_internal_strconv_uint64pow10 9 :=
  one_plain 4 gPow (show (Tryz.prog.globals[9]?).map (·.type) = some 264 by kernel_rfl) (at9 os args) (by kernel_rfl) (by unfold tagB; kernel_rfl) (ints_noIface _ _)
theorem one_first : OneVar (laidMem os args) tagB "unicode/utf8.first" Rows.laid_unicode_utf8_first 7 :=
  one_plain 4 (show Tryz.prog.globalNamed "unicode/utf8.first" = some 7 by kernel_rfl) (show (Tryz.prog.globals[7]?).map (·.type) = some 235 by kernel_rfl) (at7 os args) (by kernel_rfl) (by unfold tagB; kernel_rfl) (ints_noIface _ _)
theorem one_accept : OneVar (laidMem os args) tagB "unicode/utf8.acceptRanges" Rows.laid_unicode_utf8_acceptRanges 8 :=
  one_plain 5 (show Tryz.prog.globalNamed "unicode/utf8.acceptRanges" = some 8 by kernel_rfl) (show (Tryz.prog.globals[8]?).map (·.type) = some 238 by kernel_rfl) (at8 os args) (by kernel_rfl) (by unfold tagB; kernel_rfl) (fun v hv => by
    obtain ⟨x, _, hx⟩ := List.mem_flatMap.1 (show v ∈ (List.range 16).flatMap fun i => [Value.int .u8 (accLo i), Value.int .u8 (accHi i)] from hv)
    simp at hx
    rcases hx with rfl | rfl <;> rfl)
theorem one_db32 : OneVar (laidMem os args) tagB "math/bits.deBruijn32tab" Rows.laid_math_bits_deBruijn32tab 15 :=
  one_plain 4 (show Tryz.prog.globalNamed "math/bits.deBruijn32tab" = some 15 by kernel_rfl) (show (Tryz.prog.globals[15]?).map (·.type) = some 197 by kernel_rfl) (at15 os args) (by kernel_rfl) (by unfold tagB; kernel_rfl) (ints_noIface _ _)
theorem one_db64 : OneVar (laidMem os args) tagB "math/bits.deBruijn64tab" Rows.laid_math_bits_deBruijn64tab 16 :=
  one_plain 4 (show Tryz.prog.globalNamed "math/bits.deBruijn64tab" = some 16 by kernel_rfl) (show (Tryz.prog.globals[16]?).map (·.type) = some 301 by kernel_rfl) (at16 os args) (by kernel_rfl) (by unfold tagB; kernel_rfl) (ints_noIface _ _)
end
end Go.Proofs.YtbcnhcpgloncdaaGreatDoor
