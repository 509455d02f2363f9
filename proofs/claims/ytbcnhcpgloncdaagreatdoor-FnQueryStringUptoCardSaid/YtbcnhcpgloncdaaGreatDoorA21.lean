/-
  A WORLD FOR THE WITNESS: the library's tables laid.
-/
import Derived.Test.YtbcnhcpgloncdaaGreatDoorA20
import Derived.WideWitness
namespace Go.Proofs.YtbcnhcpgloncdaaGreatDoor
open Go.RowKit Go.Lib

def pow10Cell (x : Nat × Nat) : List Value := [.int .u64 x.1, .int .u64 x.2]
def cheatCell (x : Nat × List UInt8) : List Value := [.int .i64 x.1, .string ⟨x.2.toArray⟩]
def intsOf (k : IntKind) (zs : List Int) : Array Value := (zs.map fun z => Value.int k z).toArray
def db32 : List Int := [0, 1, 28, 2, 29, 14, 24, 3, 30, 22, 20, 15, 25, 17, 4, 8, 31, 27, 13, 23, 21, 19, 16, 7, 26, 12, 18, 6, 11, 5, 10, 9]
def db64 : List Int := [0, 1, 56, 2, 57, 49, 28, 3, 61, 58, 42, 50, 38, 29, 17, 4, 62, 47, 59, 36, 45, 43, 51, 22, 53, 39, 33, 30, 24, 18, 12, 5, 63, 55, 48, 27, 60, 41, 37, 16, 46, 35, 44, 21, 52, 32, 23, 11, 54, 26, 40, 15, 34, 20, 31, 10, 25, 14, 19, 9, 13, 8, 7, 6]
def pow10Cells : Array Value := (Go.Pinned.pow10Rows.flatMap pow10Cell).toArray
def cheatCells : Array Value := (Go.Pinned.cheatRows.flatMap cheatCell).toArray
def acceptCells : Array Value := ((List.range 16).flatMap fun i => [Value.int .u8 (accLo i), Value.int .u8 (accHi i)]).toArray

def putVar (h : Array Obj) (g : Nat) (cs : Array Value) : Array Obj := h.modify g fun
  | .cells _ t frozen => .cells cs t frozen
  | o => o
noncomputable def laidWorld (os : Os) : World :=
  let N := (World.settled Tryz.prog os).heap.size
  let w0 := World.holding Tryz.prog os ⟨#[.cells caseCells5 280, .cells cheatCells 294], #[], []⟩
  let h1 := putVar w0.heap 2 #[.slice (some ⟨N, 0, none⟩) 336 336]
  let h2 := putVar h1 14 #[.slice (some ⟨N + 1, 0, none⟩) 61 61]
  let h3 := putVar h2 3 #[.bool true]
  let h4 := putVar h3 9 (intsOf .u64 pow10Tab)
  let h5 := putVar h4 7 (intsOf .u8 firstTab)
  let h6 := putVar h5 8 acceptCells
  let h7 := putVar h6 13 pow10Cells
  let h8 := putVar h7 15 (intsOf .u8 db32)
  let h9 := putVar h8 16 (intsOf .u8 db64)
  { w0 with heap := h9 }
def zeroTree : Value := .agg #[.int .i64 0, .string ⟨#[]⟩, .float .f64 0, .bool false, .slice none 0 0, .slice none 0 0]
def args3 : Array Value := #[zeroTree, .slice none 0 0, .slice none 0 0]
noncomputable def laidMem (os : Os) (args : Array Value) : World := ((laidWorld os).forCall (fun _ _ => 0) ⟨#[], args, []⟩).memory

/-- The two rows' blocks. -/
noncomputable def bigN : Nat := (World.settled Tryz.prog default).heap.size
noncomputable def tagB (b : Nat) : Nat := if b = bigN then 2 else if b = bigN + 1 then 14 else b
noncomputable def keyB (n : String) : Nat := (Tryz.prog.globalNamed n).getD 99

theorem at2 (os : Os) (args : Array Value) : (laidMem os args).heap[2]? = some (.cells #[.slice (some ⟨bigN, 0, none⟩) 336 336] 186 (0, 0)) := by kernel_rfl
theorem at14 (os : Os) (args : Array Value) : (laidMem os args).heap[14]? = some (.cells #[.slice (some ⟨bigN + 1, 0, none⟩) 61 61] 295 (0, 0)) := by kernel_rfl
theorem at3 (os : Os) (args : Array Value) : (laidMem os args).heap[3]? = some (.cells #[.bool true] 4 (0, 0)) := by kernel_rfl
theorem at9 (os : Os) (args : Array Value) : (laidMem os args).heap[9]? = some (.cells (intsOf .u64 pow10Tab) 264 (0, 0)) := by kernel_rfl
theorem at7 (os : Os) (args : Array Value) : (laidMem os args).heap[7]? = some (.cells (intsOf .u8 firstTab) 235 (0, 0)) := by kernel_rfl
theorem at8 (os : Os) (args : Array Value) : (laidMem os args).heap[8]? = some (.cells acceptCells 238 (0, 0)) := by kernel_rfl
theorem at13 (os : Os) (args : Array Value) : (laidMem os args).heap[13]? = some (.cells pow10Cells 289 (0, 0)) := by kernel_rfl
theorem at15 (os : Os) (args : Array Value) : (laidMem os args).heap[15]? = some (.cells (intsOf .u8 db32) 197 (0, 0)) := by kernel_rfl
theorem at16 (os : Os) (args : Array Value) : (laidMem os args).heap[16]? = some (.cells (intsOf .u8 db64) 301 (0, 0)) := by kernel_rfl
theorem atN (os : Os) (args : Array Value) : (laidMem os args).heap[bigN]? = some (.cells caseCells5 280 (0, 0)) := by kernel_rfl
theorem atN1 (os : Os) (args : Array Value) : (laidMem os args).heap[bigN + 1]? = some (.cells cheatCells 294 (0, 0)) := by kernel_rfl
end Go.Proofs.YtbcnhcpgloncdaaGreatDoor

/-
  EACH LISTED VARIABLE READS AS IT IS LISTED, IN THE WITNESS's WORLD.
-/
namespace Go.Proofs.YtbcnhcpgloncdaaGreatDoor
open Go.RowKit Go.Lib
section
variable (os : Os) (args : Array Value)

theorem wf_u64 (n : Nat) (h : n < 18446744073709551616) : (Lit.int .u64 (n : Int)).wf = true := by
  have h0 : IntKind.u64.min = 0 := by decide
  have h1 : IntKind.u64.max = 18446744073709551615 := by decide
  simp only [Lit.wf, h0, h1, decide_eq_true_eq, Bool.and_eq_true]
  omega
theorem wf_i64 (n : Nat) (h : n < 1000) : (Lit.int .i64 (n : Int)).wf = true := by
  have h0 : IntKind.i64.min = -9223372036854775808 := by decide
  have h1 : IntKind.i64.max = 9223372036854775807 := by decide
  simp only [Lit.wf, h0, h1, decide_eq_true_eq, Bool.and_eq_true]
  omega
theorem wf64 : (Go.Pinned.pow10Rows.all fun x => decide (x.1 < 18446744073709551616) && decide (x.2 < 18446744073709551616)) = true := by decide +kernel
theorem wfCheat : (Go.Pinned.cheatRows.all fun x => decide (x.1 < 1000) && decide (x.2.length < 1000)) = true := by decide +kernel
theorem len10 : Go.Pinned.pow10Rows.length = 696 := by decide +kernel
theorem lenCheat : Go.Pinned.cheatRows.length = 61 := by decide +kernel
theorem cells289 : Tryz.prog.cellsOf 289 = 696 * 2 := by kernel_rfl
theorem cells294 : Tryz.prog.cellsOf 294 = 2 := by kernel_rfl
theorem cells3 : Tryz.prog.cellsOf 3 = 1 := by kernel_rfl

theorem one_pow10 : OneVar (laidMem os args) tagB "internal/strconv.pow10Tab" Rows.laid_internal_strconv_pow10Tab 13 := by
  refine one_plain 5 gTen (show (Tryz.prog.globals[13]?).map (·.type) = some 289 by kernel_rfl) (at13 os args) ?_ (by unfold tagB; kernel_rfl) ?_
  · refine arr_reads (fuel := 4) (m := 2) Go.Pinned.pow10Rows pow10Cell (fun x => .agg [.lit (.int .u64 x.1), .lit (.int .u64 x.2)]) (by rw [len10]; exact Tryz.underlying289) (by rw [len10]; exact cells289) cells288 (fun _ => rfl) ?_
    intro x hx
    have hw := List.all_eq_true.1 wf64 x hx
    simp only [Bool.and_eq_true, decide_eq_true_eq] at hw
    have w1 := wf_u64 x.1 hw.1
    have w2 := wf_u64 x.2 hw.2
    simp [DataW.trod, Tryz.underlying288, Tryz.underlying190, cells288, cells190, pow10Cell, w1, w2]
  · intro v hv
    obtain ⟨x, _, hx⟩ := List.mem_flatMap.1 (show v ∈ Go.Pinned.pow10Rows.flatMap pow10Cell from hv)
    simp [pow10Cell] at hx
    rcases hx with rfl | rfl <;> rfl

theorem one_cheat : OneVar (laidMem os args) tagB "internal/strconv.leftcheats" Rows.laid_internal_strconv_leftcheats 14 := by
  refine one_slice 5 (61 * 2) (show Tryz.prog.globalNamed "internal/strconv.leftcheats" = some 14 by kernel_rfl) (show (Tryz.prog.globals[14]?).map (·.type) = some 295 by kernel_rfl) (at14 os args) (atN1 os args) ?_ (by unfold tagB; kernel_rfl) (by unfold tagB; kernel_rfl) (by decide +kernel) ?_
  · have := slice_reads (W := laidMem os args) (fuel := 4) (m := 2) (R := bigN + 1) (T := 294) Go.Pinned.cheatRows cheatCell (fun x => .agg [.lit (.int .i64 x.1), .lit (.string x.2)]) Tryz.underlying295 cells294 (fun _ => rfl) (by rw [lenCheat]; decide) (atN1 os args) (fun x hx => by
      have hw := List.all_eq_true.1 wfCheat x hx
      simp only [Bool.and_eq_true, decide_eq_true_eq] at hw
      have w1 := wf_i64 x.1 hw.1
      have w2 : (⟨x.2.toArray⟩ : ByteArray).size ≤ maxLen := by
        show x.2.toArray.size ≤ maxLen
        unfold maxLen; simp; omega
      simp [DataW.trod, Tryz.underlying294, Tryz.underlying3, Tryz.underlying9, cells294, cells3, cells9, cheatCell, w1, w2])
    rw [lenCheat] at this
    exact this
  · intro v hv
    obtain ⟨x, _, hx⟩ := List.mem_flatMap.1 (show v ∈ Go.Pinned.cheatRows.flatMap cheatCell from hv)
    simp [cheatCell] at hx
    rcases hx with rfl | rfl <;> rfl

theorem one_case : OneVar (laidMem os args) tagB "unicode.CaseRanges" Rows.laid_unicode_CaseRanges 2 := by
  rw [show Rows.laid_unicode_CaseRanges = caseData from Go.Pinned.caseRanges_eq]
  refine one_slice 4 (336 * 5) (show Tryz.prog.globalNamed "unicode.CaseRanges" = some 2 by kernel_rfl) (show (Tryz.prog.globals[2]?).map (·.type) = some 186 by kernel_rfl) (at2 os args) (atN os args) ?_ (by unfold tagB; kernel_rfl) (by unfold tagB; kernel_rfl) (by decide +kernel) ?_
  · have hread := case_slice_reads (P := Tryz.prog) (ρ := Tryz.lays262_ren) { Tryz.lays262 with } Tryz.lays262.t206 ⟨by kernel_rfl, by kernel_rfl, by kernel_rfl, by kernel_rfl, by kernel_rfl, by kernel_rfl⟩ (caseTab_of_block (atN os args)) caseA_wf (by rw [caseA_size]; unfold maxLen; omega) 0
    rw [case_rows_data, caseA_size] at hread
    exact hread
  · intro v hv
    obtain ⟨x, _, hx⟩ := List.mem_flatMap.1 (show v ∈ caseT.flatMap cells5 from hv)
    simp [cells5] at hx
    rcases hx with rfl | rfl | rfl | rfl | rfl <;> rfl

theorem ints_noIface (k : IntKind) (zs : List Int) : ∀ v ∈ (intsOf k zs).toList, noIface v = true := fun v hv => by
  obtain ⟨z, _, rfl⟩ := List.mem_map.1 (show v ∈ zs.map fun z => Value.int k z from hv)
  rfl
theorem one_opt : OneVar (laidMem os args) tagB "internal/strconv.optimize" Rows.laid_internal_strconv_optimize 3 :=
  one_plain 3 gOpt (show (Tryz.prog.globals[3]?).map (·.type) = some 4 by kernel_rfl) (at3 os args) (by simp [DataW.trod, Tryz.underlying4, Rows.laid_internal_strconv_optimize]) (by unfold tagB; kernel_rfl) (by intro v hv; simp at hv; subst hv; rfl)
theorem one_u64 : OneVar (laidMem os args) tagB "internal/strconv.uint64pow10" Rows.laid_internal_strconv_uint64pow10 9 :=
  one_plain 4 gPow (show (Tryz.prog.globals[9]?).map (·.type) = some 264 by kernel_rfl) (at9 os args) (by kernel_rfl) (by unfold tagB; kernel_rfl) (ints_noIface _ _)
theorem one_first : OneVar (laidMem os args) tagB "unicode/utf8.first" Rows.laid_unicode_utf8_first 7 :=
  one_plain 4 (show Tryz.prog.globalNamed "unicode/utf8.first" = some 7 by kernel_rfl) (show (Tryz.prog.globals[7]?).map (·.type) = some 235 by kernel_rfl) (at7 os args) (by kernel_rfl) (by unfold tagB; kernel_rfl) (ints_noIface _ _)
theorem one_accept : OneVar (laidMem os args) tagB "unicode/utf8.acceptRanges" Rows.laid_unicode_utf8_acceptRanges 8 :=
  one_plain 5 (show Tryz.prog.globalNamed "unicode/utf8.acceptRanges" = some 8 by kernel_rfl) (show (Tryz.prog.globals[8]?).map (·.type) = some 238 by kernel_rfl) (at8 os args) (by kernel_rfl) (by unfold tagB; kernel_rfl) (fun v hv => by
    obtain ⟨x, _, hx⟩ := List.mem_flatMap.1 (show v ∈ (List.range 16).flatMap fun i => [Value.int .u8 (accLo i), Value.int .u8 (accHi i)] from hv)
    simp at hx
    rcases hx with rfl | rfl <;> rfl)
theorem one_db32 : OneVar (laidMem os args) tagB "math/bits.deBruijn32tab" Rows.laid_math_bits_deBruijn32tab 15 :=
  one_plain 4 (show Tryz.prog.globalNamed "math/bits.deBruijn32tab" = some 15 by kernel_rfl) (show (Tryz.prog.globals[15]?).map (·.type) = some 197 by kernel_rfl) (at15 os args) (by kernel_rfl) (by unfold tagB; kernel_rfl) (ints_noIface _ _)
theorem one_db64 : OneVar (laidMem os args) tagB "math/bits.deBruijn64tab" Rows.laid_math_bits_deBruijn64tab 16 :=
  one_plain 4 (show Tryz.prog.globalNamed "math/bits.deBruijn64tab" = some 16 by kernel_rfl) (show (Tryz.prog.globals[16]?).map (·.type) = some 301 by kernel_rfl) (at16 os args) (by kernel_rfl) (by unfold tagB; kernel_rfl) (ints_noIface _ _)
end
end Go.Proofs.YtbcnhcpgloncdaaGreatDoor

/-
  A WORLD FOR THE WITNESS OF THE LAWS THAT READ BACK: sixteen of the library's variables laid.
-/
namespace Go.Proofs.YtbcnhcpgloncdaaGreatDoor
open Go.RowKit Go.Lib

def floatsOf (k : FloatKind) (ns : List Nat) : Array Value := (ns.map fun n => Value.float k n).toArray
def p64 : List Nat := [4607182418800017408, 4621819117588971520, 4636737291354636288, 4652007308841189376, 4666723172467343360, 4681608360884174848, 4696837146684686336, 4711630319722168320, 4726483295884279808, 4741671816366391296, 4756540486875873280, 4771362005757984768, 4786511204640096256, 4801453603149578240, 4816244402031689728, 4831355200913801216, 4846369599423283200, 4861130398305394688, 4876203697187506176, 4891288408196988160, 4906019910204099648, 4921056587992461136, 4936209963552724370]
def p32 : List Nat := [1065353216, 1092616192, 1120403456, 1148846080, 1176256512, 1203982336, 1232348160, 1259902592, 1287568416, 1315859240, 1343554297]
def powtabL : List Int := [1, 3, 6, 9, 13, 16, 19, 23, 26]
def rangeText : List UInt8 := [118, 97, 108, 117, 101, 32, 111, 117, 116, 32, 111, 102, 32, 114, 97, 110, 103, 101]
def syntaxText : List UInt8 := [105, 110, 118, 97, 108, 105, 100, 32, 115, 121, 110, 116, 97, 120]
def strCell (t : List UInt8) : Array Value := #[.string ⟨t.toArray⟩]
noncomputable def laidWorldX (os : Os) : World :=
  let N := (World.settled Tryz.prog os).heap.size
  let w0 := World.holding Tryz.prog os ⟨#[.cells caseCells5 280, .cells cheatCells 294, .cells (intsOf .i64 powtabL) 3, .cells (floatsOf .f64 p64) 22, .cells (floatsOf .f32 p32) 171, .cells (strCell rangeText) 234, .cells (strCell syntaxText) 234], #[], []⟩
  let h1 := putVar w0.heap 2 #[.slice (some ⟨N, 0, none⟩) 336 336]
  let h2 := putVar h1 14 #[.slice (some ⟨N + 1, 0, none⟩) 61 61]
  let h3 := putVar h2 3 #[.bool true]
  let h4 := putVar h3 9 (intsOf .u64 pow10Tab)
  let h5 := putVar h4 7 (intsOf .u8 firstTab)
  let h6 := putVar h5 8 acceptCells
  let h7 := putVar h6 13 pow10Cells
  let h8 := putVar h7 15 (intsOf .u8 db32)
  let h9 := putVar h8 16 (intsOf .u8 db64)
  let ha := putVar h9 11 #[.slice (some ⟨N + 2, 0, none⟩) 9 9]
  let hb := putVar ha 12 #[.slice (some ⟨N + 3, 0, none⟩) 23 23]
  let hc := putVar hb 10 #[.slice (some ⟨N + 4, 0, none⟩) 11 11]
  let hd := putVar hc 1 #[.iface 232 (.pointer (some ⟨N + 5, 0, none⟩))]
  let he := putVar hd 0 #[.iface 232 (.pointer (some ⟨N + 6, 0, none⟩))]
  let hf := putVar he 4 #[.int .u64 23, .int .u64 8, .int .i64 (-127)]
  let hg := putVar hf 5 #[.int .u64 52, .int .u64 11, .int .i64 (-1023)]
  { w0 with heap := hg }
def args2 : Array Value := #[zeroTree, .slice none 0 0]
noncomputable def laidMemX (os : Os) (args : Array Value) : World := ((laidWorldX os).forCall (fun _ _ => 0) ⟨#[], args, []⟩).memory

noncomputable def tagX (b : Nat) : Nat := if b = bigN then 2 else if b = bigN + 1 then 14 else if b = bigN + 2 then 11 else if b = bigN + 3 then 12 else if b = bigN + 4 then 10 else if b = bigN + 5 then 1 else if b = bigN + 6 then 0 else b
section
variable (os : Os) (args : Array Value)
theorem atX2 : (laidMemX os args).heap[2]? = some (.cells #[.slice (some ⟨bigN, 0, none⟩) 336 336] 186 (0, 0)) := by kernel_rfl
theorem atX14 : (laidMemX os args).heap[14]? = some (.cells #[.slice (some ⟨bigN + 1, 0, none⟩) 61 61] 295 (0, 0)) := by kernel_rfl
theorem atX3 : (laidMemX os args).heap[3]? = some (.cells #[.bool true] 4 (0, 0)) := by kernel_rfl
theorem atX9 : (laidMemX os args).heap[9]? = some (.cells (intsOf .u64 pow10Tab) 264 (0, 0)) := by kernel_rfl
theorem atX7 : (laidMemX os args).heap[7]? = some (.cells (intsOf .u8 firstTab) 235 (0, 0)) := by kernel_rfl
theorem atX8 : (laidMemX os args).heap[8]? = some (.cells acceptCells 238 (0, 0)) := by kernel_rfl
theorem atX13 : (laidMemX os args).heap[13]? = some (.cells pow10Cells 289 (0, 0)) := by kernel_rfl
theorem atX15 : (laidMemX os args).heap[15]? = some (.cells (intsOf .u8 db32) 197 (0, 0)) := by kernel_rfl
theorem atX16 : (laidMemX os args).heap[16]? = some (.cells (intsOf .u8 db64) 301 (0, 0)) := by kernel_rfl
theorem atX11 : (laidMemX os args).heap[11]? = some (.cells #[.slice (some ⟨bigN + 2, 0, none⟩) 9 9] 274 (0, 0)) := by kernel_rfl
theorem atX12 : (laidMemX os args).heap[12]? = some (.cells #[.slice (some ⟨bigN + 3, 0, none⟩) 23 23] 146 (0, 0)) := by kernel_rfl
theorem atX10 : (laidMemX os args).heap[10]? = some (.cells #[.slice (some ⟨bigN + 4, 0, none⟩) 11 11] 272 (0, 0)) := by kernel_rfl
theorem atX1 : (laidMemX os args).heap[1]? = some (.cells #[.iface 232 (.pointer (some ⟨bigN + 5, 0, none⟩))] 61 (0, 0)) := by kernel_rfl
theorem atX0 : (laidMemX os args).heap[0]? = some (.cells #[.iface 232 (.pointer (some ⟨bigN + 6, 0, none⟩))] 61 (0, 0)) := by kernel_rfl
theorem atX4 : (laidMemX os args).heap[4]? = some (.cells #[.int .u64 23, .int .u64 8, .int .i64 (-127)] 218 (0, 0)) := by kernel_rfl
theorem atX5 : (laidMemX os args).heap[5]? = some (.cells #[.int .u64 52, .int .u64 11, .int .i64 (-1023)] 218 (0, 0)) := by kernel_rfl
theorem atXN0 : (laidMemX os args).heap[bigN]? = some (.cells caseCells5 280 (0, 0)) := by kernel_rfl
theorem atXN1 : (laidMemX os args).heap[bigN + 1]? = some (.cells cheatCells 294 (0, 0)) := by kernel_rfl
theorem atXN2 : (laidMemX os args).heap[bigN + 2]? = some (.cells (intsOf .i64 powtabL) 3 (0, 0)) := by kernel_rfl
theorem atXN3 : (laidMemX os args).heap[bigN + 3]? = some (.cells (floatsOf .f64 p64) 22 (0, 0)) := by kernel_rfl
theorem atXN4 : (laidMemX os args).heap[bigN + 4]? = some (.cells (floatsOf .f32 p32) 171 (0, 0)) := by kernel_rfl
theorem atXN5 : (laidMemX os args).heap[bigN + 5]? = some (.cells (strCell rangeText) 234 (0, 0)) := by kernel_rfl
theorem atXN6 : (laidMemX os args).heap[bigN + 6]? = some (.cells (strCell syntaxText) 234 (0, 0)) := by kernel_rfl
end
end Go.Proofs.YtbcnhcpgloncdaaGreatDoor

/-
  EACH LISTED VARIABLE READS AS IT IS LISTED, IN THAT WORLD.
-/
namespace Go.Proofs.YtbcnhcpgloncdaaGreatDoor
open Go.RowKit Go.Lib
section
variable (os : Os) (args : Array Value)

theorem oneX_pow10 : OneVar (laidMemX os args) tagX "internal/strconv.pow10Tab" Rows.laid_internal_strconv_pow10Tab 13 := by
  refine one_plain 5 gTen (show (Tryz.prog.globals[13]?).map (·.type) = some 289 by kernel_rfl) (atX13 os args) ?_ (by unfold tagX; kernel_rfl) ?_
  · refine arr_reads (fuel := 4) (m := 2) Go.Pinned.pow10Rows pow10Cell (fun x => .agg [.lit (.int .u64 x.1), .lit (.int .u64 x.2)]) (by rw [len10]; exact Tryz.underlying289) (by rw [len10]; exact cells289) cells288 (fun _ => rfl) ?_
    intro x hx
    have hw := List.all_eq_true.1 wf64 x hx
    simp only [Bool.and_eq_true, decide_eq_true_eq] at hw
    have w1 := wf_u64 x.1 hw.1
    have w2 := wf_u64 x.2 hw.2
    simp [DataW.trod, Tryz.underlying288, Tryz.underlying190, cells288, cells190, pow10Cell, w1, w2]
  · intro v hv
    obtain ⟨x, _, hx⟩ := List.mem_flatMap.1 (show v ∈ Go.Pinned.pow10Rows.flatMap pow10Cell from hv)
    simp [pow10Cell] at hx
    rcases hx with rfl | rfl <;> rfl

theorem oneX_cheat : OneVar (laidMemX os args) tagX "internal/strconv.leftcheats" Rows.laid_internal_strconv_leftcheats 14 := by
  refine one_slice 5 (61 * 2) (show Tryz.prog.globalNamed "internal/strconv.leftcheats" = some 14 by kernel_rfl) (show (Tryz.prog.globals[14]?).map (·.type) = some 295 by kernel_rfl) (atX14 os args) (atXN1 os args) ?_ (by unfold tagX; kernel_rfl) (by unfold tagX; kernel_rfl) (by decide +kernel) ?_
  · have := slice_reads (W := laidMemX os args) (fuel := 4) (m := 2) (R := bigN + 1) (T := 294) Go.Pinned.cheatRows cheatCell (fun x => .agg [.lit (.int .i64 x.1), .lit (.string x.2)]) Tryz.underlying295 cells294 (fun _ => rfl) (by rw [lenCheat]; decide) (atXN1 os args) (fun x hx => by
      have hw := List.all_eq_true.1 wfCheat x hx
      simp only [Bool.and_eq_true, decide_eq_true_eq] at hw
      have w1 := wf_i64 x.1 hw.1
      have w2 : (⟨x.2.toArray⟩ : ByteArray).size ≤ maxLen := by
        show x.2.toArray.size ≤ maxLen
        unfold maxLen; simp; omega
      simp [DataW.trod, Tryz.underlying294, Tryz.underlying3, Tryz.underlying9, cells294, cells3, cells9, cheatCell, w1, w2])
    rw [lenCheat] at this
    exact this
  · intro v hv
    obtain ⟨x, _, hx⟩ := List.mem_flatMap.1 (show v ∈ Go.Pinned.cheatRows.flatMap cheatCell from hv)
    simp [cheatCell] at hx
    rcases hx with rfl | rfl <;> rfl

theorem oneX_case : OneVar (laidMemX os args) tagX "unicode.CaseRanges" Rows.laid_unicode_CaseRanges 2 := by
  rw [show Rows.laid_unicode_CaseRanges = caseData from Go.Pinned.caseRanges_eq]
  refine one_slice 4 (336 * 5) (show Tryz.prog.globalNamed "unicode.CaseRanges" = some 2 by kernel_rfl) (show (Tryz.prog.globals[2]?).map (·.type) = some 186 by kernel_rfl) (atX2 os args) (atXN0 os args) ?_ (by unfold tagX; kernel_rfl) (by unfold tagX; kernel_rfl) (by decide +kernel) ?_
  · have hread := case_slice_reads (P := Tryz.prog) (ρ := Tryz.lays262_ren) { Tryz.lays262 with } Tryz.lays262.t206 ⟨by kernel_rfl, by kernel_rfl, by kernel_rfl, by kernel_rfl, by kernel_rfl, by kernel_rfl⟩ (caseTab_of_block (atXN0 os args)) caseA_wf (by rw [caseA_size]; unfold maxLen; omega) 0
    rw [case_rows_data, caseA_size] at hread
    exact hread
  · intro v hv
    obtain ⟨x, _, hx⟩ := List.mem_flatMap.1 (show v ∈ caseT.flatMap cells5 from hv)
    simp [cells5] at hx
    rcases hx with rfl | rfl | rfl | rfl | rfl <;> rfl

theorem oneX_opt : OneVar (laidMemX os args) tagX "internal/strconv.optimize" Rows.laid_internal_strconv_optimize 3 :=
  one_plain 3 gOpt (show (Tryz.prog.globals[3]?).map (·.type) = some 4 by kernel_rfl) (atX3 os args) (by simp [DataW.trod, Tryz.underlying4, Rows.laid_internal_strconv_optimize]) (by unfold tagX; kernel_rfl) (by intro v hv; simp at hv; subst hv; rfl)
theorem oneX_u64 : OneVar (laidMemX os args) tagX "internal/strconv.uint64pow10" Rows.laid_internal_strconv_uint64pow10 9 :=
  one_plain 4 gPow (show (Tryz.prog.globals[9]?).map (·.type) = some 264 by kernel_rfl) (atX9 os args) (by kernel_rfl) (by unfold tagX; kernel_rfl) (ints_noIface _ _)
theorem oneX_first : OneVar (laidMemX os args) tagX "unicode/utf8.first" Rows.laid_unicode_utf8_first 7 :=
  one_plain 4 (show Tryz.prog.globalNamed "unicode/utf8.first" = some 7 by kernel_rfl) (show (Tryz.prog.globals[7]?).map (·.type) = some 235 by kernel_rfl) (atX7 os args) (by kernel_rfl) (by unfold tagX; kernel_rfl) (ints_noIface _ _)
theorem oneX_accept : OneVar (laidMemX os args) tagX "unicode/utf8.acceptRanges" Rows.laid_unicode_utf8_acceptRanges 8 :=
  one_plain 5 (show Tryz.prog.globalNamed "unicode/utf8.acceptRanges" = some 8 by kernel_rfl) (show (Tryz.prog.globals[8]?).map (·.type) = some 238 by kernel_rfl) (atX8 os args) (by kernel_rfl) (by unfold tagX; kernel_rfl) (fun v hv => by
    obtain ⟨x, _, hx⟩ := List.mem_flatMap.1 (show v ∈ (List.range 16).flatMap fun i => [Value.int .u8 (accLo i), Value.int .u8 (accHi i)] from hv)
    simp at hx
    rcases hx with rfl | rfl <;> rfl)
theorem oneX_db32 : OneVar (laidMemX os args) tagX "math/bits.deBruijn32tab" Rows.laid_math_bits_deBruijn32tab 15 :=
  one_plain 4 (show Tryz.prog.globalNamed "math/bits.deBruijn32tab" = some 15 by kernel_rfl) (show (Tryz.prog.globals[15]?).map (·.type) = some 197 by kernel_rfl) (atX15 os args) (by kernel_rfl) (by unfold tagX; kernel_rfl) (ints_noIface _ _)
theorem oneX_db64 : OneVar (laidMemX os args) tagX "math/bits.deBruijn64tab" Rows.laid_math_bits_deBruijn64tab 16 :=
  one_plain 4 (show Tryz.prog.globalNamed "math/bits.deBruijn64tab" = some 16 by kernel_rfl) (show (Tryz.prog.globals[16]?).map (·.type) = some 301 by kernel_rfl) (atX16 os args) (by kernel_rfl) (by unfold tagX; kernel_rfl) (ints_noIface _ _)

theorem floats_noIface (k : FloatKind) (zs : List Nat) : ∀ v ∈ (floatsOf k zs).toList, noIface v = true := fun v hv => by
  obtain ⟨z, _, rfl⟩ := List.mem_map.1 (show v ∈ zs.map fun z => Value.float k z from hv)
  rfl
theorem oneX_i32 : OneVar (laidMemX os args) tagX "internal/strconv.float32info" Rows.laid_internal_strconv_float32info 4 :=
  one_plain 5 (show Tryz.prog.globalNamed "internal/strconv.float32info" = some 4 by kernel_rfl) (show (Tryz.prog.globals[4]?).map (·.type) = some 218 by kernel_rfl) (atX4 os args) (by kernel_rfl) (by unfold tagX; kernel_rfl) (by intro v hv; simp at hv; rcases hv with rfl | rfl | rfl <;> rfl)
theorem oneX_i64 : OneVar (laidMemX os args) tagX "internal/strconv.float64info" Rows.laid_internal_strconv_float64info 5 :=
  one_plain 5 (show Tryz.prog.globalNamed "internal/strconv.float64info" = some 5 by kernel_rfl) (show (Tryz.prog.globals[5]?).map (·.type) = some 218 by kernel_rfl) (atX5 os args) (by kernel_rfl) (by unfold tagX; kernel_rfl) (by intro v hv; simp at hv; rcases hv with rfl | rfl | rfl <;> rfl)
theorem oneX_powtab : OneVar (laidMemX os args) tagX "internal/strconv.powtab" Rows.laid_internal_strconv_powtab 11 :=
  one_slice 5 9 (show Tryz.prog.globalNamed "internal/strconv.powtab" = some 11 by kernel_rfl) (show (Tryz.prog.globals[11]?).map (·.type) = some 274 by kernel_rfl) (atX11 os args) (atXN2 os args) (by kernel_rfl) (by unfold tagX; kernel_rfl) (by unfold tagX; kernel_rfl) (by decide +kernel) (ints_noIface _ _)
theorem oneX_f64 : OneVar (laidMemX os args) tagX "internal/strconv.float64pow10" Rows.laid_internal_strconv_float64pow10 12 :=
  one_slice 5 23 (show Tryz.prog.globalNamed "internal/strconv.float64pow10" = some 12 by kernel_rfl) (show (Tryz.prog.globals[12]?).map (·.type) = some 146 by kernel_rfl) (atX12 os args) (atXN3 os args) (by kernel_rfl) (by unfold tagX; kernel_rfl) (by unfold tagX; kernel_rfl) (by decide +kernel) (floats_noIface _ _)
theorem oneX_f32 : OneVar (laidMemX os args) tagX "internal/strconv.float32pow10" Rows.laid_internal_strconv_float32pow10 10 :=
  one_slice 5 11 (show Tryz.prog.globalNamed "internal/strconv.float32pow10" = some 10 by kernel_rfl) (show (Tryz.prog.globals[10]?).map (·.type) = some 272 by kernel_rfl) (atX10 os args) (atXN4 os args) (by kernel_rfl) (by unfold tagX; kernel_rfl) (by unfold tagX; kernel_rfl) (by decide +kernel) (floats_noIface _ _)

set_option maxRecDepth 100000 in
theorem one_err {W : World} {tag : Nat → Nat} {n : String} {d : DataW Unit} {k g R : Nat} {t T T' : TypeId} {cs : Array Value} {x : Value} {u0 : TypeId} (fuel : Nat) (hg : Tryz.prog.globalNamed n = some g) (hty : (Tryz.prog.globals[g]?).map (·.type) = some t) (hb : W.heap[g]? = some (.cells #[.iface u0 x] T (0, 0)))
    (hR : W.heap[R]? = some (.cells cs T' (0, 0)))
    (hr : DataW.trod (fun _ => ()) Tryz.prog W 0 (fun _ => true) false fuel t [.iface u0 x] = some (d, MemPlace.row ⟨R, 0, none⟩ 1)) (hk : tag g = k) (hk2 : tag R = k) (hne : g ≠ R) (hno : ∀ v ∈ cs.toList, noIface v = true)
    (hok : Value.okWide Tryz.prog W .any 0 u0 x) : OneVar W tag n d k := by
  refine ⟨g, t, _, fuel, _, hg, hty, by simp [World.var?, hg, hb], hr, ?_, fun q hq => ?_, fun b off hq => ?_⟩
  · refine List.nodup_append.2 ⟨row_nodup _ _, row_nodup _ _, fun a ha b hb e => ?_⟩
    obtain ⟨i, _, rfl⟩ := MemPlace.mem_row.1 ha
    obtain ⟨j, _, rfl⟩ := MemPlace.mem_row.1 hb
    simp at e
    exact hne e.1
  · rcases List.mem_append.1 hq with hq | hq
    · obtain ⟨i, _, rfl⟩ := MemPlace.mem_row.1 hq
      exact hk
    · obtain ⟨i, _, rfl⟩ := MemPlace.mem_row.1 hq
      exact hk2
  · rcases List.mem_append.1 hq with hq | hq
    · obtain ⟨i, _, e⟩ := MemPlace.mem_row.1 hq
      cases e
      refine ⟨⟨_, _, hb⟩, fun u v hc => ?_⟩
      rw [cell_of_row W _ _ _ _ (0, 0) hb] at hc
      have hm : Value.iface u v ∈ [Value.iface u0 x] := by rw [← Array.getElem?_toList] at hc; exact List.mem_of_getElem? hc
      simp at hm
      rw [hm.1, hm.2]
      exact hok
    · obtain ⟨i, _, e⟩ := MemPlace.mem_row.1 hq
      cases e
      exact block_good hR hno _
set_option maxRecDepth 100000 in
theorem oneX_range : OneVar (laidMemX os args) tagX "strconv.ErrRange" Rows.laid_strconv_ErrRange 1 :=
  one_err 6 (show Tryz.prog.globalNamed "strconv.ErrRange" = some 1 by kernel_rfl) (show (Tryz.prog.globals[1]?).map (·.type) = some 61 by kernel_rfl) (atX1 os args) (atXN5 os args) (by kernel_rfl) (by unfold tagX; kernel_rfl) (by unfold tagX; kernel_rfl) (by decide +kernel) (by intro v hv; simp [strCell] at hv; subst hv; rfl) (Value.okWide_of_okWideB (by kernel_rfl))
set_option maxRecDepth 100000 in
theorem oneX_syntax : OneVar (laidMemX os args) tagX "strconv.ErrSyntax" Rows.laid_strconv_ErrSyntax 0 :=
  one_err 6 (show Tryz.prog.globalNamed "strconv.ErrSyntax" = some 0 by kernel_rfl) (show (Tryz.prog.globals[0]?).map (·.type) = some 61 by kernel_rfl) (atX0 os args) (atXN6 os args) (by kernel_rfl) (by unfold tagX; kernel_rfl) (by unfold tagX; kernel_rfl) (by decide +kernel) (by intro v hv; simp [strCell] at hv; subst hv; rfl) (Value.okWide_of_okWideB (by kernel_rfl))
end
end Go.Proofs.YtbcnhcpgloncdaaGreatDoor
