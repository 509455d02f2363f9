/-
  A WORLD FOR THE WITNESS: the library's tables laid.
-/
import Derived.Test.YtbcnhcpgloncdaaGreatDoorWa
namespace Go.Proofs.YtbcnhcpgloncdaaGreatDoor
open Go.RowKit Go.Lib

def pow10Cell (x : Nat × Nat) : List Value := [.int .u64 x.1, .int .u64 x.2]
def cheatCell (x : Nat × List UInt8) : List Value := [.int .i64 x.1, .string ⟨x.2.toArray⟩]
def intsOf (k : IntKind) (zs : List Int) : Array Value := (zs.map fun z => Value.int k z).toArray
def db32 : List Int := [0, 1, 28, 2, 29, 14, 24, 3, 30, 22, 20, 15, 25, 17, 4, 8, 31, 27, 13, 23, 21, 19, 16, 7, 26, 12, 18, 6, 11, 5, 10, 9]
def db64 : List Int := [0, 1, 56, 2, 57, 49, 28, 3, 61, 58, 42, 50, 38, 29, 17, 4, 62, 47, 59, 36, 45, 43, 51, 22, 53, 39, 33, 30, 24, 18, 12, 5, 63, 55, 48, 27, 60, 41, 37, 16, 46, 35, 44, 21, 52, 32, 23, 11, 54, 26, 40, 15, 34, 20, 31, 10, 25, 14, 19, 9, 13, 8, 7, 6]
def pow10Cells : Array Value := (Go.Pinned.pow10Rows.flatMap pow10Cell).toArray
def cheatCells : Array Value := (Go.Pinned.cheatRows.flatMap cheatCell).toArray
def acceptCells : Array Value := ((List.range 16).flatMap fun i => [Value.int .u8 (accLo i), Value.int .u8 (accHi i)]).toArray

def putVar (h : Array Obj) (g : Nat) (cs : Array Value) : Array Obj := h.modify g fun
  | .cells _ t frozen => .cells cs t frozen
  | o => o
noncomputable def laidWorld (os : Os) : World :=
  let N := (World.settled Tryz.prog os).heap.size
  let w0 := World.holding Tryz.prog os ⟨#[.cells caseCells5 280, .cells cheatCells 294], #[], []⟩
  let h1 := putVar w0.heap 2 #[.slice (some ⟨N, 0, none⟩) 336 336]
  let h2 := putVar h1 14 #[.slice (some ⟨N + 1, 0, none⟩) 61 61]
  let h3 := putVar h2 3 #[.bool true]
  let h4 := putVar h3 9 (intsOf .u64 pow10Tab)
  let h5 := putVar h4 7 (intsOf .u8 firstTab)
  let h6 := putVar h5 8 acceptCells
  let h7 := putVar h6 13 pow10Cells
  let h8 := putVar h7 15 (intsOf .u8 db32)
  let h9 := putVar h8 16 (intsOf .u8 db64)
  { w0 with heap := h9 }
def zeroTree : Value := .agg #[.int .i64 0, .string ⟨#[]⟩, .float .f64 0, .bool false, .slice none 0 0, .slice none 0 0]
def args3 : Array Value := #[zeroTree, .slice none 0 0, .slice none 0 0]
noncomputable def laidMem (os : Os) (args : Array Value) : World := ((laidWorld os).forCall (fun _ _ => 0) ⟨#[], args, []⟩).memory

/-- The two rows' blocks. -/
noncomputable def bigN : Nat := (World.settled Tryz.prog default).heap.size
noncomputable def tagB (b : Nat) : Nat := if b = bigN then 2 else if b = bigN + 1 then 14 else b
noncomputable def keyB (n : String) : Nat := (Tryz.prog.globalNamed n).getD 99

theorem at2 (os : Os) (args : Array Value) : (laidMem os args).heap[2]? = some (.cells #[.slice (some ⟨bigN, 0, none⟩) 336 336] 186 (0, 0)) := by kernel_rfl
theorem at14 (os : Os) (args : Array Value) : (laidMem os args).heap[14]? = some (.cells #[.slice (some ⟨bigN + 1, 0, none⟩) 61 61] 295 (0, 0)) := by kernel_rfl
theorem at3 (os : Os) (args : Array Value) : (laidMem os args).heap[3]? = some (.cells #[.bool true] 4 (0, 0)) := by kernel_rfl
theorem at9 (os : Os) (args : Array Value) : (laidMem os args).heap[9]? = some (.cells (intsOf .u64 pow10Tab) 264 (0, 0)) := by kernel_rfl
theorem at7 (os : Os) (args : Array Value) : (laidMem os args).heap[7]? = some (.cells (intsOf .u8 firstTab) 235 (0, 0)) := by kernel_rfl
theorem at8 (os : Os) (args : Array Value) : (laidMem os args).heap[8]? = some (.cells acceptCells 238 (0, 0)) := by kernel_rfl
theorem at13 (os : Os) (args : Array Value) : (laidMem os args).heap[13]? = some (.cells pow10Cells 289 (0, 0)) := by kernel_rfl
theorem at15 (os : Os) (args : Array Value) : (laidMem os args).heap[15]? = some (.cells (intsOf .u8 db32) 197 (0, 0)) := by kernel_rfl
theorem at16 (os : Os) (args : Array Value) : (laidMem os args).heap[16]? = some (.cells (intsOf .u8 db64) 301 (0, 0)) := by kernel_rfl
theorem atN (os : Os) (args : Array Value) : (laidMem os args).heap[bigN]? = some (.cells caseCells5 280 (0, 0)) := by kernel_rfl
theorem atN1 (os : Os) (args : Array Value) : (laidMem os args).heap[bigN + 1]? = some (.cells cheatCells 294 (0, 0)) := by kernel_rfl
end Go.Proofs.YtbcnhcpgloncdaaGreatDoor
