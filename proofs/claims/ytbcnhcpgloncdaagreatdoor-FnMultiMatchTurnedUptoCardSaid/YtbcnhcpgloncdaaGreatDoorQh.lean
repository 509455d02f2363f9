/-
  impl.treeOf OF THE PLAIN VALUES; AND OF LISTS OF TEXTS.
-/
import Derived.Test.YtbcnhcpgloncdaaGreatDoorQf
namespace Go.Proofs.YtbcnhcpgloncdaaGreatDoor
open Go.RowKit Go.Sort Go.ChangeMaps Go.MapKept Go.Lib

def tText (s : ByteArray) : T := .mk 1 s 0 false [] []
def tNum (x : Nat) : T := .mk 2 ⟨#[]⟩ x false [] []
def tYes (y : Bool) : T := .mk 3 ⟨#[]⟩ 0 y [] []
def tList (ks : List ByteArray) : T := .mk 4 ⟨#[]⟩ 0 false [] (ks.map tText)

@[go_sem] theorem as_9_9 (s : ByteArray) (w : World) : (Instr.typeAssert (.iface 9 (.string s)) 20 9 true).run Tryz.prog w = .ok (.tuple #[.string s, .bool true]) w := by kernel_rfl
@[go_sem] theorem as_4_9 (y : Bool) (w : World) : (Instr.typeAssert (.iface 4 (.bool y)) 20 9 true).run Tryz.prog w = .ok (.tuple #[.string ⟨#[]⟩, .bool false]) w := by kernel_rfl
@[go_sem] theorem as_4_4 (y : Bool) (w : World) : (Instr.typeAssert (.iface 4 (.bool y)) 20 4 true).run Tryz.prog w = .ok (.tuple #[.bool y, .bool true]) w := by kernel_rfl
@[go_sem] theorem as_3_9 (n : Int) (w : World) : (Instr.typeAssert (.iface 3 (.int .i64 n)) 20 9 true).run Tryz.prog w = .ok (.tuple #[.string ⟨#[]⟩, .bool false]) w := by kernel_rfl
@[go_sem] theorem as_3_4 (n : Int) (w : World) : (Instr.typeAssert (.iface 3 (.int .i64 n)) 20 4 true).run Tryz.prog w = .ok (.tuple #[.bool false, .bool false]) w := by kernel_rfl
@[go_sem] theorem as_3_3 (n : Int) (w : World) : (Instr.typeAssert (.iface 3 (.int .i64 n)) 20 3 true).run Tryz.prog w = .ok (.tuple #[.int .i64 n, .bool true]) w := by kernel_rfl
@[go_sem] theorem as_22_9 (x : Nat) (w : World) : (Instr.typeAssert (.iface 22 (.float .f64 x)) 20 9 true).run Tryz.prog w = .ok (.tuple #[.string ⟨#[]⟩, .bool false]) w := by kernel_rfl
@[go_sem] theorem as_22_4 (x : Nat) (w : World) : (Instr.typeAssert (.iface 22 (.float .f64 x)) 20 4 true).run Tryz.prog w = .ok (.tuple #[.bool false, .bool false]) w := by kernel_rfl
@[go_sem] theorem as_22_3 (x : Nat) (w : World) : (Instr.typeAssert (.iface 22 (.float .f64 x)) 20 3 true).run Tryz.prog w = .ok (.tuple #[.int .i64 0, .bool false]) w := by kernel_rfl
@[go_sem] theorem as_22_2 (x : Nat) (w : World) : (Instr.typeAssert (.iface 22 (.float .f64 x)) 20 2 true).run Tryz.prog w = .ok (.tuple #[.int .i64 0, .bool false]) w := by kernel_rfl
@[go_sem] theorem as_22_22 (x : Nat) (w : World) : (Instr.typeAssert (.iface 22 (.float .f64 x)) 20 22 true).run Tryz.prog w = .ok (.tuple #[.float .f64 x, .bool true]) w := by kernel_rfl
@[go_sem] theorem as_107_9 (p : Option Addr) (w : World) : (Instr.typeAssert (.iface 107 (.pointer p)) 20 9 true).run Tryz.prog w = .ok (.tuple #[.string ⟨#[]⟩, .bool false]) w := by kernel_rfl
@[go_sem] theorem as_107_4 (p : Option Addr) (w : World) : (Instr.typeAssert (.iface 107 (.pointer p)) 20 4 true).run Tryz.prog w = .ok (.tuple #[.bool false, .bool false]) w := by kernel_rfl
@[go_sem] theorem as_107_3 (p : Option Addr) (w : World) : (Instr.typeAssert (.iface 107 (.pointer p)) 20 3 true).run Tryz.prog w = .ok (.tuple #[.int .i64 0, .bool false]) w := by kernel_rfl
@[go_sem] theorem as_107_2 (p : Option Addr) (w : World) : (Instr.typeAssert (.iface 107 (.pointer p)) 20 2 true).run Tryz.prog w = .ok (.tuple #[.int .i64 0, .bool false]) w := by kernel_rfl
@[go_sem] theorem as_107_22 (p : Option Addr) (w : World) : (Instr.typeAssert (.iface 107 (.pointer p)) 20 22 true).run Tryz.prog w = .ok (.tuple #[.float .f64 0, .bool false]) w := by kernel_rfl
@[go_sem] theorem as_107_138 (p : Option Addr) (w : World) : (Instr.typeAssert (.iface 107 (.pointer p)) 20 138 true).run Tryz.prog w = .ok (.tuple #[.pointer none, .bool false]) w := by kernel_rfl
@[go_sem] theorem as_107_107 (p : Option Addr) (w : World) : (Instr.typeAssert (.iface 107 (.pointer p)) 20 107 true).run Tryz.prog w = .ok (.tuple #[.pointer p, .bool true]) w := by kernel_rfl
@[go_sem] theorem as_23_9 (a : Option Addr) (n c : Nat) (w : World) : (Instr.typeAssert (.iface 23 (.slice a n c)) 20 9 true).run Tryz.prog w = .ok (.tuple #[.string ⟨#[]⟩, .bool false]) w := by kernel_rfl
@[go_sem] theorem as_23_4 (a : Option Addr) (n c : Nat) (w : World) : (Instr.typeAssert (.iface 23 (.slice a n c)) 20 4 true).run Tryz.prog w = .ok (.tuple #[.bool false, .bool false]) w := by kernel_rfl
@[go_sem] theorem as_23_3 (a : Option Addr) (n c : Nat) (w : World) : (Instr.typeAssert (.iface 23 (.slice a n c)) 20 3 true).run Tryz.prog w = .ok (.tuple #[.int .i64 0, .bool false]) w := by kernel_rfl
@[go_sem] theorem as_23_2 (a : Option Addr) (n c : Nat) (w : World) : (Instr.typeAssert (.iface 23 (.slice a n c)) 20 2 true).run Tryz.prog w = .ok (.tuple #[.int .i64 0, .bool false]) w := by kernel_rfl
@[go_sem] theorem as_23_22 (a : Option Addr) (n c : Nat) (w : World) : (Instr.typeAssert (.iface 23 (.slice a n c)) 20 22 true).run Tryz.prog w = .ok (.tuple #[.float .f64 0, .bool false]) w := by kernel_rfl
@[go_sem] theorem as_23_138 (a : Option Addr) (n c : Nat) (w : World) : (Instr.typeAssert (.iface 23 (.slice a n c)) 20 138 true).run Tryz.prog w = .ok (.tuple #[.pointer none, .bool false]) w := by kernel_rfl
@[go_sem] theorem as_23_107 (a : Option Addr) (n c : Nat) (w : World) : (Instr.typeAssert (.iface 23 (.slice a n c)) 20 107 true).run Tryz.prog w = .ok (.tuple #[.pointer none, .bool false]) w := by kernel_rfl
@[go_sem] theorem as_23_106 (a : Option Addr) (n c : Nat) (w : World) : (Instr.typeAssert (.iface 23 (.slice a n c)) 20 106 true).run Tryz.prog w = .ok (.tuple #[.pointer none, .bool false]) w := by kernel_rfl
@[go_sem] theorem as_23_142 (a : Option Addr) (n c : Nat) (w : World) : (Instr.typeAssert (.iface 23 (.slice a n c)) 20 142 true).run Tryz.prog w = .ok (.tuple #[.pointer none, .bool false]) w := by kernel_rfl
@[go_sem] theorem as_23_105 (a : Option Addr) (n c : Nat) (w : World) : (Instr.typeAssert (.iface 23 (.slice a n c)) 20 105 true).run Tryz.prog w = .ok (.tuple #[.pointer none, .bool false]) w := by kernel_rfl
@[go_sem] theorem as_23_23 (a : Option Addr) (n c : Nat) (w : World) : (Instr.typeAssert (.iface 23 (.slice a n c)) 20 23 true).run Tryz.prog w = .ok (.tuple #[.slice a n c, .bool true]) w := by kernel_rfl
@[go_sem] theorem as_112_9 (m : Option Nat) (w : World) : (Instr.typeAssert (.iface 112 (.map m)) 20 9 true).run Tryz.prog w = .ok (.tuple #[.string ⟨#[]⟩, .bool false]) w := by kernel_rfl
@[go_sem] theorem as_112_4 (m : Option Nat) (w : World) : (Instr.typeAssert (.iface 112 (.map m)) 20 4 true).run Tryz.prog w = .ok (.tuple #[.bool false, .bool false]) w := by kernel_rfl
@[go_sem] theorem as_112_3 (m : Option Nat) (w : World) : (Instr.typeAssert (.iface 112 (.map m)) 20 3 true).run Tryz.prog w = .ok (.tuple #[.int .i64 0, .bool false]) w := by kernel_rfl
@[go_sem] theorem as_112_2 (m : Option Nat) (w : World) : (Instr.typeAssert (.iface 112 (.map m)) 20 2 true).run Tryz.prog w = .ok (.tuple #[.int .i64 0, .bool false]) w := by kernel_rfl
@[go_sem] theorem as_112_22 (m : Option Nat) (w : World) : (Instr.typeAssert (.iface 112 (.map m)) 20 22 true).run Tryz.prog w = .ok (.tuple #[.float .f64 0, .bool false]) w := by kernel_rfl
@[go_sem] theorem as_112_138 (m : Option Nat) (w : World) : (Instr.typeAssert (.iface 112 (.map m)) 20 138 true).run Tryz.prog w = .ok (.tuple #[.pointer none, .bool false]) w := by kernel_rfl
@[go_sem] theorem as_112_107 (m : Option Nat) (w : World) : (Instr.typeAssert (.iface 112 (.map m)) 20 107 true).run Tryz.prog w = .ok (.tuple #[.pointer none, .bool false]) w := by kernel_rfl
@[go_sem] theorem as_112_106 (m : Option Nat) (w : World) : (Instr.typeAssert (.iface 112 (.map m)) 20 106 true).run Tryz.prog w = .ok (.tuple #[.pointer none, .bool false]) w := by kernel_rfl
@[go_sem] theorem as_112_142 (m : Option Nat) (w : World) : (Instr.typeAssert (.iface 112 (.map m)) 20 142 true).run Tryz.prog w = .ok (.tuple #[.pointer none, .bool false]) w := by kernel_rfl
@[go_sem] theorem as_112_105 (m : Option Nat) (w : World) : (Instr.typeAssert (.iface 112 (.map m)) 20 105 true).run Tryz.prog w = .ok (.tuple #[.pointer none, .bool false]) w := by kernel_rfl
@[go_sem] theorem as_112_23 (m : Option Nat) (w : World) : (Instr.typeAssert (.iface 112 (.map m)) 20 23 true).run Tryz.prog w = .ok (.tuple #[.slice none 0 0, .bool false]) w := by kernel_rfl
@[go_sem] theorem as_112_146 (m : Option Nat) (w : World) : (Instr.typeAssert (.iface 112 (.map m)) 20 146 true).run Tryz.prog w = .ok (.tuple #[.slice none 0 0, .bool false]) w := by kernel_rfl
@[go_sem] theorem as_112_110 (m : Option Nat) (w : World) : (Instr.typeAssert (.iface 112 (.map m)) 20 110 true).run Tryz.prog w = .ok (.tuple #[.slice none 0 0, .bool false]) w := by kernel_rfl
@[go_sem] theorem as_112_149 (m : Option Nat) (w : World) : (Instr.typeAssert (.iface 112 (.map m)) 20 149 true).run Tryz.prog w = .ok (.tuple #[.slice none 0 0, .bool false]) w := by kernel_rfl
@[go_sem] theorem as_112_112 (m : Option Nat) (w : World) : (Instr.typeAssert (.iface 112 (.map m)) 20 112 true).run Tryz.prog w = .ok (.tuple #[.map m, .bool true]) w := by kernel_rfl

/-- treeOf gives this tree. -/
def RetLeaf (w : World) (t : T) (e : Ending) (w' : World) : Prop := ∃ v, e = .returned v ∧ TreeAt w' (newB w.heap.size) v t ∧ Below w.heap.size w w'

set_option maxHeartbeats 1000000 in
set_option maxRecDepth 100000 in
theorem treeOf_text (w : World) (s : ByteArray) : Calls Tryz.prog 127 #[.iface 9 (.string s)] w (RetLeaf w (tText s)) := by
  go_enter Tryz.func127, Tryz.ntmps127
  go_wp2
  go_returns
  exact ⟨_, rfl, TreeAt.leaf _ _ 1 s 0 false none none 0 0, by go_grown⟩

set_option maxHeartbeats 1000000 in
set_option maxRecDepth 100000 in
theorem treeOf_yes (w : World) (y : Bool) : Calls Tryz.prog 127 #[.iface 4 (.bool y)] w (RetLeaf w (tYes y)) := by
  go_enter Tryz.func127, Tryz.ntmps127
  go_wp2
  go_returns
  exact ⟨_, rfl, TreeAt.leaf _ _ 3 _ 0 y none none 0 0, by go_grown⟩

set_option maxHeartbeats 1000000 in
set_option maxRecDepth 100000 in
theorem treeOf_num (w : World) (x : Nat) : Calls Tryz.prog 127 #[.iface 22 (.float .f64 x)] w (RetLeaf w (tNum x)) := by
  go_enter Tryz.func127, Tryz.ntmps127
  go_wp2
  go_returns
  exact ⟨_, rfl, TreeAt.leaf _ _ 2 _ x false none none 0 0, by go_grown⟩

set_option maxHeartbeats 1000000 in
set_option maxRecDepth 100000 in
theorem treeOf_int (w : World) (n : Int) : Calls Tryz.prog 127 #[.iface 3 (.int .i64 n)] w (RetLeaf w (tNum (floatOfInt .f64 n))) := by
  have hcv2 : ∀ w1 : World, (convert 3 22 (.int .i64 n)).run Tryz.prog w1 = .ok (.float .f64 (floatOfInt .f64 n)) w1 := fun w1 => run_convert_int_float (P := Tryz.prog) w1 3 22 .i64 .f64 n (by kernel_rfl) Tryz.underlying22
  go_enter Tryz.func127, Tryz.ntmps127
  go_wp2
  go_returns
  exact ⟨_, rfl, TreeAt.leaf _ _ 2 _ _ false none none 0 0, by go_grown⟩
end Go.Proofs.YtbcnhcpgloncdaaGreatDoor
