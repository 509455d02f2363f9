/-
  impl.treeOf OF THE PLAIN VALUES; AND OF LISTS OF TEXTS.
-/
import Derived.Test.YtbcnhcpgloncdaaGreatDoorA3
import Derived.Deep.AppendLies
import Derived.Deep.RegionLaw
import Derived.Sort.KeysCollected
import Derived.Sort.OwnSorted
namespace Go.Proofs.YtbcnhcpgloncdaaGreatDoor
open Go.RowKit Go.Sort Go.ChangeMaps Go.MapKept Go.Lib

def tText (s : ByteArray) : T := .mk 1 s 0 false [] []
def tNum (x : Nat) : T := .mk 2 ⟨#[]⟩ x false [] []
def tYes (y : Bool) : T := .mk 3 ⟨#[]⟩ 0 y [] []
def tList (ks : List ByteArray) : T := .mk 4 ⟨#[]⟩ 0 false [] (ks.map tText)

@[go_sem] theorem as_9_9 (s : ByteArray) (w : World) : (Instr.typeAssert (.iface 9 (.string s)) 20 9 true).run Tryz.prog w = .ok (.tuple #[.string s, .bool true]) w := by kernel_rfl
@[go_sem] theorem as_4_9 (y : Bool) (w : World) : (Instr.typeAssert (.iface 4 (.bool y)) 20 9 true).run Tryz.prog w = .ok (.tuple #[.string ⟨#[]⟩, .bool false]) w := by kernel_rfl
@[go_sem] theorem as_4_4 (y : Bool) (w : World) : (Instr.typeAssert (.iface 4 (.bool y)) 20 4 true).run Tryz.prog w = .ok (.tuple #[.bool y, .bool true]) w := by kernel_rfl
@[go_sem] theorem as_3_9 (n : Int) (w : World) : (Instr.typeAssert (.iface 3 (.int .i64 n)) 20 9 true).run Tryz.prog w = .ok (.tuple #[.string ⟨#[]⟩, .bool false]) w := by kernel_rfl
@[go_sem] theorem as_3_4 (n : Int) (w : World) : (Instr.typeAssert (.iface 3 (.int .i64 n)) 20 4 true).run Tryz.prog w = .ok (.tuple #[.bool false, .bool false]) w := by kernel_rfl
@[go_sem] theorem as_3_3 (n : Int) (w : World) : (Instr.typeAssert (.iface 3 (.int .i64 n)) 20 3 true).run Tryz.prog w = .ok (.tuple #[.int .i64 n, .bool true]) w := by kernel_rfl
@[go_sem] theorem as_22_9 (x : Nat) (w : World) : (Instr.typeAssert (.iface 22 (.float .f64 x)) 20 9 true).run Tryz.prog w = .ok (.tuple #[.string ⟨#[]⟩, .bool false]) w := by kernel_rfl
@[go_sem] theorem as_22_4 (x : Nat) (w : World) : (Instr.typeAssert (.iface 22 (.float .f64 x)) 20 4 true).run Tryz.prog w = .ok (.tuple #[.bool false, .bool false]) w := by kernel_rfl
@[go_sem] theorem as_22_3 (x : Nat) (w : World) : (Instr.typeAssert (.iface 22 (.float .f64 x)) 20 3 true).run Tryz.prog w = .ok (.tuple #[.int .i64 0, .bool false]) w := by kernel_rfl
@[go_sem] theorem as_22_2 (x : Nat) (w : World) : (Instr.typeAssert (.iface 22 (.float .f64 x)) 20 2 true).run Tryz.prog w = .ok (.tuple #[.int .i64 0, .bool false]) w := by kernel_rfl
@[go_sem] theorem as_22_22 (x : Nat) (w : World) : (Instr.typeAssert (.iface 22 (.float .f64 x)) 20 22 true).run Tryz.prog w = .ok (.tuple #[.float .f64 x, .bool true]) w := by kernel_rfl
@[go_sem] theorem as_107_9 (p : Option Addr) (w : World) : (Instr.typeAssert (.iface 107 (.pointer p)) 20 9 true).run Tryz.prog w = .ok (.tuple #[.string ⟨#[]⟩, .bool false]) w := by kernel_rfl
@[go_sem] theorem as_107_4 (p : Option Addr) (w : World) : (Instr.typeAssert (.iface 107 (.pointer p)) 20 4 true).run Tryz.prog w = .ok (.tuple #[.bool false, .bool false]) w := by kernel_rfl
@[go_sem] theorem as_107_3 (p : Option Addr) (w : World) : (Instr.typeAssert (.iface 107 (.pointer p)) 20 3 true).run Tryz.prog w = .ok (.tuple #[.int .i64 0, .bool false]) w := by kernel_rfl
@[go_sem] theorem as_107_2 (p : Option Addr) (w : World) : (Instr.typeAssert (.iface 107 (.pointer p)) 20 2 true).run Tryz.prog w = .ok (.tuple #[.int .i64 0, .bool false]) w := by kernel_rfl
@[go_sem] theorem as_107_22 (p : Option Addr) (w : World) : (Instr.typeAssert (.iface 107 (.pointer p)) 20 22 true).run Tryz.prog w = .ok (.tuple #[.float .f64 0, .bool false]) w := by kernel_rfl
@[go_sem] theorem as_107_138 (p : Option Addr) (w : World) : (Instr.typeAssert (.iface 107 (.pointer p)) 20 138 true).run Tryz.prog w = .ok (.tuple #[.pointer none, .bool false]) w := by kernel_rfl
@[go_sem] theorem as_107_107 (p : Option Addr) (w : World) : (Instr.typeAssert (.iface 107 (.pointer p)) 20 107 true).run Tryz.prog w = .ok (.tuple #[.pointer p, .bool true]) w := by kernel_rfl
@[go_sem] theorem as_23_9 (a : Option Addr) (n c : Nat) (w : World) : (Instr.typeAssert (.iface 23 (.slice a n c)) 20 9 true).run Tryz.prog w = .ok (.tuple #[.string ⟨#[]⟩, .bool false]) w := by kernel_rfl
@[go_sem] theorem as_23_4 (a : Option Addr) (n c : Nat) (w : World) : (Instr.typeAssert (.iface 23 (.slice a n c)) 20 4 true).run Tryz.prog w = .ok (.tuple #[.bool false, .bool false]) w := by kernel_rfl
@[go_sem] theorem as_23_3 (a : Option Addr) (n c : Nat) (w : World) : (Instr.typeAssert (.iface 23 (.slice a n c)) 20 3 true).run Tryz.prog w = .ok (.tuple #[.int .i64 0, .bool false]) w := by kernel_rfl
@[go_sem] theorem as_23_2 (a : Option Addr) (n c : Nat) (w : World) : (Instr.typeAssert (.iface 23 (.slice a n c)) 20 2 true).run Tryz.prog w = .ok (.tuple #[.int .i64 0, .bool false]) w := by kernel_rfl
@[go_sem] theorem as_23_22 (a : Option Addr) (n c : Nat) (w : World) : (Instr.typeAssert (.iface 23 (.slice a n c)) 20 22 true).run Tryz.prog w = .ok (.tuple #[.float .f64 0, .bool false]) w := by kernel_rfl
@[go_sem] theorem as_23_138 (a : Option Addr) (n c : Nat) (w : World) : (Instr.typeAssert (.iface 23 (.slice a n c)) 20 138 true).run Tryz.prog w = .ok (.tuple #[.pointer none, .bool false]) w := by kernel_rfl
@[go_sem] theorem as_23_107 (a : Option Addr) (n c : Nat) (w : World) : (Instr.typeAssert (.iface 23 (.slice a n c)) 20 107 true).run Tryz.prog w = .ok (.tuple #[.pointer none, .bool false]) w := by kernel_rfl
@[go_sem] theorem as_23_106 (a : Option Addr) (n c : Nat) (w : World) : (Instr.typeAssert (.iface 23 (.slice a n c)) 20 106 true).run Tryz.prog w = .ok (.tuple #[.pointer none, .bool false]) w := by kernel_rfl
@[go_sem] theorem as_23_142 (a : Option Addr) (n c : Nat) (w : World) : (Instr.typeAssert (.iface 23 (.slice a n c)) 20 142 true).run Tryz.prog w = .ok (.tuple #[.pointer none, .bool false]) w := by kernel_rfl
@[go_sem] theorem as_23_105 (a : Option Addr) (n c : Nat) (w : World) : (Instr.typeAssert (.iface 23 (.slice a n c)) 20 105 true).run Tryz.prog w = .ok (.tuple #[.pointer none, .bool false]) w := by kernel_rfl
@[go_sem] theorem as_23_23 (a : Option Addr) (n c : Nat) (w : World) : (Instr.typeAssert (.iface 23 (.slice a n c)) 20 23 true).run Tryz.prog w = .ok (.tuple #[.slice a n c, .bool true]) w := by kernel_rfl
@[go_sem] theorem as_112_9 (m : Option Nat) (w : World) : (Instr.typeAssert (.iface 112 (.map m)) 20 9 true).run Tryz.prog w = .ok (.tuple #[.string ⟨#[]⟩, .bool false]) w := by kernel_rfl
@[go_sem] theorem as_112_4 (m : Option Nat) (w : World) : (Instr.typeAssert (.iface 112 (.map m)) 20 4 true).run Tryz.prog w = .ok (.tuple #[.bool false, .bool false]) w := by kernel_rfl
@[go_sem] theorem as_112_3 (m : Option Nat) (w : World) : (Instr.typeAssert (.iface 112 (.map m)) 20 3 true).run Tryz.prog w = .ok (.tuple #[.int .i64 0, .bool false]) w := by kernel_rfl
@[go_sem] theorem as_112_2 (m : Option Nat) (w : World) : (Instr.typeAssert (.iface 112 (.map m)) 20 2 true).run Tryz.prog w = .ok (.tuple #[.int .i64 0, .bool false]) w := by kernel_rfl
@[go_sem] theorem as_112_22 (m : Option Nat) (w : World) : (Instr.typeAssert (.iface 112 (.map m)) 20 22 true).run Tryz.prog w = .ok (.tuple #[.float .f64 0, .bool false]) w := by kernel_rfl
@[go_sem] theorem as_112_138 (m : Option Nat) (w : World) : (Instr.typeAssert (.iface 112 (.map m)) 20 138 true).run Tryz.prog w = .ok (.tuple #[.pointer none, .bool false]) w := by kernel_rfl
@[go_sem] theorem as_112_107 (m : Option Nat) (w : World) : (Instr.typeAssert (.iface 112 (.map m)) 20 107 true).run Tryz.prog w = .ok (.tuple #[.pointer none, .bool false]) w := by kernel_rfl
@[go_sem] theorem as_112_106 (m : Option Nat) (w : World) : (Instr.typeAssert (.iface 112 (.map m)) 20 106 true).run Tryz.prog w = .ok (.tuple #[.pointer none, .bool false]) w := by kernel_rfl
@[go_sem] theorem as_112_142 (m : Option Nat) (w : World) : (Instr.typeAssert (.iface 112 (.map m)) 20 142 true).run Tryz.prog w = .ok (.tuple #[.pointer none, .bool false]) w := by kernel_rfl
@[go_sem] theorem as_112_105 (m : Option Nat) (w : World) : (Instr.typeAssert (.iface 112 (.map m)) 20 105 true).run Tryz.prog w = .ok (.tuple #[.pointer none, .bool false]) w := by kernel_rfl
@[go_sem] theorem as_112_23 (m : Option Nat) (w : World) : (Instr.typeAssert (.iface 112 (.map m)) 20 23 true).run Tryz.prog w = .ok (.tuple #[.slice none 0 0, .bool false]) w := by kernel_rfl
@[go_sem] theorem as_112_146 (m : Option Nat) (w : World) : (Instr.typeAssert (.iface 112 (.map m)) 20 146 true).run Tryz.prog w = .ok (.tuple #[.slice none 0 0, .bool false]) w := by kernel_rfl
@[go_sem] theorem as_112_110 (m : Option Nat) (w : World) : (Instr.typeAssert (.iface 112 (.map m)) 20 110 true).run Tryz.prog w = .ok (.tuple #[.slice none 0 0, .bool false]) w := by kernel_rfl
@[go_sem] theorem as_112_149 (m : Option Nat) (w : World) : (Instr.typeAssert (.iface 112 (.map m)) 20 149 true).run Tryz.prog w = .ok (.tuple #[.slice none 0 0, .bool false]) w := by kernel_rfl
@[go_sem] theorem as_112_112 (m : Option Nat) (w : World) : (Instr.typeAssert (.iface 112 (.map m)) 20 112 true).run Tryz.prog w = .ok (.tuple #[.map m, .bool true]) w := by kernel_rfl

/-- treeOf gives this tree. -/
def RetLeaf (w : World) (t : T) (e : Ending) (w' : World) : Prop := ∃ v, e = .returned v ∧ TreeAt w' (newB w.heap.size) v t ∧ Below w.heap.size w w'

set_option maxHeartbeats 1000000 in
set_option maxRecDepth 100000 in
theorem treeOf_text (w : World) (s : ByteArray) : Calls Tryz.prog 127 #[.iface 9 (.string s)] w (RetLeaf w (tText s)) := by
  go_enter Tryz.func127, Tryz.ntmps127
  go_wp2
  go_returns
  exact ⟨_, rfl, TreeAt.leaf _ _ 1 s 0 false none none 0 0, by go_grown⟩

set_option maxHeartbeats 1000000 in
set_option maxRecDepth 100000 in
theorem treeOf_yes (w : World) (y : Bool) : Calls Tryz.prog 127 #[.iface 4 (.bool y)] w (RetLeaf w (tYes y)) := by
  go_enter Tryz.func127, Tryz.ntmps127
  go_wp2
  go_returns
  exact ⟨_, rfl, TreeAt.leaf _ _ 3 _ 0 y none none 0 0, by go_grown⟩

set_option maxHeartbeats 1000000 in
set_option maxRecDepth 100000 in
theorem treeOf_num (w : World) (x : Nat) : Calls Tryz.prog 127 #[.iface 22 (.float .f64 x)] w (RetLeaf w (tNum x)) := by
  go_enter Tryz.func127, Tryz.ntmps127
  go_wp2
  go_returns
  exact ⟨_, rfl, TreeAt.leaf _ _ 2 _ x false none none 0 0, by go_grown⟩

set_option maxHeartbeats 1000000 in
set_option maxRecDepth 100000 in
theorem treeOf_int (w : World) (n : Int) : Calls Tryz.prog 127 #[.iface 3 (.int .i64 n)] w (RetLeaf w (tNum (floatOfInt .f64 n))) := by
  have hcv2 : ∀ w1 : World, (convert 3 22 (.int .i64 n)).run Tryz.prog w1 = .ok (.float .f64 (floatOfInt .f64 n)) w1 := fun w1 => run_convert_int_float (P := Tryz.prog) w1 3 22 .i64 .f64 n (by kernel_rfl) Tryz.underlying22
  go_enter Tryz.func127, Tryz.ntmps127
  go_wp2
  go_returns
  exact ⟨_, rfl, TreeAt.leaf _ _ 2 _ _ false none none 0 0, by go_grown⟩
end Go.Proofs.YtbcnhcpgloncdaaGreatDoor

/-
  impl.at, impl.listOf, AND impl.treeOf OF WHAT THEY SERVE. (Printed by gen/treeof.py.)
-/
namespace Go.Proofs.YtbcnhcpgloncdaaGreatDoor
open Go.RowKit Go.Sort Go.ChangeMaps Go.MapKept Go.Lib

set_option maxHeartbeats 1000000 in
set_option maxRecDepth 100000 in
theorem at_yes (w : World) (p : Nat) (y : Bool) (hp : w.cell? ⟨p, 0, none⟩ = some (.bool y)) : Calls Tryz.prog 143 #[.pointer (some ⟨p, 0, none⟩)] w (RetLeaf w (tYes y)) := by
  have hpl : p < w.heap.size := World.block_lt_of_cell? w _ hp
  go_enter Tryz.func143, Tryz.ntmps143
  go_wp2_with fail
  refine (treeOf_yes _ y).mono ?_
  rintro e w1 ⟨v, rfl, ht, hb⟩
  obtain ⟨t, ht0⟩ : ∃ x, x = tYes y := ⟨_, rfl⟩
  rw [← ht0] at ht
  have HTE := hide ht0
  clear ht0
  obtain ⟨a, cap, a', cap', c, rfl, -⟩ := ht.open
  have HT := hide ht
  have HB := hide hb
  have hblk : w1.heap[w.heap.size]? = some (.cells #[.int .i64 0, .string ⟨#[]⟩, .float .f64 0, .bool false, .slice none 0 0, .slice none 0 0] 26 (0, 0)) := (hb.block _ (by simp)).trans (heap_alloc_new _ _)
  clear ht hb
  have c0 : w1.cell? ⟨w.heap.size, 0, none⟩ = some (.int .i64 0) := by rw [cell_of_row w1 _ 0 _ _ _ hblk]; rfl
  have c1 : w1.cell? ⟨w.heap.size, 1, none⟩ = some (.string ⟨#[]⟩) := by rw [cell_of_row w1 _ 1 _ _ _ hblk]; rfl
  have c2 : w1.cell? ⟨w.heap.size, 2, none⟩ = some (.float .f64 0) := by rw [cell_of_row w1 _ 2 _ _ _ hblk]; rfl
  have c3 : w1.cell? ⟨w.heap.size, 3, none⟩ = some (.bool false) := by rw [cell_of_row w1 _ 3 _ _ _ hblk]; rfl
  have c4 : w1.cell? ⟨w.heap.size, 4, none⟩ = some (.slice none 0 0) := by rw [cell_of_row w1 _ 4 _ _ _ hblk]; rfl
  have c5 : w1.cell? ⟨w.heap.size, 5, none⟩ = some (.slice none 0 0) := by rw [cell_of_row w1 _ 5 _ _ _ hblk]; rfl
  have hf : ∀ j, w1.frozen? ⟨w.heap.size, j, none⟩ = false := fun j => frozen_of_row w1 _ j _ _ hblk
  have HZ := hide (set6 hblk (.int .i64 t.kind) (.string t.text) (.float .f64 t.num) (.bool t.yes) (.slice a t.keys.length cap) (.slice a' t.kids.length cap'))
  have HS := hide (same6 (ok := newB (w.heap.size + 1)) (w1 := w1) (b := w.heap.size) (by simp [newB]) (.int .i64 t.kind) (.string t.text) (.float .f64 t.num) (.bool t.yes) (.slice a t.keys.length cap) (.slice a' t.kids.length cap'))
  have HL := hide (below6 (w1 := w1) (Nat.le_refl (w.heap.size)) (.int .i64 t.kind) (.string t.text) (.float .f64 t.num) (.bool t.yes) (.slice a t.keys.length cap) (.slice a' t.kids.length cap'))
  clear hblk
  go_wp2_with fail
  generalize ((((((w1.setCell ⟨w.heap.size, 0, none⟩ (.int .i64 t.kind)).setCell ⟨w.heap.size, 1, none⟩ (.string t.text)).setCell ⟨w.heap.size, 2, none⟩ (.float .f64 t.num)).setCell ⟨w.heap.size, 3, none⟩ (.bool t.yes)).setCell ⟨w.heap.size, 4, none⟩ (.slice a t.keys.length cap)).setCell ⟨w.heap.size, 5, none⟩ (.slice a' t.kids.length cap')) = wz at *
  have e0 : wz.cell? ⟨w.heap.size, 0, none⟩ = some (.int .i64 t.kind) := by rw [cell_of_row wz _ 0 _ _ _ HZ.out]; rfl
  have e1 : wz.cell? ⟨w.heap.size, 1, none⟩ = some (.string t.text) := by rw [cell_of_row wz _ 1 _ _ _ HZ.out]; rfl
  have e2 : wz.cell? ⟨w.heap.size, 2, none⟩ = some (.float .f64 t.num) := by rw [cell_of_row wz _ 2 _ _ _ HZ.out]; rfl
  have e3 : wz.cell? ⟨w.heap.size, 3, none⟩ = some (.bool t.yes) := by rw [cell_of_row wz _ 3 _ _ _ HZ.out]; rfl
  have e4 : wz.cell? ⟨w.heap.size, 4, none⟩ = some (.slice a t.keys.length cap) := by rw [cell_of_row wz _ 4 _ _ _ HZ.out]; rfl
  have e5 : wz.cell? ⟨w.heap.size, 5, none⟩ = some (.slice a' t.kids.length cap') := by rw [cell_of_row wz _ 5 _ _ _ HZ.out]; rfl
  refine bodyPost_ret (by simp [results, Tryz.results143, go_sem, e0, e1, e2, e3, e4, e5]; try rfl) rfl ?_
  refine ⟨_, rfl, ?_, ?_⟩
  · rw [← HTE.out]
    refine TreeAt.weaken (fun k hk _ => ?_) ((HT.out.weaken (ok' := newB (w.heap.size + 1)) (fun k hk _ => by simpa [newB] using hk)).same HS.out)
    unfold newB at *; omega
  · exact (Below.trans (by go_grown) (HB.out.mono (by simp))).trans HL.out


set_option maxHeartbeats 1000000 in
set_option maxRecDepth 100000 in
theorem treeOf_ptr (w : World) (p : Nat) (y : Bool) (hp : w.cell? ⟨p, 0, none⟩ = some (.bool y)) : Calls Tryz.prog 127 #[.iface 107 (.pointer (some ⟨p, 0, none⟩))] w (RetLeaf w (tYes y)) := by
  have hpl : p < w.heap.size := World.block_lt_of_cell? w _ hp
  go_enter Tryz.func127, Tryz.ntmps127
  go_wp2_with fail
  refine (at_yes _ p y ((World.cell?_alloc_lt _ _ _ hpl).trans hp)).mono ?_
  rintro e w1 ⟨v, rfl, ht, hb⟩
  obtain ⟨t, ht0⟩ : ∃ x, x = tYes y := ⟨_, rfl⟩
  rw [← ht0] at ht
  have HTE := hide ht0
  clear ht0
  obtain ⟨a, cap, a', cap', c, rfl, -⟩ := ht.open
  have HT := hide ht
  have HB := hide hb
  have hblk : w1.heap[w.heap.size]? = some (.cells #[.int .i64 0, .string ⟨#[]⟩, .float .f64 0, .bool false, .slice none 0 0, .slice none 0 0] 26 (0, 0)) := (hb.block _ (by simp)).trans (heap_alloc_new _ _)
  clear ht hb
  have c0 : w1.cell? ⟨w.heap.size, 0, none⟩ = some (.int .i64 0) := by rw [cell_of_row w1 _ 0 _ _ _ hblk]; rfl
  have c1 : w1.cell? ⟨w.heap.size, 1, none⟩ = some (.string ⟨#[]⟩) := by rw [cell_of_row w1 _ 1 _ _ _ hblk]; rfl
  have c2 : w1.cell? ⟨w.heap.size, 2, none⟩ = some (.float .f64 0) := by rw [cell_of_row w1 _ 2 _ _ _ hblk]; rfl
  have c3 : w1.cell? ⟨w.heap.size, 3, none⟩ = some (.bool false) := by rw [cell_of_row w1 _ 3 _ _ _ hblk]; rfl
  have c4 : w1.cell? ⟨w.heap.size, 4, none⟩ = some (.slice none 0 0) := by rw [cell_of_row w1 _ 4 _ _ _ hblk]; rfl
  have c5 : w1.cell? ⟨w.heap.size, 5, none⟩ = some (.slice none 0 0) := by rw [cell_of_row w1 _ 5 _ _ _ hblk]; rfl
  have hf : ∀ j, w1.frozen? ⟨w.heap.size, j, none⟩ = false := fun j => frozen_of_row w1 _ j _ _ hblk
  have HZ := hide (set6 hblk (.int .i64 t.kind) (.string t.text) (.float .f64 t.num) (.bool t.yes) (.slice a t.keys.length cap) (.slice a' t.kids.length cap'))
  have HS := hide (same6 (ok := newB (w.heap.size + 1)) (w1 := w1) (b := w.heap.size) (by simp [newB]) (.int .i64 t.kind) (.string t.text) (.float .f64 t.num) (.bool t.yes) (.slice a t.keys.length cap) (.slice a' t.kids.length cap'))
  have HL := hide (below6 (w1 := w1) (Nat.le_refl (w.heap.size)) (.int .i64 t.kind) (.string t.text) (.float .f64 t.num) (.bool t.yes) (.slice a t.keys.length cap) (.slice a' t.kids.length cap'))
  clear hblk
  go_wp2_with fail
  generalize ((((((w1.setCell ⟨w.heap.size, 0, none⟩ (.int .i64 t.kind)).setCell ⟨w.heap.size, 1, none⟩ (.string t.text)).setCell ⟨w.heap.size, 2, none⟩ (.float .f64 t.num)).setCell ⟨w.heap.size, 3, none⟩ (.bool t.yes)).setCell ⟨w.heap.size, 4, none⟩ (.slice a t.keys.length cap)).setCell ⟨w.heap.size, 5, none⟩ (.slice a' t.kids.length cap')) = wz at *
  have e0 : wz.cell? ⟨w.heap.size, 0, none⟩ = some (.int .i64 t.kind) := by rw [cell_of_row wz _ 0 _ _ _ HZ.out]; rfl
  have e1 : wz.cell? ⟨w.heap.size, 1, none⟩ = some (.string t.text) := by rw [cell_of_row wz _ 1 _ _ _ HZ.out]; rfl
  have e2 : wz.cell? ⟨w.heap.size, 2, none⟩ = some (.float .f64 t.num) := by rw [cell_of_row wz _ 2 _ _ _ HZ.out]; rfl
  have e3 : wz.cell? ⟨w.heap.size, 3, none⟩ = some (.bool t.yes) := by rw [cell_of_row wz _ 3 _ _ _ HZ.out]; rfl
  have e4 : wz.cell? ⟨w.heap.size, 4, none⟩ = some (.slice a t.keys.length cap) := by rw [cell_of_row wz _ 4 _ _ _ HZ.out]; rfl
  have e5 : wz.cell? ⟨w.heap.size, 5, none⟩ = some (.slice a' t.kids.length cap') := by rw [cell_of_row wz _ 5 _ _ _ HZ.out]; rfl
  refine bodyPost_ret (by simp [results, Tryz.results127, go_sem, e0, e1, e2, e3, e4, e5]; try rfl) rfl ?_
  refine ⟨_, rfl, ?_, ?_⟩
  · rw [← HTE.out]
    refine TreeAt.weaken (fun k hk _ => ?_) ((HT.out.weaken (ok' := newB (w.heap.size + 1)) (fun k hk _ => by simpa [newB] using hk)).same HS.out)
    unfold newB at *; omega
  · exact (Below.trans (by go_grown) (HB.out.mono (by simp))).trans HL.out


end Go.Proofs.YtbcnhcpgloncdaaGreatDoor

/-
  impl.listOf AND WHAT 't.Kids = append(t.Kids, ..)' DOES.
-/
namespace Go.Proofs.YtbcnhcpgloncdaaGreatDoor
open Go.RowKit Go.Sort Go.ChangeMaps Go.MapKept Go.Lib

/-- A row of trees that the call owns; the trees lie beside it. -/
def KidsAt (w : World) (base : Nat) (vK : Value) (kids : List Value) (ts : List T) : Prop :=
  w.ownsRow base 26 6 vK ts.length (cellsOf kids) ∧ TreesAt w (fun j => base ≤ j ∧ vK.ownBlock ≠ some j) kids ts

theorem KidsAt.nil (w : World) (base : Nat) : KidsAt w base (.slice none 0 0) [] [] := ⟨⟨rfl, Or.inl ⟨rfl, rfl⟩⟩, TreesAt.nil _ _⟩

theorem KidsAt.below {w w' : World} {base : Nat} {vK : Value} {kids : List Value} {ts : List T} (h : KidsAt w base vK kids ts) (hb : Below w.heap.size w w') : KidsAt w' base vK kids ts := by
  refine ⟨⟨h.1.1, ?_⟩, h.2.same (Same.of_below hb)⟩
  rcases h.1.2 with h0 | ⟨gg, cap, cur, h1, h2, h3, h4⟩
  · exact Or.inl h0
  · exact Or.inr ⟨gg, cap, cur, h1, h2, (hb.block gg (lt_of_block h3)).trans h3, h4⟩

theorem own_lt {w : World} {base e size : Nat} {v : Value} {n : Nat} {xs : List Value} (h : w.ownsRow base e size v n xs) {g : Nat} (hg : v.ownBlock = some g) : base ≤ g ∧ g < w.heap.size := by
  rcases h.2 with ⟨rfl, -⟩ | ⟨gg, cap, cur, rfl, h2, h3, -⟩
  · cases hg
  · have e : gg = g := by simpa [Value.ownBlock] using hg
    subst e
    exact ⟨h2, lt_of_block h3⟩

/-- A tree laid behind the others. -/
theorem KidsAt.push {w w2 w3 : World} {base : Nat} {vK v : Value} {kids : List Value} {ts : List T} {t : T} {g cap : Nat} (h : KidsAt w base vK kids ts) (hbase : base ≤ w.heap.size) (hb : Below w.heap.size w w2) (ht : TreeAt w2 (newB w.heap.size) v t)
    (hown : w3.ownsRow base 26 6 (.slice (some ⟨g, 0, none⟩) (ts.length + 1) cap) (ts.length + 1) (cellsOf kids ++ v.cells.toList)) (hg : w2.grownBy w3 vK.ownBlock) (hat : vK.ownBlock = some g ∨ g = w2.heap.size) :
    KidsAt w3 base (.slice (some ⟨g, 0, none⟩) (ts.length + 1) cap) (kids ++ [v]) (ts ++ [t]) := by
  have sm : ∀ j, j < w2.heap.size → vK.ownBlock ≠ some j → w3.heap[j]? = w2.heap[j]? := fun j hj hne => hg.block j hj (fun e => hne e.symm)
  refine ⟨by rw [cellsOf_append, cellsOf_one]; simpa using hown, ?_⟩
  have h2 : TreesAt w2 (fun j => base ≤ j ∧ vK.ownBlock ≠ some j ∧ j < w.heap.size) kids ts := (h.2.weaken (fun k hk hlt => ⟨hk.1, hk.2, hlt⟩)).same (fun k hk hlt => hb.block k hlt)
  have h3 : TreesAt w3 (fun j => base ≤ j ∧ vK.ownBlock ≠ some j ∧ j < w.heap.size) kids ts := h2.same (fun k hk hlt => sm k hlt hk.2.1)
  have t2 : TreeAt w2 (fun j => base ≤ j ∧ vK.ownBlock ≠ some j ∧ j < w2.heap.size) v t := ht.weaken (fun k hk hlt => ⟨Nat.le_trans hbase hk, fun e => by have := (own_lt h.1 e).2; unfold newB at hk; omega, hlt⟩)
  have t3 : TreeAt w3 (fun j => base ≤ j ∧ vK.ownBlock ≠ some j ∧ j < w2.heap.size) v t := t2.same (fun k hk hlt => sm k hlt hk.2.1)
  have fin : ∀ j, vK.ownBlock ≠ some j → j < w2.heap.size → (Value.slice (some ⟨g, 0, none⟩) (ts.length + 1) cap).ownBlock ≠ some j := fun j h1 h2 e => by
    have e1 : g = j := by simpa [Value.ownBlock] using e
    subst e1
    rcases hat with h | h
    · exact h1 h
    · omega
  exact (h3.weaken (fun k hk _ => ⟨hk.1, fin k hk.2.1 (Nat.lt_of_lt_of_le hk.2.2 hb.size)⟩)).snoc (t3.weaken (fun k hk _ => ⟨hk.1, fin k hk.2.1 hk.2.2⟩))

/-- A block below the call's own rows stands. -/
theorem KidsAt.far {w w2 w3 : World} {base : Nat} {vK : Value} {kids : List Value} {ts : List T} (h : KidsAt w base vK kids ts) (hb : Below w.heap.size w w2) (hg : w2.grownBy w3 vK.ownBlock) {b : Nat} (h1 : b < base) (h2 : b < w.heap.size) : w3.heap[b]? = w.heap[b]? :=
  (hg.block b (Nat.lt_of_lt_of_le h2 hb.size) (fun e => by have := (own_lt h.1 e.symm).1; omega)).trans (hb.block b h2)
theorem KidsAt.belowPush {w w2 w3 : World} {base n : Nat} {vK : Value} {kids : List Value} {ts : List T} (h : KidsAt w base vK kids ts) (hb : Below w.heap.size w w2) (hg : w2.grownBy w3 vK.ownBlock) (h1 : n ≤ base) (h2 : n ≤ w.heap.size) : Below n w w3 :=
  ⟨hg.os.trans hb.os, hg.tape.trans hb.tape, hg.output.trans hb.output, Nat.le_trans hb.size hg.size, fun k hk => h.far hb hg (by omega) (by omega)⟩

section
variable {P : Program}
/-- append of one element that lies whole in a block of its own, at a step of a region that draws its order: and where the new row lies. -/
theorem step_append_one (w : World) {ops : Array Oper} {o : Oper} {a : Act} {K : Act → World → Prop} {Q : Exit → Act → World → Prop} {E : Prop} (hgd : o.guard = none) (s x : Operand) (t : TypeId)
    (ho : o.op = .call { callee := .builtin .append, args := #[s, x], argTypes := #[t, t] })
    (base : Nat) (e : TypeId) (z : Value) (size bytes : Nat) (ht : P.underlying t = some (.slice e)) (hi : (P.info? e).map (fun i => (i.zero, i.size, i.bytes)) = some (some z, size, bytes))
    (hzs : z.cells.size = size) (hsz : 0 < size)
    (v : Value) (n : Nat) (xs : List Value) (hs : a.eval s = v) (hown : w.ownsRow base e size v n xs)
    (g c : Nat) (news : Array Value) (te : TypeId) (hx : a.eval x = .slice (some ⟨g, 0, none⟩) 1 c) (hblk : w.heap[g]? = some (.cells news te (0, 0))) (hl : news.size = size)
    (h1 : ∀ u ∈ news.toList, u.oneCell' = true)
    (hsmall : (n + 1) * bytes ≤ 140737488355328) (hsmall' : n + 1 ≤ 140737488355328) (hbase : base ≤ w.heap.size)
    (h : ∀ g' cap w', w'.ownsRow base e size (.slice (some ⟨g', 0, none⟩) (n + 1) cap) (n + 1) (xs ++ news.toList) → w.grownBy w' v.ownBlock → (v.ownBlock = some g' ∨ g' = w.heap.size) → K (a.put o.dst (.slice (some ⟨g', 0, none⟩) (n + 1) cap)) w') :
    if Region.wanted o (yielded ops a.tmps) = true then Oper.wp P o a w K Q else E := by
  obtain ⟨i, hi, hz0, hz1, hz2⟩ := info_parts hi
  exact step_append_lies w hgd s x t ho base e i z size bytes ht hi hz0 hz1 hz2 hzs hsz v n xs hs hown ⟨g, 0, none⟩ 1 c news.toList hx (by simpa using hl)
    (fun j u hu => World.news_of_block hblk j u hu) h1 (by omega) (by unfold maxLen; omega) hsmall hbase _ rfl fun g' cap w' h2 h3 h4 _ => h g' cap w' h2 h3 h4

theorem wpList_append_one (w : World) {ops : Array Oper} {rest : List Oper} {o : Oper} {a : Act} {Q : Exit → Act → World → Prop} (hgd : o.guard = none) (s x : Operand) (t : TypeId)
    (ho : o.op = .call { callee := .builtin .append, args := #[s, x], argTypes := #[t, t] })
    (base : Nat) (e : TypeId) (z : Value) (size bytes : Nat) (ht : P.underlying t = some (.slice e)) (hi : (P.info? e).map (fun i => (i.zero, i.size, i.bytes)) = some (some z, size, bytes))
    (hzs : z.cells.size = size) (hsz : 0 < size)
    (v : Value) (n : Nat) (xs : List Value) (hs : a.eval s = v) (hown : w.ownsRow base e size v n xs)
    (g c : Nat) (news : Array Value) (te : TypeId) (hx : a.eval x = .slice (some ⟨g, 0, none⟩) 1 c) (hblk : w.heap[g]? = some (.cells news te (0, 0))) (hl : news.size = size)
    (h1 : ∀ u ∈ news.toList, u.oneCell' = true)
    (hsmall : (n + 1) * bytes ≤ 140737488355328) (hsmall' : n + 1 ≤ 140737488355328) (hbase : base ≤ w.heap.size)
    (h : ∀ g' cap w', w'.ownsRow base e size (.slice (some ⟨g', 0, none⟩) (n + 1) cap) (n + 1) (xs ++ news.toList) → w.grownBy w' v.ownBlock → (v.ownBlock = some g' ∨ g' = w.heap.size) → wpList P ops Q rest (a.put o.dst (.slice (some ⟨g', 0, none⟩) (n + 1) cap)) w') : wpList P ops Q (o :: rest) a w := by
  obtain ⟨i, hi, hz0, hz1, hz2⟩ := info_parts hi
  exact wpList_append_lies w hgd s x t ho base e i z size bytes ht hi hz0 hz1 hz2 hzs hsz v n xs hs hown ⟨g, 0, none⟩ 1 c news.toList hx (by simpa using hl)
    (fun j u hu => World.news_of_block hblk j u hu) h1 (by omega) (by unfold maxLen; omega) hsmall hbase _ rfl fun g' cap w' h2 h3 h4 _ => h g' cap w' h2 h3 h4
end

/-- The block that builds a tree of kids. -/
def KidBlk (w : World) (b : Nat) (k : Int) (vS vK : Value) : Prop := w.heap[b]? = some (.cells #[.int .i64 k, .string ⟨#[]⟩, .float .f64 0, .bool false, vS, vK] 26 (0, 0))

theorem KidsAt.far2 {w : World} {base : Nat} {vK : Value} {kids : List Value} {ts : List T} (h : KidsAt w base vK kids ts) {b i : Nat} (hb : b < base) (u : Value) : KidsAt (w.setCell ⟨b, i, none⟩ u) base vK kids ts := by
  refine ⟨⟨h.1.1, ?_⟩, h.2.same (same_setCell u (fun _ _ _ => rfl) (fun e => by have := e.1; omega))⟩
  rcases h.1.2 with h0 | ⟨gg, cap, cur, h1, h2, h3, h4⟩
  · exact Or.inl h0
  · exact Or.inr ⟨gg, cap, cur, h1, h2, ((grownBy_setCell w b i u).block gg (lt_of_block h3) (by rintro ⟨⟩; omega)).trans h3, h4⟩
/-- A round of 't.Kids = append(t.Kids, ..)'. -/
theorem KidsAt.round {w w2 w3 : World} {base n bt : Nat} {vK v vS : Value} {kk : Int} {kids : List Value} {ts : List T} {t : T} {g cap m : Nat} (h : KidsAt w base vK kids ts) (hm : m = ts.length) (hbase : base ≤ w.heap.size) (hb : Below w.heap.size w w2) (ht : TreeAt w2 (newB w.heap.size) v t)
    (hown : w3.ownsRow base 26 6 (.slice (some ⟨g, 0, none⟩) (m + 1) cap) (m + 1) (cellsOf kids ++ v.cells.toList)) (hg : w2.grownBy w3 vK.ownBlock) (hat : vK.ownBlock = some g ∨ g = w2.heap.size)
    (hblk : KidBlk w bt kk vS vK) (h1 : bt < base) (hn : n ≤ bt) :
    KidBlk (w3.setCell ⟨bt, 5, none⟩ (.slice (some ⟨g, 0, none⟩) (m + 1) cap)) bt kk vS (.slice (some ⟨g, 0, none⟩) (m + 1) cap) ∧
    KidsAt (w3.setCell ⟨bt, 5, none⟩ (.slice (some ⟨g, 0, none⟩) (m + 1) cap)) base (.slice (some ⟨g, 0, none⟩) (m + 1) cap) (kids ++ [v]) (ts ++ [t]) ∧ Below n w (w3.setCell ⟨bt, 5, none⟩ (.slice (some ⟨g, 0, none⟩) (m + 1) cap)) := by
  subst hm
  have hlt := lt_of_block hblk
  have e3 : w3.heap[bt]? = some (.cells #[.int .i64 kk, .string ⟨#[]⟩, .float .f64 0, .bool false, vS, vK] 26 (0, 0)) := (h.far hb hg h1 hlt).trans hblk
  exact ⟨heap_setCell_same _ _ _ _ _ _ e3, (h.push hbase hb ht hown hg hat).far2 h1 _, (h.belowPush hb hg (by omega) (by omega)).trans (Below.setCell_lo _ hn)⟩

set_option maxHeartbeats 2000000 in
set_option maxRecDepth 100000 in
theorem listOf_any (W : World) (ok : Nat → Prop) (v : Value) (ks : List ByteArray) (hv : StrsAt W ok v ks) (hl : ks.length ≤ 1073741824) : Calls Tryz.prog 147 #[v] W (RetLeaf W (tList ks)) := by
  obtain ⟨ao, cap, rfl, hcap, hc⟩ := hv
  have HC := hide hc
  clear hc
  go_enter Tryz.func147, Tryz.ntmps147
  go_wp2_with fail
  go_loopw [9] (fun i wr => ∃ (k : Nat) (vK : Value) (kids : List Value), k ≤ ks.length ∧ i = .int .i64 k ∧ Below (W.heap.size + 1) (W.alloc (.cells #[.int .i64 0, .string ⟨#[]⟩, .float .f64 0, .bool false, .slice none 0 0, .slice none 0 0] 26 (0, 0))) wr ∧ W.heap.size + 2 ≤ wr.heap.size ∧ KidBlk wr (W.heap.size + 1) 4 (.slice none 0 0) vK ∧ KidsAt wr (W.heap.size + 2) vK kids ((ks.take k).map tText)) (fun i _ => ks.length - (intOf i).toNat)
  case atStart => exact ⟨0, _, [], Nat.zero_le _, rfl, by go_grown, by simp, heap_alloc_two _ _ _, KidsAt.nil _ _⟩
  case round =>
    obtain ⟨k, vK, kids, hk, rfl, hbw, hsz, hblk, hkids⟩ := hrel
    have HBW := hide hbw
    have HK := hide hkids
    have HB := hide hblk
    have c5 : wr.cell? ⟨W.heap.size + 1, 5, none⟩ = some vK := by rw [cell_of_row wr _ 5 _ _ _ hblk]; rfl
    have f5 : wr.frozen? ⟨W.heap.size + 1, 5, none⟩ = false := frozen_of_row wr _ 5 _ _ hblk
    have hlen : ((ks.take k).map tText).length = k := by simp; omega
    have HLEN := hide hlen
    clear hbw hblk hlen
    by_cases hlt : k < ks.length
    · obtain ⟨b, o, rfl, hb, hcell⟩ := HC.out k ks[k] (by simp)
      have e0 : wr.cell? ⟨b, o + k, none⟩ = some (.string ks[k]) := by
        have hbl : b < W.heap.size := World.block_lt_of_cell? W _ hcell
        exact (HBW.out.cell (p := ⟨b, o + k, none⟩) (show b < W.heap.size + 1 by omega)).trans ((World.cell?_alloc_lt _ _ _ hbl).trans hcell)
      have i1 : (0 : Int) ≤ (k : Int) := by omega
      have i3 : (k : Int) < (ks.length : Int) := by omega
      clear hcell hkids
      go_wp2_with fail
      go_region_law (first | ((refine step_append_one _ (by rfl) (.tmp 14) (.tmp 18) 24 (by rfl) (W.heap.size + 2) 26 _ 6 88 Tryz.underlying24 Tryz.info26 rfl (by decide) vK _ (cellsOf kids) (by rfl) ((HK.out.below HB1.out).below (by go_grown)).1 w1.heap.size 1 _ 26 (by rfl) (by first | exact heap_alloc_new _ _ | exact (heap_alloc_new w1 _)) rfl (by intro u hu; simp at hu; rcases hu with rfl | rfl | rfl | rfl | rfl | rfl <;> rfl) (by rw [HLEN.out]; omega) (by rw [HLEN.out]; omega) (by have := HB1.out.size; simp at *; omega) ?_; intro g cp w3 hown3 hgrow3 hat3; have HO3 := hide hown3; have HG3 := hide hgrow3; have HA3 := hide hat3; have b3 := HK.out.far (HB1.out.alloc HB1.out.size _) hgrow3 (b := W.heap.size + 1) (by omega) (by omega); have c53 : w3.cell? ⟨W.heap.size + 1, 5, none⟩ = some vK := (World.cell?_of_block b3).trans c5; have f53 : w3.frozen? ⟨W.heap.size + 1, 5, none⟩ = false := (World.frozen?_of_block b3).trans f5; clear b3 hown3 hgrow3 hat3)) | (go_simp; go_at_call 127; refine (treeOf_text _ _).mono ?_; rintro e w1 ⟨v, rfl, ht, hb⟩; obtain ⟨a1, cap1, a2, cap2, cc, rfl, -⟩ := ht.open; have HT := hide ht; have HB1 : Hid (Below wr.heap.size wr w1) := hide (Below.trans (by go_grown) hb); have c5' : w1.cell? ⟨W.heap.size + 1, 5, none⟩ = some vK := (hb.cell (by simp; omega)).trans c5; have f5' : w1.frozen? ⟨W.heap.size + 1, 5, none⟩ = false := (hb.frozen (by simp; omega)).trans f5; have c5a : ∀ o, (w1.alloc o).cell? ⟨W.heap.size + 1, 5, none⟩ = some vK := fun o => (World.cell?_alloc_lt _ _ _ (World.block_lt_of_cell? _ _ c5')).trans c5'; clear ht hb))
      all_goals
        go_wp2_with fail
        go_round
        case rel =>
          obtain ⟨r1, r2, r3⟩ := KidsAt.round (n := W.heap.size + 1) HK.out HLEN.out.symm (by omega) (HB1.out.alloc HB1.out.size _) (HT.out.same (Same.of_below (by go_grown))) (by have := HO3.out; rw [HLEN.out] at this; exact this) HG3.out HA3.out HB.out (by omega) (by omega)
          have e9 : (ks.take (k + 1)).map tText = (ks.take k).map tText ++ [tText ks[k]] := by rw [List.take_succ_eq_append_getElem hlt, List.map_append]; rfl
          rw [← e9] at r2
          exact ⟨k + 1, _, _, by omega, by go_num, HBW.out.trans r3, Nat.le_trans hsz r3.size, r1, r2⟩
        case measure => simp [intOf]; omega
    · have hke : ks.take k = ks := List.take_of_length_le (by omega)
      have HKE : Hid (KidsAt wr (W.heap.size + 2) vK kids (ks.map tText)) := hide (by have := HK.out; rw [hke] at this; exact this)
      obtain ⟨a2, cap2, hvk, -⟩ := World.ownsRow.form HKE.out.1
      rw [List.length_map] at hvk
      subst hvk
      clear hke hkids HK
      have hb0 : wr.heap[W.heap.size]? = some (.cells #[.int .i64 0, .string ⟨#[]⟩, .float .f64 0, .bool false, .slice none 0 0, .slice none 0 0] 26 (0, 0)) := (HBW.out.block _ (by omega)).trans (heap_alloc_new _ _)
      have d0 : wr.cell? ⟨W.heap.size + 1, 0, none⟩ = some (.int .i64 4) := by rw [cell_of_row wr _ 0 _ _ _ HB.out]; rfl
      have d1 : wr.cell? ⟨W.heap.size + 1, 1, none⟩ = some (.string ⟨#[]⟩) := by rw [cell_of_row wr _ 1 _ _ _ HB.out]; rfl
      have d2 : wr.cell? ⟨W.heap.size + 1, 2, none⟩ = some (.float .f64 0) := by rw [cell_of_row wr _ 2 _ _ _ HB.out]; rfl
      have d3 : wr.cell? ⟨W.heap.size + 1, 3, none⟩ = some (.bool false) := by rw [cell_of_row wr _ 3 _ _ _ HB.out]; rfl
      have d4 : wr.cell? ⟨W.heap.size + 1, 4, none⟩ = some (.slice none 0 0) := by rw [cell_of_row wr _ 4 _ _ _ HB.out]; rfl
      have d5 : wr.cell? ⟨W.heap.size + 1, 5, none⟩ = some (.slice a2 ks.length cap2) := by rw [cell_of_row wr _ 5 _ _ _ HB.out]; rfl
      have c0 : wr.cell? ⟨W.heap.size, 0, none⟩ = some (.int .i64 0) := by rw [cell_of_row wr _ 0 _ _ _ hb0]; rfl
      have c1 : wr.cell? ⟨W.heap.size, 1, none⟩ = some (.string ⟨#[]⟩) := by rw [cell_of_row wr _ 1 _ _ _ hb0]; rfl
      have c2 : wr.cell? ⟨W.heap.size, 2, none⟩ = some (.float .f64 0) := by rw [cell_of_row wr _ 2 _ _ _ hb0]; rfl
      have c3 : wr.cell? ⟨W.heap.size, 3, none⟩ = some (.bool false) := by rw [cell_of_row wr _ 3 _ _ _ hb0]; rfl
      have c4 : wr.cell? ⟨W.heap.size, 4, none⟩ = some (.slice none 0 0) := by rw [cell_of_row wr _ 4 _ _ _ hb0]; rfl
      have c5 : wr.cell? ⟨W.heap.size, 5, none⟩ = some (.slice none 0 0) := by rw [cell_of_row wr _ 5 _ _ _ hb0]; rfl
      have hf : ∀ j, wr.frozen? ⟨W.heap.size, j, none⟩ = false := fun j => frozen_of_row wr _ j _ _ hb0
      have HZ := hide (set6 hb0 (.int .i64 4) (.string ⟨#[]⟩) (.float .f64 0) (.bool false) (.slice none 0 0) (.slice a2 ks.length cap2))
      have HS := hide (same6 (ok := newB (W.heap.size + 1)) (w1 := wr) (b := W.heap.size) (by simp [newB]) (.int .i64 4) (.string ⟨#[]⟩) (.float .f64 0) (.bool false) (.slice none 0 0) (.slice a2 ks.length cap2))
      have HL := hide (below6 (w1 := wr) (Nat.le_refl (W.heap.size)) (.int .i64 4) (.string ⟨#[]⟩) (.float .f64 0) (.bool false) (.slice none 0 0) (.slice a2 ks.length cap2))
      clear hb0
      go_wp2_with fail
      generalize ((((((wr.setCell ⟨W.heap.size, 0, none⟩ (.int .i64 4)).setCell ⟨W.heap.size, 1, none⟩ (.string ⟨#[]⟩)).setCell ⟨W.heap.size, 2, none⟩ (.float .f64 0)).setCell ⟨W.heap.size, 3, none⟩ (.bool false)).setCell ⟨W.heap.size, 4, none⟩ (.slice none 0 0)).setCell ⟨W.heap.size, 5, none⟩ (.slice a2 ks.length cap2)) = wz at *
      have e0 : wz.cell? ⟨W.heap.size, 0, none⟩ = some (.int .i64 4) := by rw [cell_of_row wz _ 0 _ _ _ HZ.out]; rfl
      have e1 : wz.cell? ⟨W.heap.size, 1, none⟩ = some (.string ⟨#[]⟩) := by rw [cell_of_row wz _ 1 _ _ _ HZ.out]; rfl
      have e2 : wz.cell? ⟨W.heap.size, 2, none⟩ = some (.float .f64 0) := by rw [cell_of_row wz _ 2 _ _ _ HZ.out]; rfl
      have e3 : wz.cell? ⟨W.heap.size, 3, none⟩ = some (.bool false) := by rw [cell_of_row wz _ 3 _ _ _ HZ.out]; rfl
      have e4 : wz.cell? ⟨W.heap.size, 4, none⟩ = some (.slice none 0 0) := by rw [cell_of_row wz _ 4 _ _ _ HZ.out]; rfl
      have e5 : wz.cell? ⟨W.heap.size, 5, none⟩ = some (.slice a2 ks.length cap2) := by rw [cell_of_row wz _ 5 _ _ _ HZ.out]; rfl
      refine bodyPost_ret (by simp [results, Tryz.results147, go_sem, e0, e1, e2, e3, e4, e5]; try rfl) rfl ?_
      refine ⟨_, rfl, ?_, ?_⟩
      · refine TreeAt.weaken (ok := newB (W.heap.size + 1)) (fun k hk _ => by unfold newB at *; omega) ?_
        refine TreeAt.same HS.out ?_
        exact tree_of_own (t := tList ks) (base := W.heap.size + 2) (ownsRow_nil _ _) HKE.out.1 (HKE.out.2.weaken (fun k hk _ => by unfold newB; omega)) (fun k hk => by cases hk) (fun k hk => by have := (own_lt HKE.out.1 hk).1; unfold newB; omega)
      · exact (Below.trans (by go_grown) (HBW.out.mono (by omega))).trans HL.out
set_option maxHeartbeats 1000000 in
set_option maxRecDepth 100000 in
theorem treeOf_list (w : World) (ok : Nat → Prop) (a : Option Addr) (n c : Nat) (ks : List ByteArray) (hv : StrsAt w ok (.slice a n c) ks) (hl : ks.length ≤ 1073741824) : Calls Tryz.prog 127 #[.iface 23 (.slice a n c)] w (RetLeaf w (tList ks)) := by
  go_enter Tryz.func127, Tryz.ntmps127
  go_wp2_with fail
  refine (listOf_any _ ok _ ks (hv.same (Same.of_below (by go_grown))) hl).mono ?_
  rintro e w1 ⟨v, rfl, ht, hb⟩
  obtain ⟨t, ht0⟩ : ∃ x, x = tList ks := ⟨_, rfl⟩
  rw [← ht0] at ht
  have HTE := hide ht0
  clear ht0
  obtain ⟨a9, cap9, a', cap', c9, rfl, -⟩ := ht.open
  have HT := hide ht
  have HB := hide hb
  have hblk : w1.heap[w.heap.size]? = some (.cells #[.int .i64 0, .string ⟨#[]⟩, .float .f64 0, .bool false, .slice none 0 0, .slice none 0 0] 26 (0, 0)) := (hb.block _ (by simp)).trans (heap_alloc_new _ _)
  clear ht hb
  have c0 : w1.cell? ⟨w.heap.size, 0, none⟩ = some (.int .i64 0) := by rw [cell_of_row w1 _ 0 _ _ _ hblk]; rfl
  have c1 : w1.cell? ⟨w.heap.size, 1, none⟩ = some (.string ⟨#[]⟩) := by rw [cell_of_row w1 _ 1 _ _ _ hblk]; rfl
  have c2 : w1.cell? ⟨w.heap.size, 2, none⟩ = some (.float .f64 0) := by rw [cell_of_row w1 _ 2 _ _ _ hblk]; rfl
  have c3 : w1.cell? ⟨w.heap.size, 3, none⟩ = some (.bool false) := by rw [cell_of_row w1 _ 3 _ _ _ hblk]; rfl
  have c4 : w1.cell? ⟨w.heap.size, 4, none⟩ = some (.slice none 0 0) := by rw [cell_of_row w1 _ 4 _ _ _ hblk]; rfl
  have c5 : w1.cell? ⟨w.heap.size, 5, none⟩ = some (.slice none 0 0) := by rw [cell_of_row w1 _ 5 _ _ _ hblk]; rfl
  have hf : ∀ j, w1.frozen? ⟨w.heap.size, j, none⟩ = false := fun j => frozen_of_row w1 _ j _ _ hblk
  have HZ := hide (set6 hblk (.int .i64 t.kind) (.string t.text) (.float .f64 t.num) (.bool t.yes) (.slice a9 t.keys.length cap9) (.slice a' t.kids.length cap'))
  have HS := hide (same6 (ok := newB (w.heap.size + 1)) (w1 := w1) (b := w.heap.size) (by simp [newB]) (.int .i64 t.kind) (.string t.text) (.float .f64 t.num) (.bool t.yes) (.slice a9 t.keys.length cap9) (.slice a' t.kids.length cap'))
  have HL := hide (below6 (w1 := w1) (Nat.le_refl (w.heap.size)) (.int .i64 t.kind) (.string t.text) (.float .f64 t.num) (.bool t.yes) (.slice a9 t.keys.length cap9) (.slice a' t.kids.length cap'))
  clear hblk
  go_wp2_with fail
  generalize ((((((w1.setCell ⟨w.heap.size, 0, none⟩ (.int .i64 t.kind)).setCell ⟨w.heap.size, 1, none⟩ (.string t.text)).setCell ⟨w.heap.size, 2, none⟩ (.float .f64 t.num)).setCell ⟨w.heap.size, 3, none⟩ (.bool t.yes)).setCell ⟨w.heap.size, 4, none⟩ (.slice a9 t.keys.length cap9)).setCell ⟨w.heap.size, 5, none⟩ (.slice a' t.kids.length cap')) = wz at *
  have e0 : wz.cell? ⟨w.heap.size, 0, none⟩ = some (.int .i64 t.kind) := by rw [cell_of_row wz _ 0 _ _ _ HZ.out]; rfl
  have e1 : wz.cell? ⟨w.heap.size, 1, none⟩ = some (.string t.text) := by rw [cell_of_row wz _ 1 _ _ _ HZ.out]; rfl
  have e2 : wz.cell? ⟨w.heap.size, 2, none⟩ = some (.float .f64 t.num) := by rw [cell_of_row wz _ 2 _ _ _ HZ.out]; rfl
  have e3 : wz.cell? ⟨w.heap.size, 3, none⟩ = some (.bool t.yes) := by rw [cell_of_row wz _ 3 _ _ _ HZ.out]; rfl
  have e4 : wz.cell? ⟨w.heap.size, 4, none⟩ = some (.slice a9 t.keys.length cap9) := by rw [cell_of_row wz _ 4 _ _ _ HZ.out]; rfl
  have e5 : wz.cell? ⟨w.heap.size, 5, none⟩ = some (.slice a' t.kids.length cap') := by rw [cell_of_row wz _ 5 _ _ _ HZ.out]; rfl
  refine bodyPost_ret (by simp [results, Tryz.results127, go_sem, e0, e1, e2, e3, e4, e5]; try rfl) rfl ?_
  refine ⟨_, rfl, ?_, ?_⟩
  · rw [← HTE.out]
    refine TreeAt.weaken (fun k hk _ => ?_) ((HT.out.weaken (ok' := newB (w.heap.size + 1)) (fun k hk _ => by simpa [newB] using hk)).same HS.out)
    unfold newB at *; omega
  · exact (Below.trans (by go_grown) (HB.out.mono (by simp))).trans HL.out

end Go.Proofs.YtbcnhcpgloncdaaGreatDoor

/-
  A MAP's ENTRIES AND WHAT treeOf MAKES OF THEM.
-/
namespace Go.Proofs.YtbcnhcpgloncdaaGreatDoor
open Go.RowKit Go.Sort Go.ChangeMaps Go.MapKept Go.Lib
open Go.Maps (Keyed has IsMap)

/-- The last entry of a key. -/
def lookL {α : Type} (L : List (ByteArray × α)) (k : ByteArray) : Option α := (L.reverse.find? (fun p => eqB p.1 k)).map (·.2)
theorem lookL_snoc {α : Type} (L : List (ByteArray × α)) (k : ByteArray) (v : α) (k' : ByteArray) : lookL (L ++ [(k, v)]) k' = if eqB k k' = true then some v else lookL L k' := by
  unfold lookL
  rw [List.reverse_append]
  simp only [List.reverse_cons, List.reverse_nil, List.nil_append, List.singleton_append, List.find?_cons]
  cases h : eqB k k' <;> simp
theorem lookL_nil {α : Type} (k : ByteArray) : lookL ([] : List (ByteArray × α)) k = none := rfl

theorem KL_inj {a b : ByteArray} (h : KL a = KL b) : a = b := by
  have : a.data.toList = b.data.toList := by simpa [KL] using h
  cases a; cases b; simp_all
theorem KL_ne {a b : ByteArray} (h : eqB a b = false) : KL b ≠ KL a := fun e => by
  rw [KL_inj e, (eqB_iff a a).2 rfl] at h; cases h

theorem putAll_isMap (L : List (ByteArray × Value)) : IsMap (putAll L) := by
  have : ∀ (L : List (ByteArray × Value)) (D : DataW Value), IsMap D → IsMap (L.foldl (fun D p => D.put (KL p.1) (.held p.2)) D) := by
    intro L
    induction L with
    | nil => intro D h; exact h
    | cons p L ih => intro D h; exact ih _ (h.put _ _)
  exact this L _ ⟨[], rfl⟩

/-- Entries, one for one. -/
inductive Ents {α β : Type} (R : α → β → Prop) : List (ByteArray × α) → List (ByteArray × β) → Prop where
  | nil : Ents R [] []
  | snoc {L : List (ByteArray × α)} {E : List (ByteArray × β)} {k : ByteArray} {u : α} {t : β} (h : Ents R L E) (r : R u t) : Ents R (L ++ [(k, u)]) (E ++ [(k, t)])

theorem Ents.mono {α β : Type} {R R' : α → β → Prop} (hr : ∀ u t, R u t → R' u t) {L : List (ByteArray × α)} {E : List (ByteArray × β)} (h : Ents R L E) : Ents R' L E := by
  induction h with
  | nil => exact .nil
  | snoc _ r ih => exact .snoc ih (hr _ _ r)
theorem Ents.length {α β : Type} {R : α → β → Prop} {L : List (ByteArray × α)} {E : List (ByteArray × β)} (h : Ents R L E) : L.length = E.length := by
  induction h with
  | nil => rfl
  | snoc _ _ ih => simp [ih]
theorem Ents.look {α β : Type} {R : α → β → Prop} {L : List (ByteArray × α)} {E : List (ByteArray × β)} (h : Ents R L E) (k : ByteArray) :
    (lookL L k = none ∧ lookL E k = none) ∨ ∃ u t, lookL L k = some u ∧ lookL E k = some t ∧ R u t := by
  induction h with
  | nil => exact Or.inl ⟨rfl, rfl⟩
  | @snoc L E k0 u t h r ih =>
    rw [lookL_snoc, lookL_snoc]
    cases e : eqB k0 k
    · simpa using ih
    · exact Or.inr ⟨u, t, by simp, by simp, r⟩

theorem snoc_cases {α : Type} (L : List α) : L = [] ∨ ∃ M x, L = M ++ [x] := by
  cases h : L.reverse with
  | nil => exact Or.inl (by simpa using h)
  | cons x M => exact Or.inr ⟨M.reverse, x, by rw [← List.reverse_reverse L, h, List.reverse_cons]⟩

theorem putAll_look : ∀ (n : Nat) (L : List (ByteArray × Value)) (_ : L.length = n) (k : ByteArray),
    has (putAll L) (KL k) = (lookL L k).isSome ∧ ∀ z, (putAll L).atKey (KL k) z = match lookL L k with | some u => .held u | none => z
  | 0, L, hn, k => by
    obtain rfl : L = [] := List.eq_nil_of_length_eq_zero hn
    exact ⟨rfl, fun z => rfl⟩
  | n + 1, L, hn, k => by
    rcases snoc_cases L with rfl | ⟨M, ⟨k0, u⟩, rfl⟩
    · cases hn
    · have ih := putAll_look n M (by simpa using hn) k
      rw [putAll_snoc, lookL_snoc]
      cases e : eqB k0 k
      · have hne := KL_ne e
        refine ⟨by rw [Maps.has_put_other hne]; simpa using ih.1, fun z => by rw [Maps.atKey_put_other hne]; simpa using ih.2 z⟩
      · obtain rfl := (eqB_iff _ _).1 e
        exact ⟨by rw [Maps.has_put_same (k := KL k0) (putAll_isMap M) (show WideAt.IsKeyLit (KL k0) from trivial)]; rfl, fun z => by rw [Maps.atKey_put_same (k := KL k0) (putAll_isMap M) (show WideAt.IsKeyLit (KL k0) from trivial)]; rfl⟩

/-- 'm[k]' and 'v, ok := m[k]'. -/
theorem MapIs.look {w : World} {b : Nat} {L : List (ByteArray × Value)} (h : MapIs w b L) {t e : TypeId} (ht : Tryz.prog.underlying t = some (.map 9 e)) {z : Value} (hz : (zeroValue e).run Tryz.prog w = .ok z w) {k : ByteArray} (hk : k.size ≤ maxLen) :
    (Instr.lookup t (.map (some b)) (.string k) false).run Tryz.prog w = .ok ((lookL L k).getD z) w ∧ (Instr.lookup t (.map (some b)) (.string k) true).run Tryz.prog w = .ok (.tuple #[(lookL L k).getD z, .bool (lookL L k).isSome]) w := by
  obtain ⟨h1, h2⟩ := putAll_look _ L rfl k
  obtain ⟨v, ps, r1, r2⟩ := World.ownsMap.lookup h key9 ht hz (zd := .held z) (zp := []) rfl (key_ok hk)
  obtain ⟨v', ps', r3, r4⟩ := World.ownsMap.look_ok h key9 ht hz (zd := .held z) (zp := []) rfl (key_ok hk)
  rw [h2] at r2 r4
  rw [h1] at r3
  have e1 : v = (lookL L k).getD z := by
    cases hl : lookL L k <;> rw [hl] at r2 <;> simp [RV] at r2 <;> exact r2.1
  have e2 : v' = (lookL L k).getD z := by
    cases hl : lookL L k <;> rw [hl] at r4 <;> simp [RV] at r4 <;> exact r4.1
  rw [e1] at r1
  rw [e2] at r3
  exact ⟨r1, r3⟩

/-- What treeOf makes of a value, while the blocks of F stand. -/
def TellsF (F : Nat → Prop) (w : World) (u : Value) (t : T) : Prop := ∀ w', Same F w w' → w.heap.size ≤ w'.heap.size → Calls Tryz.prog 127 #[u] w' (RetLeaf w' t)
theorem TellsF.mono {F : Nat → Prop} {w w1 : World} {u : Value} {t : T} (h : TellsF F w u t) (hs : Same F w w1) (hl : w.heap.size ≤ w1.heap.size) : TellsF F w1 u t :=
  fun w' h1 h2 => h w' (fun k hk hlt => (h1 k hk (Nat.lt_of_lt_of_le hlt hl)).trans (hs k hk hlt)) (Nat.le_trans hl h2)

/-- A map whose entries' values stand for trees. -/
def MapE (F : Nat → Prop) (w : World) (b : Nat) (E : List (ByteArray × T)) : Prop := ∃ L, MapIs w b L ∧ Ents (TellsF F w) L E

theorem MapE.lt {F : Nat → Prop} {w : World} {b : Nat} {E : List (ByteArray × T)} (h : MapE F w b E) : b < w.heap.size := by
  obtain ⟨L, h1, -⟩ := h; exact h1.lt
theorem MapE.mono {F : Nat → Prop} {w w1 : World} {b : Nat} {E : List (ByteArray × T)} (h : MapE F w b E) (hs : Same F w w1) (hl : w.heap.size ≤ w1.heap.size) (hb : w1.heap[b]? = w.heap[b]?) : MapE F w1 b E := by
  obtain ⟨L, h1, h2⟩ := h
  exact ⟨L, h1.same hb, h2.mono fun u t r => r.mono hs hl⟩

/-- A map's tree: the keys rise; each has its kid. -/
def IsMapT (t : T) (E : List (ByteArray × T)) : Prop :=
  ∃ Ls : List (List UInt8), Ls.Pairwise (· < ·) ∧ (∀ l, l ∈ Ls ↔ (lookL E (bs l)).isSome = true) ∧ t = .mk 5 ⟨#[]⟩ 0 false (Ls.map bs) (Ls.map fun l => (lookL E (bs l)).getD default)
end Go.Proofs.YtbcnhcpgloncdaaGreatDoor

/-
  impl.mapOf.
-/
namespace Go.Proofs.YtbcnhcpgloncdaaGreatDoor
open Go.RowKit Go.Sort Go.ChangeMaps Go.MapKept Go.Lib
open Go.Maps (Keyed has IsMap)

theorem MapIs.below {w w' : World} {b : Nat} {L : List (ByteArray × Value)} (h : MapIs w b L) (hb : Below w.heap.size w w') : MapIs w' b L := h.same (hb.block b h.lt)

theorem some_ne {a b : Nat} (h : a ≠ b) : some a ≠ some b := fun e => h (Option.some.inj e)

theorem KidsAt.own {w : World} {base : Nat} {vK : Value} {kids : List Value} {ts : List T} {k : Nat} (h : KidsAt w base vK kids ts) (hl : ts.length = k) : w.ownsRow base 26 6 vK k (cellsOf kids) := hl ▸ h.1

def RetMap (w : World) (E : List (ByteArray × T)) (e : Ending) (w' : World) : Prop := ∃ v t, e = .returned v ∧ TreeAt w' (newB w.heap.size) v t ∧ IsMapT t E ∧ Below w.heap.size w w'

theorem own_kept {w w' : World} {base e size : Nat} {v : Value} {n : Nat} {xs : List Value} {x : Option Nat} (h : w.ownsRow base e size v n xs) (hg : w.grownBy w' x) (hne : ∀ g, v.ownBlock = some g → some g ≠ x) : w'.ownsRow base e size v n xs := by
  refine ⟨h.1, ?_⟩
  rcases h.2 with h0 | ⟨gg, cap, cur, h1, h2, h3, h4⟩
  · exact Or.inl h0
  · exact Or.inr ⟨gg, cap, cur, h1, h2, (hg.block gg (lt_of_block h3) (hne gg (by rw [h1]; rfl))).trans h3, h4⟩

/-- What a step of the range leaves. -/
structure Stepped (w : World) (b r n : Nat) (D : DataW Value) (left : Lit → Bool) (cnt : Nat) (x : List UInt8) (c : Value) (w' : World) (cnt' : Nat) : Prop where
  len : x.length ≤ maxLen
  lk : left (.string x) = true
  at_ : ∀ zd, D.atKey (.string x) zd = .held c
  rg : w'.ranges Tryz.prog 9 RV b r n D (fun z => left z && !z.sameKey (.string x)) cnt'
  lt : cnt' < cnt
  grown : w.grownBy w' (some r)
  size : w'.heap.size = w.heap.size
  en : (Instr.entry (.pointer (some ⟨r, 0, none⟩))).run Tryz.prog w' = .ok (.tuple #[encStr x, c]) w'
structure Done (left : Lit → Bool) (cnt : Nat) : Prop where
  cnt0 : cnt = 0
  none : ∀ kl, left kl = false

theorem wpList_next_str (w : World) {ops : Array Oper} {rest : List Oper} {o : Oper} {a : Act} {Q : Exit → Act → World → Prop} (hg : o.guard = none) (it : Operand) (hop : o.op = Op.next it false)
    (b r n : Nat) (D : DataW Value) (left : Lit → Bool) (cnt : Nat) (hit : a.eval it = .pointer (some ⟨r, 0, none⟩)) (h : w.ranges Tryz.prog 9 RV b r n D left cnt)
    (hDone : Done left cnt → wpList Tryz.prog ops Q rest (a.put o.dst (.tuple #[.bool false])) w)
    (hMore : ∀ (x : List UInt8) (c : Value) (w' : World) (cnt' : Nat), Stepped w b r n D left cnt x c w' cnt' → wpList Tryz.prog ops Q rest (a.put o.dst (.tuple #[.bool true, encStr x, c])) w') :
    wpList Tryz.prog ops Q (o :: rest) a w :=
  wpList_next_ranges w hg it hop 9 key9 RV encStr id (fun key kl h => by obtain ⟨x, hx, _⟩ := Maps.keyOf_str Tryz.underlying9 h; exact ⟨x, hx⟩) (fun v y _ => ⟨v, rfl⟩) b r n D left cnt hit h
    (fun h0 hl => hDone ⟨h0, hl⟩) (fun x c kl y w' cnt' hkey hlk hR hat hrg hlt hgr hsz hen => by
      obtain ⟨x', ex, rfl, hxl⟩ := Maps.keyOf_str Tryz.underlying9 hkey
      obtain rfl := encStr_inj ex
      have hy : y = (.held c, []) := by simpa [RV] using hR.symm
      subst hy
      exact hMore x c w' cnt' ⟨hxl, hlk, hat, hrg, hlt, hgr, hsz, hen⟩)

/-- A round of 't.Keys = append(t.Keys, key)'. -/
theorem keys_round {w w1 w2 w3 : World} {b ri n : Nat} {D : DataW Value} {left : Lit → Bool} {cnt base bt N : Nat} {vS vK : Value} {kk : Int} {ss : List (List UInt8)} {x : List UInt8} {g cap : Nat}
    (hrg : w1.ranges Tryz.prog 9 RV b ri n D left cnt) (hg1 : w.grownBy w1 (some ri)) (hblk : KidBlk w bt kk vS vK) (hown : w.ownsRow base 9 1 vS ss.length (ss.map encStr)) (hri : bt < ri) (hrb : ri < base) (hb0 : b < N) (hN : N ≤ bt) (hsz : base ≤ w.heap.size)
    (hb2 : Below w1.heap.size w1 w2) (hown3 : w3.ownsRow base 9 1 (.slice (some ⟨g, 0, none⟩) (ss.length + 1) cap) (ss.length + 1) (ss.map encStr ++ [encStr x])) (hg3 : w2.grownBy w3 vS.ownBlock) :
    (w3.setCell ⟨bt, 4, none⟩ (.slice (some ⟨g, 0, none⟩) (ss.length + 1) cap)).ranges Tryz.prog 9 RV b ri n D left cnt ∧
    KidBlk (w3.setCell ⟨bt, 4, none⟩ (.slice (some ⟨g, 0, none⟩) (ss.length + 1) cap)) bt kk (.slice (some ⟨g, 0, none⟩) (ss.length + 1) cap) vK ∧
    (w3.setCell ⟨bt, 4, none⟩ (.slice (some ⟨g, 0, none⟩) (ss.length + 1) cap)).ownsRow base 9 1 (.slice (some ⟨g, 0, none⟩) (ss.length + 1) cap) (ss ++ [x]).length ((ss ++ [x]).map encStr) ∧
    Below N w (w3.setCell ⟨bt, 4, none⟩ (.slice (some ⟨g, 0, none⟩) (ss.length + 1) cap)) := by
  have ob : ∀ j, vS.ownBlock = some j → base ≤ j := fun j hj => (own_lt hown hj).1
  have s1 : w.heap.size ≤ w1.heap.size := hg1.size
  have s2 : w1.heap.size ≤ w2.heap.size := hb2.size
  have r2 := hrg.kept (below_grown hb2) (by simp) (by simp)
  have r3 := r2.kept hg3 (fun e => by have := ob _ e.symm; omega) (fun e => by have := ob _ e.symm; omega)
  have r4 := r3.kept (grownBy_setCell w3 bt 4 (.slice (some ⟨g, 0, none⟩) (ss.length + 1) cap)) (fun e => by cases e; omega) (fun e => by cases e; omega)
  have hlt := lt_of_block hblk
  have e3 : w3.heap[bt]? = some (.cells #[.int .i64 kk, .string ⟨#[]⟩, .float .f64 0, .bool false, vS, vK] 26 (0, 0)) :=
    (hg3.block bt (Nat.lt_of_lt_of_le hlt (Nat.le_trans s1 hb2.size)) (fun e => by have := ob _ e.symm; omega)).trans ((hb2.block bt (Nat.lt_of_lt_of_le hlt s1)).trans ((hg1.block bt hlt (fun e => by cases e; omega)).trans hblk))
  refine ⟨r4, heap_setCell_same _ _ _ _ _ _ e3, ?_, ?_⟩
  · have := own_kept hown3 (grownBy_setCell w3 bt 4 (.slice (some ⟨g, 0, none⟩) (ss.length + 1) cap)) (fun j hj e => by have := (own_lt hown3 hj).1; cases e; omega)
    simpa using this
  · refine Below.trans ?_ (Below.setCell_lo _ hN)
    refine ⟨hg3.os.trans (hb2.os.trans hg1.os), hg3.tape.trans (hb2.tape.trans hg1.tape), hg3.output.trans (hb2.output.trans hg1.output), Nat.le_trans s1 (Nat.le_trans hb2.size hg3.size), fun k hk => ?_⟩
    rw [hg3.block k (by omega) (fun e => by have := ob _ e.symm; omega), hb2.block k (by omega), hg1.block k (by omega) (fun e => by cases e; omega)]

theorem KL_bs (l : List UInt8) : KL (bs l) = .string l := rfl
theorem enc_bs (ls : List (List UInt8)) : (ls.map bs).map Value.string = ls.map encStr := by rw [List.map_map]; rfl

theorem sorted_keys {R : Value → T → Prop} {L : List (ByteArray × Value)} {E : List (ByteArray × T)} {ss : List (List UInt8)} {left : Lit → Bool} (hE : Ents R L E) (hC : Collected (putAll L) left ss) (hl0 : ∀ kl, left kl = false) :
    (ss.mergeSort fun x y => decide (x ≤ y)).Pairwise (· < ·) ∧ (∀ l, l ∈ (ss.mergeSort fun x y => decide (x ≤ y)) ↔ (lookL E (bs l)).isSome = true) ∧ (∀ l, l ∈ (ss.mergeSort fun x y => decide (x ≤ y)) → ∃ u t, lookL L (bs l) = some u ∧ lookL E (bs l) = some t ∧ R u t) := by
  have hperm := List.mergeSort_perm ss (fun x y => decide (x ≤ y))
  have tr : ∀ a b c : List UInt8, decide (a ≤ b) = true → decide (b ≤ c) = true → decide (a ≤ c) = true := fun a b c h1 h2 => by simp only [decide_eq_true_eq] at *; exact List.le_trans h1 h2
  have tot : ∀ a b : List UInt8, (decide (a ≤ b) || decide (b ≤ a)) = true := fun a b => by simp only [Bool.or_eq_true, decide_eq_true_eq]; exact List.le_total a b
  have hle := List.pairwise_mergeSort tr tot ss
  have hnd : (ss.mergeSort fun x y => decide (x ≤ y)).Nodup := hperm.nodup_iff.2 hC.1
  have hmem : ∀ l, l ∈ (ss.mergeSort fun x y => decide (x ≤ y)) ↔ (lookL L (bs l)).isSome = true := fun l => by
    rw [hperm.mem_iff, hC.2 l, hl0, ← KL_bs l, (putAll_look _ L rfl (bs l)).1]
    simp
  refine ⟨?_, fun l => ?_, fun l hl => ?_⟩
  · refine (hle.and hnd).imp fun {a b} h => ?_
    rcases List.le_iff_lt_or_eq.1 (by simpa using h.1) with h1 | h1
    · exact h1
    · exact absurd h1 h.2
  · rw [hmem l]
    rcases hE.look (bs l) with ⟨h1, h2⟩ | ⟨u, t, h1, h2, -⟩ <;> simp [h1, h2]
  · have h1 := (hmem l).1 hl
    rcases hE.look (bs l) with ⟨h2, h3⟩ | ⟨u, t, h2, h3, h4⟩
    · rw [h2] at h1; cases h1
    · exact ⟨u, t, h2, h3, h4⟩

theorem own_kept' {w w' : World} {base e size : Nat} {v : Value} {n : Nat} {xs : List Value} (h : w.ownsRow base e size v n xs) (hg : ∀ g, v.ownBlock = some g → w'.heap[g]? = w.heap[g]?) : w'.ownsRow base e size v n xs := by
  refine ⟨h.1, ?_⟩
  rcases h.2 with h0 | ⟨gg, cap, cur, h1, h2, h3, h4⟩
  · exact Or.inl h0
  · exact Or.inr ⟨gg, cap, cur, h1, h2, (hg gg (by rw [h1]; rfl)).trans h3, h4⟩

theorem own_low {w : World} {base base' e size : Nat} {v : Value} {n : Nat} {xs : List Value} (h : w.ownsRow base e size v n xs) (hb : base' ≤ base) : w.ownsRow base' e size v n xs := by
  refine ⟨h.1, ?_⟩
  rcases h.2 with h0 | ⟨gg, cap, cur, h1, h2, h3⟩
  · exact Or.inl h0
  · exact Or.inr ⟨gg, cap, cur, h1, Nat.le_trans hb h2, h3⟩

theorem keys_pos {L : List (ByteArray × Value)} {E : List (ByteArray × T)} {R : Value → T → Prop} {ss : List (List UInt8)} {left : Lit → Bool} (hE : Ents R L E) (hne : E ≠ []) (hC : Collected (putAll L) left ss) (hl0 : ∀ kl, left kl = false) : 0 < ss.length := by
  rcases snoc_cases L with rfl | ⟨M, ⟨k0, u⟩, rfl⟩
  · exact absurd (List.eq_nil_of_length_eq_zero (by rw [← hE.length]; rfl)) hne
  · refine List.length_pos_of_mem (a := k0.data.toList) ((hC.2 _).2 ⟨?_, hl0 _⟩)
    have h := (putAll_look _ (M ++ [(k0, u)]) rfl k0).1
    rw [lookL_snoc, if_pos ((eqB_iff _ _).2 rfl)] at h
    exact h

set_option maxHeartbeats 4000000 in
set_option maxRecDepth 100000 in
theorem mapOf_any (W : World) (F : Nat → Prop) (b : Nat) (E : List (ByteArray × T)) (hm : MapE F W b E) (hne : E ≠ []) (hl : E.length ≤ 4194304) : Calls Tryz.prog 151 #[.map (some b)] W (RetMap W E) := by
  obtain ⟨L, hL, hE⟩ := hm
  have HL := hide hL
  have HE := hide hE
  have HNE := hide hne
  have hbl : b < W.heap.size := hL.lt
  have hlen : L.length ≤ 4194304 := by rw [hE.length]; exact hl
  clear hL hE hne
  have hD : Hid (Maps.size (putAll L) ≤ L.length) := hide (World.ownsMap.size_le HL.out)
  go_enter Tryz.func151, Tryz.ntmps151
  go_wp2_with (first | (at_range; go_loud (refine wpList_range_own _ rfl _ 112 rfl 9 20 key9 Tryz.underlying112 RV b L.length (putAll L) rfl (HL.out.below (by go_grown)) ?_; intro w0 hrg0 hg0 hs0)) | go_in)
  go_frame
  simp only [World.size_alloc]
  have B0 : Hid (Below (W.heap.size + 1) (W.alloc (.cells #[.int .i64 0, .string ⟨#[]⟩, .float .f64 0, .bool false, .slice none 0 0, .slice none 0 0] 26 (0, 0))) w0) := hide ⟨hg0.os, hg0.tape, hg0.output, by have := hg0.size; simp at *; omega, fun k hk => by rw [hg0.block k (by simp; omega) (by simp), (MapKept.heap_alloc _ _).2 k (by simp; omega)]⟩
  have K0 : Hid (KidBlk w0 (W.heap.size + 1) 5 (.slice none 0 0) (.slice none 0 0)) := hide ((hg0.block _ (by simp) (by simp)).trans (heap_alloc_two _ _ _))
  have hs00 : w0.heap.size = W.heap.size + 3 := by rw [hs0]; simp
  have R0 := hide hrg0
  clear hrg0 hg0 hs0
  go_loopw [4] (fun _ wr => ∃ (ss : List (List UInt8)) (left : Lit → Bool) (cnt : Nat) (vS : Value), wr.ranges Tryz.prog 9 RV b (W.heap.size + 2) L.length (putAll L) left cnt ∧ Collected (putAll L) left ss ∧ KidBlk wr (W.heap.size + 1) 5 vS (.slice none 0 0) ∧ wr.ownsRow (W.heap.size + 3) 9 1 vS ss.length (ss.map encStr) ∧ Below (W.heap.size + 1) (W.alloc (.cells #[.int .i64 0, .string ⟨#[]⟩, .float .f64 0, .bool false, .slice none 0 0, .slice none 0 0] 26 (0, 0))) wr ∧ W.heap.size + 3 ≤ wr.heap.size ∧ ss.length + cnt ≤ L.length) (fun _ wr => wr.rangeLeft b (W.heap.size + 2))
  case atStart => exact ⟨[], _, _, _, by simpa using R0.out, Collected.start _, K0.out, ownsRow_nil _ _, B0.out, by omega, by simpa using hD.out⟩
  case round =>
    obtain ⟨ss, left, cnt, vS, hrg, hC, hblk, hown, hbw, hsz, hcl⟩ := hrel
    have HRG := hide hrg
    have HC := hide hC
    have HB := hide hblk
    have HO := hide hown
    have HBW := hide hbw
    have c4 : wr.cell? ⟨W.heap.size + 1, 4, none⟩ = some vS := by rw [cell_of_row wr _ 4 _ _ _ hblk]; rfl
    have f4 : wr.frozen? ⟨W.heap.size + 1, 4, none⟩ = false := frozen_of_row wr _ 4 _ _ hblk
    clear hrg hC hblk hown hbw
    go_wp2_with (at_next; go_loud (refine wpList_next_str _ rfl (.tmp 9) rfl b (W.heap.size + 2) L.length (putAll L) left cnt rfl HRG.out ?_ ?_))
    · intro hdone
      obtain ⟨h0, hl0⟩ := hdone
      obtain ⟨hsrt, hmem, hlook⟩ := sorted_keys HE.out HC.out hl0
      have hpos := keys_pos HE.out HNE.out HC.out hl0
      have hkl : ∀ l, l ∈ (ss.mergeSort fun x y => decide (x ≤ y)) → l.length ≤ maxLen := fun l hl => strKeys_le HRG.out.owns Tryz.underlying9 l ((Collected.perm HC.out HRG.out.owns key9 Tryz.underlying9 hl0).mem_iff.1 ((List.mergeSort_perm ss _).mem_iff.1 hl))
      rcases HO.out.2 with ⟨-, h00⟩ | ⟨gk, capk, cur, rfl, hgk, hbk, hncap, hcapm, hcs, htake⟩
      · omega
      have HKL := hide hkl
      have HSRT := hide hsrt
      have HMEM := hide hmem
      have HLOOK := hide hlook
      have HH : Hid (Holds encStr wr gk 0 ss.toArray) := hide (holds_of_block hbk (by simpa using htake))
      have hgl : gk < wr.heap.size := lt_of_block hbk
      have HBK := hide hbk
      have HCS := hide hcs
      clear h0 hl0 hsrt hmem hlook hkl hbk hcs htake
      go_wp2_with fail
      refine (Tryz.slices_Sort_string gk 0 capk ss wr HH.out hgl (by omega)).mono ?_
      rintro e w5 ⟨rfl, n5, os5, hw5⟩
      have HO5 : Hid (w5.ownsRow (W.heap.size + 3) 9 1 (.slice (some ⟨gk, 0, none⟩) ss.length capk) ss.length ((ss.mergeSort fun x y => decide (x ≤ y)).map encStr)) := hide (by rw [hw5]; exact ownsRow_sorted (by simp) hgk HBK.out hncap hcapm (by simpa using HCS.out))
      have HG5 : Hid (wr.grownBy w5 (some gk)) := hide (by rw [hw5]; exact grownBy_sorted _)
      clear hw5 HBK HCS
      have hLlen : (ss.mergeSort fun x y => decide (x ≤ y)).length = ss.length := by simp
      have HLL := hide hLlen
      obtain ⟨Ls, hLs⟩ : ∃ x, x = (ss.mergeSort fun x y => decide (x ≤ y)) := ⟨_, rfl⟩
      rw [← hLs] at HKL HSRT HMEM HLOOK HO5 HLL
      clear hLs hLlen
      have b5 : w5.heap[W.heap.size + 1]? = wr.heap[W.heap.size + 1]? := HG5.out.block _ (by omega) (some_ne (by omega))
      have K5 : Hid (KidBlk w5 (W.heap.size + 1) 5 (.slice (some ⟨gk, 0, none⟩) ss.length capk) (.slice none 0 0)) := hide (b5.trans HB.out)
      have c45 : w5.cell? ⟨W.heap.size + 1, 4, none⟩ = some (.slice (some ⟨gk, 0, none⟩) ss.length capk) := (World.cell?_of_block b5).trans c4
      have hs5 : wr.heap.size ≤ w5.heap.size := HG5.out.size
      have BW5 : Hid (Below (W.heap.size + 1) (W.alloc (.cells #[.int .i64 0, .string ⟨#[]⟩, .float .f64 0, .bool false, .slice none 0 0, .slice none 0 0] 26 (0, 0))) w5) := hide (HBW.out.trans ⟨HG5.out.os, HG5.out.tape, HG5.out.output, HG5.out.size, fun k hk => HG5.out.block k (by omega) (some_ne (by omega))⟩)
      clear b5 c4 f4
      go_wp2_with fail
      obtain ⟨B5, hB5⟩ : ∃ x, x = w5.heap.size := ⟨_, rfl⟩
      have hB5a : B5 ≤ w5.heap.size := by omega
      have hB5b : W.heap.size + 3 ≤ B5 := by omega
      have hB5c : gk < B5 := by omega
      have HB5 := hide hB5
      clear hB5
      go_loopw [26] (fun i wr => ∃ (k : Nat) (vK : Value) (kids : List Value), k ≤ ss.length ∧ i = .int .i64 k ∧ Below (W.heap.size + 1) (W.alloc (.cells #[.int .i64 0, .string ⟨#[]⟩, .float .f64 0, .bool false, .slice none 0 0, .slice none 0 0] 26 (0, 0))) wr ∧ B5 ≤ wr.heap.size ∧ (∀ j, W.heap.size + 1 < j → j < B5 → wr.heap[j]? = w5.heap[j]?) ∧ KidBlk wr (W.heap.size + 1) 5 (.slice (some ⟨gk, 0, none⟩) ss.length capk) vK ∧ KidsAt wr B5 vK kids ((Ls.take k).map fun l => (lookL E (bs l)).getD default)) (fun i _ => ss.length - (intOf i).toNat)
      case atStart => exact ⟨0, _, [], Nat.zero_le _, rfl, BW5.out, hB5a, fun _ _ _ => rfl, K5.out, KidsAt.nil _ _⟩
      case round =>
        obtain ⟨k, vK, kids, hk, rfl, hbw, hsq, hoth, hblk, hkids⟩ := hrel
        have HBQ := hide hbw
        have HBT : Hid (Below W.heap.size W wr) := hide ((show Below W.heap.size W (W.alloc (.cells #[.int .i64 0, .string ⟨#[]⟩, .float .f64 0, .bool false, .slice none 0 0, .slice none 0 0] 26 (0, 0))) by go_grown).trans (hbw.mono (by omega)))
        have HK := hide hkids
        have HKB := hide hblk
        have HOTH := hide hoth
        have c5 : wr.cell? ⟨W.heap.size + 1, 5, none⟩ = some vK := by rw [cell_of_row wr _ 5 _ _ _ hblk]; rfl
        have f5 : wr.frozen? ⟨W.heap.size + 1, 5, none⟩ = false := frozen_of_row wr _ 5 _ _ hblk
        have hlen2 : ((Ls.take k).map fun l => (lookL E (bs l)).getD default).length = k := by have := HLL.out; simp; omega
        have HLEN := hide hlen2
        have MI := hide (HL.out.below HBT.out)
        clear hbw hblk hoth hlen2 hkids
        by_cases hlt : k < ss.length
        · have hltL : k < Ls.length := by rw [HLL.out]; exact hlt
          obtain ⟨u, t, hu, ht, htl⟩ := HLOOK.out Ls[k] (List.getElem_mem hltL)
          have e0 : wr.cell? ⟨gk, k, none⟩ = some (encStr Ls[k]) := by
            have h1 := World.ownsRow.form HO5.out
            obtain ⟨a, cp, hv, -, -, hcell⟩ := h1
            obtain ⟨g', e1, -, -, hc⟩ := hcell k (encStr Ls[k]) (by simp [hltL])
            cases hv
            cases e1
            exact (World.cell?_of_block (HOTH.out gk (by omega) hB5c)).trans hc
          have hks : (bs Ls[k]).size ≤ maxLen := by rw [bs_size]; exact HKL.out _ (List.getElem_mem hltL)
          have hz20 : ∀ w : World, (zeroValue 20).run Tryz.prog w = .ok .nilIface w := fun w => by kernel_rfl
          have hlk1 := (MI.out.look Tryz.underlying112 (hz20 _) hks).1
          have hlk2 := ((MI.out.below (w' := wr.drew) ((Below.refl _ _).drew)).look Tryz.underlying112 (hz20 _) hks).1
          rw [hu] at hlk1 hlk2
          simp only [Option.getD_some] at hlk1 hlk2
          have HTL := hide htl
          have HT0 := hide ht
          have hkey : Value.string (bs Ls[k]) = encStr Ls[k] := rfl
          rw [hkey] at hlk1 hlk2
          clear hu ht htl hz20 hks hkey
          obtain ⟨l, hl⟩ : ∃ x, x = Ls[k] := ⟨_, rfl⟩
          rw [← hl] at e0 hlk1 hlk2 HT0
          have HLK := hide hl
          clear hl
          have i1 : (0 : Int) ≤ (k : Int) := by omega
          have i3 : (k : Int) < (ss.length : Int) := by omega
          go_wp2_with fail
          go_region_law (first | (refine step_append_one _ (by rfl) (.tmp 31) (.tmp 36) 24 (by rfl) B5 26 _ 6 88 Tryz.underlying24 Tryz.info26 rfl (by decide) vK k (cellsOf kids) (by rfl) (((HK.out.below HB1.out).below (by go_grown)).own HLEN.out) w1.heap.size 1 _ 26 (by rfl) (by first | exact heap_alloc_new _ _ | exact (heap_alloc_new w1 _)) rfl (by intro u hu; simp at hu; rcases hu with rfl | rfl | rfl | rfl | rfl | rfl <;> rfl) (by omega) (by omega) (by have := HB1.out.size; simp at *; omega) ?_; intro g cp w3 hown3 hgrow3 hat3; have HO3 := hide hown3; have HG3 := hide hgrow3; have HA3 := hide hat3; have b3 := HK.out.far (HB1.out.alloc HB1.out.size _) hgrow3 (b := W.heap.size + 1) (by omega) (by omega); have c53 : w3.cell? ⟨W.heap.size + 1, 5, none⟩ = some vK := (World.cell?_of_block b3).trans c5; have f53 : w3.frozen? ⟨W.heap.size + 1, 5, none⟩ = false := (World.frozen?_of_block b3).trans f5; clear b3 hown3 hgrow3 hat3) | (go_simp; go_at_call 127; refine (HTL.out _ (Same.of_below HBT.out.drew) HBT.out.drew.size).mono ?_; rintro e w1 ⟨v, rfl, ht, hb⟩; obtain ⟨a1, cap1, a2, cap2, cc, rfl, -⟩ := ht.open; have HT := hide ht; have HB1 : Hid (Below wr.heap.size wr w1) := hide (Below.trans (by go_grown) hb); have c5' : w1.cell? ⟨W.heap.size + 1, 5, none⟩ = some vK := (hb.cell (by simp; omega)).trans c5; have f5' : w1.frozen? ⟨W.heap.size + 1, 5, none⟩ = false := (hb.frozen (by simp; omega)).trans f5; have c5a : ∀ o, (w1.alloc o).cell? ⟨W.heap.size + 1, 5, none⟩ = some vK := fun o => (World.cell?_alloc_lt _ _ _ (World.block_lt_of_cell? _ _ c5')).trans c5'; clear ht hb))
          all_goals
            go_wp2_with fail
            go_round
            case rel =>
              obtain ⟨r1, r2, r3⟩ := KidsAt.round (n := W.heap.size + 1) HK.out HLEN.out.symm hsq (HB1.out.alloc HB1.out.size _) (HT.out.same (Same.of_below (by go_grown))) HO3.out HG3.out HA3.out HKB.out (by omega) (by omega)
              have e9 : ((Ls.take (k + 1)).map fun l => (lookL E (bs l)).getD default) = ((Ls.take k).map fun l => (lookL E (bs l)).getD default) ++ [t] := by
                have hltL : k < Ls.length := by rw [HLL.out]; exact hlt
                rw [List.take_succ_eq_append_getElem hltL, List.map_append]
                simp only [List.map_cons, List.map_nil]
                rw [← HLK.out, HT0.out]; rfl
              rw [← e9] at r2
              refine ⟨k + 1, _, _, by omega, by go_num, HBQ.out.trans r3, Nat.le_trans hsq r3.size, fun j h1 h2 => ?_, r1, r2⟩
              have hf := HK.out.far (HB1.out.alloc HB1.out.size _) HG3.out (b := j) h2 (by omega)
              rw [heap_setCell_other _ _ _ _ (by simp; omega), hf]
              exact HOTH.out j h1 h2
            case measure => simp [intOf]; omega
        · have hke : Ls.take k = Ls := List.take_of_length_le (by rw [HLL.out]; omega)
          have HKE : Hid (KidsAt wr B5 vK kids (Ls.map fun l => (lookL E (bs l)).getD default)) := hide (by have := HK.out; rw [hke] at this; exact this)
          obtain ⟨a2, cap2, hvk, -⟩ := World.ownsRow.form HKE.out.1
          rw [List.length_map] at hvk
          subst hvk
          clear hke HK
          have hb0 : wr.heap[W.heap.size]? = some (.cells #[.int .i64 0, .string ⟨#[]⟩, .float .f64 0, .bool false, .slice none 0 0, .slice none 0 0] 26 (0, 0)) := (HBQ.out.block _ (by omega)).trans (heap_alloc_new _ _)
          have d0 : wr.cell? ⟨W.heap.size + 1, 0, none⟩ = some (.int .i64 5) := by rw [cell_of_row wr _ 0 _ _ _ HKB.out]; rfl
          have d1 : wr.cell? ⟨W.heap.size + 1, 1, none⟩ = some (.string ⟨#[]⟩) := by rw [cell_of_row wr _ 1 _ _ _ HKB.out]; rfl
          have d2 : wr.cell? ⟨W.heap.size + 1, 2, none⟩ = some (.float .f64 0) := by rw [cell_of_row wr _ 2 _ _ _ HKB.out]; rfl
          have d3 : wr.cell? ⟨W.heap.size + 1, 3, none⟩ = some (.bool false) := by rw [cell_of_row wr _ 3 _ _ _ HKB.out]; rfl
          have d4 : wr.cell? ⟨W.heap.size + 1, 4, none⟩ = some (.slice (some ⟨gk, 0, none⟩) ss.length capk) := by rw [cell_of_row wr _ 4 _ _ _ HKB.out]; rfl
          have d5 : wr.cell? ⟨W.heap.size + 1, 5, none⟩ = some (.slice a2 Ls.length cap2) := by rw [cell_of_row wr _ 5 _ _ _ HKB.out]; rfl
          have c0 : wr.cell? ⟨W.heap.size, 0, none⟩ = some (.int .i64 0) := by rw [cell_of_row wr _ 0 _ _ _ hb0]; rfl
          have c1 : wr.cell? ⟨W.heap.size, 1, none⟩ = some (.string ⟨#[]⟩) := by rw [cell_of_row wr _ 1 _ _ _ hb0]; rfl
          have c2 : wr.cell? ⟨W.heap.size, 2, none⟩ = some (.float .f64 0) := by rw [cell_of_row wr _ 2 _ _ _ hb0]; rfl
          have c3 : wr.cell? ⟨W.heap.size, 3, none⟩ = some (.bool false) := by rw [cell_of_row wr _ 3 _ _ _ hb0]; rfl
          have c4 : wr.cell? ⟨W.heap.size, 4, none⟩ = some (.slice none 0 0) := by rw [cell_of_row wr _ 4 _ _ _ hb0]; rfl
          have c5 : wr.cell? ⟨W.heap.size, 5, none⟩ = some (.slice none 0 0) := by rw [cell_of_row wr _ 5 _ _ _ hb0]; rfl
          have hf : ∀ j, wr.frozen? ⟨W.heap.size, j, none⟩ = false := fun j => frozen_of_row wr _ j _ _ hb0
          have HZ := hide (set6 hb0 (.int .i64 5) (.string ⟨#[]⟩) (.float .f64 0) (.bool false) (.slice (some ⟨gk, 0, none⟩) ss.length capk) (.slice a2 Ls.length cap2))
          have HS := hide (same6 (ok := newB (W.heap.size + 1)) (w1 := wr) (b := W.heap.size) (by simp [newB]) (.int .i64 5) (.string ⟨#[]⟩) (.float .f64 0) (.bool false) (.slice (some ⟨gk, 0, none⟩) ss.length capk) (.slice a2 Ls.length cap2))
          have HL9 := hide (below6 (w1 := wr) (Nat.le_refl (W.heap.size)) (.int .i64 5) (.string ⟨#[]⟩) (.float .f64 0) (.bool false) (.slice (some ⟨gk, 0, none⟩) ss.length capk) (.slice a2 Ls.length cap2))
          clear hb0
          go_wp2_with fail
          generalize ((((((wr.setCell ⟨W.heap.size, 0, none⟩ (.int .i64 5)).setCell ⟨W.heap.size, 1, none⟩ (.string ⟨#[]⟩)).setCell ⟨W.heap.size, 2, none⟩ (.float .f64 0)).setCell ⟨W.heap.size, 3, none⟩ (.bool false)).setCell ⟨W.heap.size, 4, none⟩ (.slice (some ⟨gk, 0, none⟩) ss.length capk)).setCell ⟨W.heap.size, 5, none⟩ (.slice a2 Ls.length cap2)) = wz at *
          have e0 : wz.cell? ⟨W.heap.size, 0, none⟩ = some (.int .i64 5) := by rw [cell_of_row wz _ 0 _ _ _ HZ.out]; rfl
          have e1 : wz.cell? ⟨W.heap.size, 1, none⟩ = some (.string ⟨#[]⟩) := by rw [cell_of_row wz _ 1 _ _ _ HZ.out]; rfl
          have e2 : wz.cell? ⟨W.heap.size, 2, none⟩ = some (.float .f64 0) := by rw [cell_of_row wz _ 2 _ _ _ HZ.out]; rfl
          have e3 : wz.cell? ⟨W.heap.size, 3, none⟩ = some (.bool false) := by rw [cell_of_row wz _ 3 _ _ _ HZ.out]; rfl
          have e4 : wz.cell? ⟨W.heap.size, 4, none⟩ = some (.slice (some ⟨gk, 0, none⟩) ss.length capk) := by rw [cell_of_row wz _ 4 _ _ _ HZ.out]; rfl
          have e5 : wz.cell? ⟨W.heap.size, 5, none⟩ = some (.slice a2 Ls.length cap2) := by rw [cell_of_row wz _ 5 _ _ _ HZ.out]; rfl
          refine bodyPost_ret (by simp [results, Tryz.results151, go_sem, e0, e1, e2, e3, e4, e5]; try rfl) rfl ?_
          refine ⟨_, .mk 5 ⟨#[]⟩ 0 false (Ls.map bs) (Ls.map fun l => (lookL E (bs l)).getD default), rfl, ?_, ⟨Ls, HSRT.out, HMEM.out, rfl⟩, ?_⟩
          · refine TreeAt.weaken (ok := newB (W.heap.size + 1)) (fun k hk _ => by unfold newB at *; omega) ?_
            refine TreeAt.same HS.out ?_
            have hk1 : wr.ownsRow (W.heap.size + 3) 9 1 (.slice (some ⟨gk, 0, none⟩) ss.length capk) ss.length (Ls.map encStr) := own_kept' HO5.out (fun g hg => by cases hg; exact HOTH.out gk (by omega) hB5c)
            exact tree_of_own (t := .mk 5 ⟨#[]⟩ 0 false (Ls.map bs) (Ls.map fun l => (lookL E (bs l)).getD default)) (base := W.heap.size + 3) (by rw [show (T.mk 5 ⟨#[]⟩ 0 false (Ls.map bs) (Ls.map fun l => (lookL E (bs l)).getD default)).keys = Ls.map bs from rfl, enc_bs, List.length_map, HLL.out]; exact hk1) (own_low HKE.out.1 hB5b) (HKE.out.2.weaken (fun k hk _ => by unfold newB; omega)) (fun k hk => by have := (own_lt hk1 hk).1; unfold newB; omega) (fun k hk => by have := (own_lt HKE.out.1 hk).1; unfold newB; omega)
          · exact ((show Below W.heap.size W (W.alloc (.cells #[.int .i64 0, .string ⟨#[]⟩, .float .f64 0, .bool false, .slice none 0 0, .slice none 0 0] 26 (0, 0))) by go_grown).trans (HBQ.out.mono (by omega))).trans HL9.out
    · intro x c w1 cnt1 hst
      have HST := hide hst
      obtain ⟨hxl, hlk, hat, hrg1, hlt1, hg1, hs1, hen⟩ := hst
      have HC1 := hide (HC.out.step hlk hat)
      have HG1 := hide hg1
      have HR1 := hide hrg1
      have HLT := hide hlt1
      have b1 : w1.heap[W.heap.size + 1]? = wr.heap[W.heap.size + 1]? := hg1.block _ (by omega) (some_ne (by omega))
      have c41 : w1.cell? ⟨W.heap.size + 1, 4, none⟩ = some vS := (World.cell?_of_block b1).trans c4
      have f41 : w1.frozen? ⟨W.heap.size + 1, 4, none⟩ = false := (World.frozen?_of_block b1).trans f4
      have HO1 := hide (own_kept HO.out hg1 (fun j hj e => by have := (own_lt HO.out hj).1; cases e; omega))
      have hsz1 : W.heap.size + 3 ≤ w1.heap.size := by rw [hs1]; exact hsz
      have hcl1 : ss.length + 1 + cnt1 ≤ L.length := by omega
      clear hlk hat hrg1 hlt1 hg1 hs1 b1
      go_wp2_with (first | (at_builtin; go_loud (refine wpList_append_one _ rfl (.tmp 15) (.tmp 17) 23 rfl (W.heap.size + 3) 9 _ 1 16 Tryz.underlying23 Tryz.info9 rfl (by decide) vS _ (ss.map encStr) rfl (HO1.out.alloc _) w1.heap.size 1 _ 9 rfl (heap_alloc_new w1 _) rfl (by intro u hu; simp at hu; rcases hu with rfl; rfl) (by omega) (by omega) (by simp; omega) ?_; intro g cp w3 hown3 hgrow3 hat3; have HO3 := hide hown3; have HG3 := hide hgrow3; have bb := (hgrow3.block (W.heap.size + 1) (by simp; omega) (fun e => by have := (own_lt HO1.out e.symm).1; omega)).trans ((MapKept.heap_alloc w1 _).2 _ (by omega)); have c43 : w3.cell? ⟨W.heap.size + 1, 4, none⟩ = some vS := (World.cell?_of_block bb).trans c41; have f43 : w3.frozen? ⟨W.heap.size + 1, 4, none⟩ = false := (World.frozen?_of_block bb).trans f41; clear bb hown3 hgrow3 hat3)) | go_in)
      go_round
      case rel =>
        obtain ⟨r1, r2, r3, r4⟩ := keys_round (N := W.heap.size + 1) HR1.out HG1.out HB.out HO.out (by omega) (by omega) (by omega) (by omega) hsz (by go_grown) HO3.out HG3.out
        exact ⟨_, _, _, _, r1, HC1.out, r2, r3, HBW.out.trans r4, Nat.le_trans hsz r4.size, by simp; omega⟩
      case measure =>
        obtain ⟨r1, r2, r3, r4⟩ := keys_round (N := W.heap.size + 1) HR1.out HG1.out HB.out HO.out (by omega) (by omega) (by omega) (by omega) hsz (by go_grown) HO3.out HG3.out
        rw [r1.left_eq, HRG.out.left_eq]
        exact HLT.out
end Go.Proofs.YtbcnhcpgloncdaaGreatDoor

/-
  impl.treeOf OF A MAP; THE TREE OF A MAP OF ENTRIES IS ONE.
-/
namespace Go.Proofs.YtbcnhcpgloncdaaGreatDoor
open Go.RowKit Go.Sort Go.ChangeMaps Go.MapKept Go.Lib

set_option maxHeartbeats 1000000 in
set_option maxRecDepth 100000 in
theorem treeOf_map (w : World) (F : Nat → Prop) (b : Nat) (E : List (ByteArray × T)) (hm : MapE F w b E) (hne : E ≠ []) (hl : E.length ≤ 4194304) : Calls Tryz.prog 127 #[.iface 112 (.map (some b))] w (RetMap w E) := by
  go_enter Tryz.func127, Tryz.ntmps127
  go_wp2_with fail
  refine (mapOf_any _ F b E (hm.mono (Same.of_below (by go_grown)) (by simp) ((MapKept.heap_alloc _ _).2 _ hm.lt)) hne hl).mono ?_
  rintro e w1 ⟨v, t0, rfl, ht, hit, hb⟩
  obtain ⟨t, ht0⟩ : ∃ x, x = t0 := ⟨_, rfl⟩
  rw [← ht0] at ht
  have HTE := hide ht0
  clear ht0
  have hit := hide hit
  obtain ⟨a, cap, a', cap', c, rfl, -⟩ := ht.open
  have HT := hide ht
  have HB := hide hb
  have hblk : w1.heap[w.heap.size]? = some (.cells #[.int .i64 0, .string ⟨#[]⟩, .float .f64 0, .bool false, .slice none 0 0, .slice none 0 0] 26 (0, 0)) := (hb.block _ (by simp)).trans (heap_alloc_new _ _)
  clear ht hb
  have c0 : w1.cell? ⟨w.heap.size, 0, none⟩ = some (.int .i64 0) := by rw [cell_of_row w1 _ 0 _ _ _ hblk]; rfl
  have c1 : w1.cell? ⟨w.heap.size, 1, none⟩ = some (.string ⟨#[]⟩) := by rw [cell_of_row w1 _ 1 _ _ _ hblk]; rfl
  have c2 : w1.cell? ⟨w.heap.size, 2, none⟩ = some (.float .f64 0) := by rw [cell_of_row w1 _ 2 _ _ _ hblk]; rfl
  have c3 : w1.cell? ⟨w.heap.size, 3, none⟩ = some (.bool false) := by rw [cell_of_row w1 _ 3 _ _ _ hblk]; rfl
  have c4 : w1.cell? ⟨w.heap.size, 4, none⟩ = some (.slice none 0 0) := by rw [cell_of_row w1 _ 4 _ _ _ hblk]; rfl
  have c5 : w1.cell? ⟨w.heap.size, 5, none⟩ = some (.slice none 0 0) := by rw [cell_of_row w1 _ 5 _ _ _ hblk]; rfl
  have hf : ∀ j, w1.frozen? ⟨w.heap.size, j, none⟩ = false := fun j => frozen_of_row w1 _ j _ _ hblk
  have HZ := hide (set6 hblk (.int .i64 t.kind) (.string t.text) (.float .f64 t.num) (.bool t.yes) (.slice a t.keys.length cap) (.slice a' t.kids.length cap'))
  have HS := hide (same6 (ok := newB (w.heap.size + 1)) (w1 := w1) (b := w.heap.size) (by simp [newB]) (.int .i64 t.kind) (.string t.text) (.float .f64 t.num) (.bool t.yes) (.slice a t.keys.length cap) (.slice a' t.kids.length cap'))
  have HL := hide (below6 (w1 := w1) (Nat.le_refl (w.heap.size)) (.int .i64 t.kind) (.string t.text) (.float .f64 t.num) (.bool t.yes) (.slice a t.keys.length cap) (.slice a' t.kids.length cap'))
  clear hblk
  go_wp2_with fail
  generalize ((((((w1.setCell ⟨w.heap.size, 0, none⟩ (.int .i64 t.kind)).setCell ⟨w.heap.size, 1, none⟩ (.string t.text)).setCell ⟨w.heap.size, 2, none⟩ (.float .f64 t.num)).setCell ⟨w.heap.size, 3, none⟩ (.bool t.yes)).setCell ⟨w.heap.size, 4, none⟩ (.slice a t.keys.length cap)).setCell ⟨w.heap.size, 5, none⟩ (.slice a' t.kids.length cap')) = wz at *
  have e0 : wz.cell? ⟨w.heap.size, 0, none⟩ = some (.int .i64 t.kind) := by rw [cell_of_row wz _ 0 _ _ _ HZ.out]; rfl
  have e1 : wz.cell? ⟨w.heap.size, 1, none⟩ = some (.string t.text) := by rw [cell_of_row wz _ 1 _ _ _ HZ.out]; rfl
  have e2 : wz.cell? ⟨w.heap.size, 2, none⟩ = some (.float .f64 t.num) := by rw [cell_of_row wz _ 2 _ _ _ HZ.out]; rfl
  have e3 : wz.cell? ⟨w.heap.size, 3, none⟩ = some (.bool t.yes) := by rw [cell_of_row wz _ 3 _ _ _ HZ.out]; rfl
  have e4 : wz.cell? ⟨w.heap.size, 4, none⟩ = some (.slice a t.keys.length cap) := by rw [cell_of_row wz _ 4 _ _ _ HZ.out]; rfl
  have e5 : wz.cell? ⟨w.heap.size, 5, none⟩ = some (.slice a' t.kids.length cap') := by rw [cell_of_row wz _ 5 _ _ _ HZ.out]; rfl
  refine bodyPost_ret (by simp [results, Tryz.results127, go_sem, e0, e1, e2, e3, e4, e5]; try rfl) rfl ?_
  refine ⟨_, t, rfl, ?_, by rw [HTE.out]; exact hit.out, ?_⟩
  · refine TreeAt.weaken (fun k hk _ => ?_) ((HT.out.weaken (ok' := newB (w.heap.size + 1)) (fun k hk _ => by simpa [newB] using hk)).same HS.out)
    unfold newB at *; omega
  · exact (Below.trans (by go_grown) (HB.out.mono (by simp))).trans HL.out


theorem rising_ext : ∀ {l₁ l₂ : List (List UInt8)}, l₁.Pairwise (· < ·) → l₂.Pairwise (· < ·) → (∀ p, p ∈ l₁ ↔ p ∈ l₂) → l₁ = l₂ := by
  intro l₁ l₂ h1 h2 h
  have n1 : l₁.Nodup := h1.imp fun {a b} hab e => by subst e; exact List.lt_irrefl _ hab
  have n2 : l₂.Nodup := h2.imp fun {a b} hab e => by subst e; exact List.lt_irrefl _ hab
  exact List.Perm.eq_of_pairwise (le := fun a b => a < b) (fun a b _ _ x y => absurd (List.lt_trans x y) (List.lt_irrefl _)) h1 h2 ((List.perm_ext_iff_of_nodup n1 n2).2 h)

theorem IsMapT.unique {t t' : T} {E : List (ByteArray × T)} (h : IsMapT t E) (h' : IsMapT t' E) : t = t' := by
  obtain ⟨Ls, a1, a2, rfl⟩ := h
  obtain ⟨Ls', b1, b2, rfl⟩ := h'
  obtain rfl : Ls = Ls' := rising_ext a1 b1 fun p => (a2 p).trans (b2 p).symm
  rfl

open Classical in
/-- The tree of a map of entries. -/
noncomputable def mapTree (E : List (ByteArray × T)) : T := if h : ∃ t, IsMapT t E then h.choose else default
theorem IsMapT.eq {t : T} {E : List (ByteArray × T)} (h : IsMapT t E) : t = mapTree E := by
  unfold mapTree
  rw [dif_pos ⟨t, h⟩]
  exact h.unique (Exists.choose_spec (⟨t, h⟩ : ∃ t, IsMapT t E))

theorem TellsF.weaken {F F' : Nat → Prop} {w : World} {u : Value} {t : T} (h : TellsF F w u t) (hF : ∀ k, F k → F' k) : TellsF F' w u t := fun w' h1 h2 => h w' (fun k hk hlt => h1 k (hF k hk) hlt) h2
theorem MapE.weaken {F F' : Nat → Prop} {w : World} {b : Nat} {E : List (ByteArray × T)} (h : MapE F w b E) (hF : ∀ k, F k → F' k) : MapE F' w b E := by
  obtain ⟨L, h1, h2⟩ := h
  exact ⟨L, h1, h2.mono fun u t r => r.weaken hF⟩

/-- A map's value tells its tree. -/
theorem tells_map {F : Nat → Prop} {w : World} {b : Nat} {E : List (ByteArray × T)} (h : MapE F w b E) (hF : F b) (hne : E ≠ []) (hl : E.length ≤ 4194304) : TellsF F w (.iface 112 (.map (some b))) (mapTree E) := by
  intro w' h1 h2
  refine (treeOf_map w' F b E (h.mono h1 h2 (h1 b hF h.lt)) hne hl).mono ?_
  rintro e w'' ⟨v, t, rfl, ht, hi, hb⟩
  exact ⟨v, rfl, by rw [← hi.eq]; exact ht, hb⟩

theorem TellsF.tells {w : World} {u : Value} {t : T} (h : TellsF (fun _ => True) w u t) : Tells w u (fun t' => t' = t) := by
  intro w' hb
  refine (h w' (fun k _ hlt => hb.block k hlt) hb.size).mono ?_
  rintro e w'' ⟨v, rfl, ht, hb'⟩
  exact ⟨v, t, rfl, ht, rfl, hb'⟩

theorem tells_text (F : Nat → Prop) (w : World) (s : ByteArray) : TellsF F w (.iface 9 (.string s)) (tText s) := fun w' _ _ => treeOf_text w' s
theorem tells_num (F : Nat → Prop) (w : World) (x : Nat) : TellsF F w (.iface 22 (.float .f64 x)) (tNum x) := fun w' _ _ => treeOf_num w' x
theorem tells_int (F : Nat → Prop) (w : World) (n : Int) : TellsF F w (.iface 3 (.int .i64 n)) (tNum (floatOfInt .f64 n)) := fun w' _ _ => treeOf_int w' n
theorem tells_yes (F : Nat → Prop) (w : World) (y : Bool) : TellsF F w (.iface 4 (.bool y)) (tYes y) := fun w' _ _ => treeOf_yes w' y
theorem tells_ptr {F : Nat → Prop} {w : World} {p : Nat} {y : Bool} (hp : w.cell? ⟨p, 0, none⟩ = some (.bool y)) (hF : F p) : TellsF F w (.iface 107 (.pointer (some ⟨p, 0, none⟩))) (tYes y) := fun w' h1 _ => treeOf_ptr w' p y (h1.cell hF hp)
theorem tells_list {F : Nat → Prop} {w : World} {a : Option Addr} {n c : Nat} {ks : List ByteArray} (hv : StrsAt w F (.slice a n c) ks) (hl : ks.length ≤ 1073741824) : TellsF F w (.iface 23 (.slice a n c)) (tList ks) := fun w' h1 _ => treeOf_list w' F a n c ks (hv.same h1) hl

/-- 'm[k] = v' where v tells a tree; F holds of no map that is being written. -/
theorem MapE.put {F : Nat → Prop} {w w' : World} {b : Nat} {E : List (ByteArray × T)} {L : List (ByteArray × Value)} {k : ByteArray} {u : Value} {t : T} (h2 : Ents (TellsF F w) L E) (ht : TellsF F w u t) (hg : w.grownBy w' (some b)) (hF : ¬ F b) (hm : MapIs w' b (L ++ [(k, u)])) : MapE F w' b (E ++ [(k, t)]) := by
  have hs : Same F w w' := fun j hj hlt => hg.block j hlt (by rintro ⟨⟩; exact hF hj)
  exact ⟨_, hm, .snoc (h2.mono fun u t r => r.mono hs hg.size) (ht.mono hs hg.size)⟩
end Go.Proofs.YtbcnhcpgloncdaaGreatDoor

/-
  WHAT Source READS OFF A QUERY.
-/
namespace Go.Proofs.YtbcnhcpgloncdaaGreatDoor
open Go.RowKit Go.Sort Go.ChangeMaps Go.MapKept Go.Lib
open Go.Maps (Keyed has IsMap)

theorem ents_of_index {α β : Type} {R : α → β → Prop} : ∀ (n : Nat) (L : List (ByteArray × α)) (E : List (ByteArray × β)), E.length = n → L.length = E.length → (∀ (i : Nat) (k : ByteArray) (x : β), E[i]? = some (k, x) → ∃ u, L[i]? = some (k, u) ∧ R u x) → Ents R L E
  | 0, L, E, hn, hl, _ => by
    obtain rfl : E = [] := List.eq_nil_of_length_eq_zero hn
    obtain rfl : L = [] := List.eq_nil_of_length_eq_zero hl
    exact .nil
  | n + 1, L, E, hn, hl, h => by
    rcases snoc_cases E with rfl | ⟨E', ⟨k, x⟩, rfl⟩
    · cases hn
    rcases snoc_cases L with rfl | ⟨L', ⟨k', u'⟩, rfl⟩
    · simp at hl
    have hl' : L'.length = E'.length := by simpa using hl
    obtain ⟨u, h1, h2⟩ := h E'.length k x (by simp)
    rw [← hl'] at h1
    simp at h1
    obtain ⟨rfl, rfl⟩ := h1
    refine .snoc (ents_of_index n L' E' (by simpa using hn) hl' fun i k x hi => ?_) h2
    have hlt : i < E'.length := (List.getElem?_eq_some_iff.1 hi).1
    obtain ⟨u, h3, h4⟩ := h i k x (by rw [List.getElem?_append_left hlt]; exact hi)
    rw [List.getElem?_append_left (by omega)] at h3
    exact ⟨u, h3, h4⟩

/-- 'boost, found := q.fieldBoosts[field]'. -/
theorem BoostAt.look {w : World} {lo bm : Nat} {B : List (ByteArray × Nat)} (h : BoostAt w lo B bm) {k : ByteArray} (hk : k.size ≤ maxLen) :
    (lookL B k = none ∧ (Instr.lookup 104 (.map (some bm)) (.string k) true).run Tryz.prog w = .ok (.tuple #[.pointer none, .bool false]) w) ∨
    ∃ x p, lookL B k = some x ∧ w.heap[p]? = some (.cells #[.float .f64 x] 22 (0, 0)) ∧ (Instr.lookup 104 (.map (some bm)) (.string k) true).run Tryz.prog w = .ok (.tuple #[.pointer (some ⟨p, 0, none⟩), .bool true]) w := by
  obtain ⟨Lp, h1, h2, h3, h4⟩ := h
  have hE : Ents (fun (u : Value) (x : Nat) => ∃ p : Nat, u = .pointer (some ⟨p, 0, none⟩) ∧ w.heap[p]? = some (.cells #[.float .f64 x] 22 (0, 0))) Lp B :=
    ents_of_index _ Lp B rfl h3 fun i k x hi => by
      obtain ⟨p, -, h6, h7⟩ := h4 i k x hi
      exact ⟨_, h6, p, rfl, h7⟩
  have hz : (zeroValue 105).run Tryz.prog w = .ok (.pointer none) w := by kernel_rfl
  have hl := (h2.look Tryz.underlying104 hz hk).2
  rcases hE.look k with ⟨e1, e2⟩ | ⟨u, x, e1, e2, p, rfl, hp⟩
  · rw [e1] at hl
    exact Or.inl ⟨e2, hl⟩
  · rw [e1] at hl
    exact Or.inr ⟨x, p, e2, hp, hl⟩

/-- What Source tells of a field. -/
def fvT : FV → Option T
  | .val (.string s) => if s.toList.isEmpty then none else some (tText s)
  | .opt _ (.float _ x) => some (tNum x)
  | .opt _ (.int _ n) => some (tNum (floatOfInt .f64 n))
  | .opt _ (.bool y) => some (tYes y)
  | .val (.int _ n) => if n == -1 then none else some (tNum (floatOfInt .f64 n))
  | _ => none
def ent (key : List UInt8) (o : Option T) : List (ByteArray × T) := match o with
  | some t => [(bs key, t)]
  | none => []

/-- The make of a field, by its setter's kind. -/
def shapeOf (k : Nat) (fv : FV) : Prop := match k with
  | 0 => ∃ s, fv = .val (.string s)
  | 1 => fv = .nop ∨ ∃ x, fv = .opt 22 (.float .f64 x)
  | 2 => fv = .nop ∨ ∃ n, fv = .opt 3 (.int .i64 n)
  | 3 => fv = .nop ∨ ∃ y, fv = .opt 4 (.bool y)
  | 4 => ∃ s, fv = .val (.string s)
  | _ => ∃ n, fv = .val (.int .i64 n)
theorem shape_fvK (k : Nat) (t : T) : shapeOf k (fvK k t) := by
  unfold shapeOf fvK
  match k with
  | 0 => exact ⟨_, rfl⟩
  | 1 => exact Or.inr ⟨_, rfl⟩
  | 2 => exact Or.inr ⟨_, rfl⟩
  | 3 => exact Or.inr ⟨_, rfl⟩
  | 4 => exact ⟨_, rfl⟩
  | _ + 5 => exact ⟨_, rfl⟩

/-- Each field that a setting of the table sets has the make that the table says. -/
def Shaped (tab : QTab) (q : Q) : Prop := ∀ r ∈ tab, shapeOf r.2.2 (q.f r.2.1)
theorem shaped_step {tab : QTab} (hd : tab.Pairwise (fun a b => a.2.1 ≠ b.2.1)) {q : Q} (h : Shaped tab q) (s : S) : Shaped tab (stepQ tab q s) := by
  unfold stepQ
  split
  · exact h
  · split
    · exact h
    · split
      · rename_i r hr
        have hm := List.mem_of_find?_eq_some hr
        intro r' hr'
        show shapeOf r'.2.2 (upd q.f r.2.1 _ r'.2.1)
        unfold upd
        split
        · rename_i e
          have : r' = r := by
            rcases List.pairwise_iff_getElem.1 hd with hp
            obtain ⟨i, hi, rfl⟩ := List.getElem_of_mem hr'
            obtain ⟨j, hj, rfl⟩ := List.getElem_of_mem hm
            rcases Nat.lt_trichotomy i j with h1 | h1 | h1
            · exact absurd e (hp i j hi hj h1)
            · subst h1; rfl
            · exact absurd e.symm (hp j i hj hi h1)
          rw [this]
          exact shape_fvK _ _
        · exact h r' hr'
      · exact h
theorem shaped_run {tab : QTab} (hd : tab.Pairwise (fun a b => a.2.1 ≠ b.2.1)) : ∀ (ss : List S) {q : Q}, Shaped tab q → Shaped tab (runQ tab q ss)
  | [], _, h => h
  | s :: ss, _, h => shaped_run hd ss (shaped_step hd h s)
/-- A field that no setting sets. -/
theorem run_other {tab : QTab} {i : Nat} (hi : ∀ r ∈ tab, r.2.1 ≠ i) : ∀ (ss : List S) (q : Q), (runQ tab q ss).f i = q.f i
  | [], _ => rfl
  | s :: ss, q => by
    show (runQ tab (stepQ tab q s) ss).f i = q.f i
    rw [run_other hi ss]
    unfold stepQ
    split
    · rfl
    · split
      · rfl
      · split
        · rename_i r hr
          show upd q.f r.2.1 _ i = q.f i
          unfold upd
          rw [if_neg (fun e => hi r (List.mem_of_find?_eq_some hr) e.symm)]
        · rfl

theorem QAt.boostAt {w : World} {lo bq : Nat} {g : Geo} {q : Q} (h : QAt w lo bq g q) : ∃ bm, w.cell? ⟨bq, g.iB, none⟩ = some (.map (some bm)) ∧ BoostAt w lo q.boosts bm ∧ bm < w.heap.size := by
  obtain ⟨c, bm, vF, hc, -⟩ := h
  obtain ⟨L, -, hm, -⟩ := id hc.2.2.2.2.1
  exact ⟨bm, hc.cellB, hc.2.2.2.2.1, hm.lt⟩
theorem QAt.fieldsAt {w : World} {lo bq : Nat} {g : Geo} {q : Q} (h : QAt w lo bq g q) : ∃ vF, w.cell? ⟨bq, g.iF, none⟩ = some vF ∧ StrsAt w (fun _ => True) vF q.fields := by
  obtain ⟨c, bm, vF, hc, hF, hown⟩ := h
  exact ⟨vF, (hc.cellF hF).1, strs_of_own hown fun _ _ => trivial⟩

/-- A store's world, in this proof's words. -/
theorem mapIs_put {w : World} {b : Nat} {L : List (ByteArray × Value)} {k : ByteArray} {u : Value} (h : w.ownsMap Tryz.prog 9 RV b (L.length + 1) ((putAll L).put (KL k) (.held u))) : MapIs w b (L ++ [(k, u)]) := by
  unfold MapIs
  rw [putAll_snoc, List.length_append]
  exact h
end Go.Proofs.YtbcnhcpgloncdaaGreatDoor

/-
  SMALL LAWS FOR Source.
-/
namespace Go.Proofs.YtbcnhcpgloncdaaGreatDoor
open Go.RowKit Go.Sort Go.ChangeMaps Go.MapKept Go.Lib
open Go.Maps (Keyed has IsMap)

/-- A field's text: with its boost if it has one. -/
def fieldText (bt : Nat → List UInt8) (B : List (ByteArray × Nat)) (f : ByteArray) : ByteArray := match lookL B f with
  | some x => f ++ ⟨#[94]⟩ ++ bs (bt x)
  | none => f
def fieldTexts (bt : Nat → List UInt8) (q : Q) : List ByteArray := q.fields.map (fieldText bt q.boosts)

/-- All blocks but the two maps that Source makes. -/
def notB (b : Nat) : Nat → Prop := fun k => k ≠ b ∧ k ≠ b + 1
theorem ent_le (key : List UInt8) (o : Option T) : (ent key o).length ≤ 1 := by unfold ent; split <;> simp
def entF (ks : List ByteArray) : List (ByteArray × T) := if ks = [] then [] else [(bs [102, 105, 101, 108, 100, 115], tList ks)]

theorem run_slice_nil (a : Option Addr) (n c : Nat) (w : World) : (binOp .eql 23 (.slice a n c) (.slice none 0 0)).run Tryz.prog w = .ok (.bool a.isNone) w := by
  cases a <;> kernel_rfl

theorem shape_at {tab : QTab} {q : Q} (K i : Nat) (h : tab.any (fun r => r.2.1 == i && r.2.2 == K) = true) (hS : Shaped tab q) : shapeOf K (q.f i) := by
  obtain ⟨r, hr, he⟩ := List.any_eq_true.1 h
  simp only [Bool.and_eq_true, beq_iff_eq] at he
  have := hS r hr
  rw [he.1, he.2] at this
  exact this

theorem lookL_mem {α : Type} {B : List (ByteArray × α)} {k : ByteArray} {x : α} (h : lookL B k = some x) : (k, x) ∈ B := by
  unfold lookL at h
  cases hf : B.reverse.find? (fun p => eqB p.1 k) with
  | none => rw [hf] at h; cases h
  | some p =>
    rw [hf] at h
    have h1 := List.mem_of_find?_eq_some hf
    have h0 := List.find?_some hf
    have h2 := (eqB_iff p.1 k).1 h0
    obtain ⟨a, b⟩ := p
    simp at h h2 h1
    subst h; subst h2
    exact h1
end Go.Proofs.YtbcnhcpgloncdaaGreatDoor
