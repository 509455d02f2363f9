/-
  impl.at, impl.listOf, AND impl.treeOf OF WHAT THEY SERVE. (Printed by gen/treeof.py.)
-/
import Derived.Test.YtbcnhcpgloncdaaGreatDoorQh
namespace Go.Proofs.YtbcnhcpgloncdaaGreatDoor
open Go.RowKit Go.Sort Go.ChangeMaps Go.MapKept Go.Lib

set_option maxHeartbeats 1000000 in
set_option maxRecDepth 100000 in
theorem at_yes (w : World) (p : Nat) (y : Bool) (hp : w.cell? ⟨p, 0, none⟩ = some (.bool y)) : Calls Tryz.prog 143 #[.pointer (some ⟨p, 0, none⟩)] w (RetLeaf w (tYes y)) := by
  have hpl : p < w.heap.size := World.block_lt_of_cell? w _ hp
  go_enter Tryz.func143, Tryz.ntmps143
  go_wp2_with fail
  refine (treeOf_yes _ y).mono ?_
  rintro e w1 ⟨v, rfl, ht, hb⟩
  obtain ⟨t, ht0⟩ : ∃ x, x = tYes y := ⟨_, rfl⟩
  rw [← ht0] at ht
  have HTE := hide ht0
  clear ht0
  obtain ⟨a, cap, a', cap', c, rfl, -⟩ := ht.open
  have HT := hide ht
  have HB := hide hb
  have hblk : w1.heap[w.heap.size]? = some (.cells #[.int .i64 0, .string ⟨#[]⟩, .float .f64 0, .bool false, .slice none 0 0, .slice none 0 0] 26 (0, 0)) := (hb.block _ (by simp)).trans (heap_alloc_new _ _)
  clear ht hb
  have c0 : w1.cell? ⟨w.heap.size, 0, none⟩ = some (.int .i64 0) := by rw [cell_of_row w1 _ 0 _ _ _ hblk]; rfl
  have c1 : w1.cell? ⟨w.heap.size, 1, none⟩ = some (.string ⟨#[]⟩) := by rw [cell_of_row w1 _ 1 _ _ _ hblk]; rfl
  have c2 : w1.cell? ⟨w.heap.size, 2, none⟩ = some (.float .f64 0) := by rw [cell_of_row w1 _ 2 _ _ _ hblk]; rfl
  have c3 : w1.cell? ⟨w.heap.size, 3, none⟩ = some (.bool false) := by rw [cell_of_row w1 _ 3 _ _ _ hblk]; rfl
  have c4 : w1.cell? ⟨w.heap.size, 4, none⟩ = some (.slice none 0 0) := by rw [cell_of_row w1 _ 4 _ _ _ hblk]; rfl
  have c5 : w1.cell? ⟨w.heap.size, 5, none⟩ = some (.slice none 0 0) := by rw [cell_of_row w1 _ 5 _ _ _ hblk]; rfl
  have hf : ∀ j, w1.frozen? ⟨w.heap.size, j, none⟩ = false := fun j => frozen_of_row w1 _ j _ _ hblk
  have HZ := hide (set6 hblk (.int .i64 t.kind) (.string t.text) (.float .f64 t.num) (.bool t.yes) (.slice a t.keys.length cap) (.slice a' t.kids.length cap'))
  have HS := hide (same6 (ok := newB (w.heap.size + 1)) (w1 := w1) (b := w.heap.size) (by simp [newB]) (.int .i64 t.kind) (.string t.text) (.float .f64 t.num) (.bool t.yes) (.slice a t.keys.length cap) (.slice a' t.kids.length cap'))
  have HL := hide (below6 (w1 := w1) (Nat.le_refl (w.heap.size)) (.int .i64 t.kind) (.string t.text) (.float .f64 t.num) (.bool t.yes) (.slice a t.keys.length cap) (.slice a' t.kids.length cap'))
  clear hblk
  go_wp2_with fail
  generalize ((((((w1.setCell ⟨w.heap.size, 0, none⟩ (.int .i64 t.kind)).setCell ⟨w.heap.size, 1, none⟩ (.string t.text)).setCell ⟨w.heap.size, 2, none⟩ (.float .f64 t.num)).setCell ⟨w.heap.size, 3, none⟩ (.bool t.yes)).setCell ⟨w.heap.size, 4, none⟩ (.slice a t.keys.length cap)).setCell ⟨w.heap.size, 5, none⟩ (.slice a' t.kids.length cap')) = wz at *
  have e0 : wz.cell? ⟨w.heap.size, 0, none⟩ = some (.int .i64 t.kind) := by rw [cell_of_row wz _ 0 _ _ _ HZ.out]; rfl
  have e1 : wz.cell? ⟨w.heap.size, 1, none⟩ = some (.string t.text) := by rw [cell_of_row wz _ 1 _ _ _ HZ.out]; rfl
  have e2 : wz.cell? ⟨w.heap.size, 2, none⟩ = some (.float .f64 t.num) := by rw [cell_of_row wz _ 2 _ _ _ HZ.out]; rfl
  have e3 : wz.cell? ⟨w.heap.size, 3, none⟩ = some (.bool t.yes) := by rw [cell_of_row wz _ 3 _ _ _ HZ.out]; rfl
  have e4 : wz.cell? ⟨w.heap.size, 4, none⟩ = some (.slice a t.keys.length cap) := by rw [cell_of_row wz _ 4 _ _ _ HZ.out]; rfl
  have e5 : wz.cell? ⟨w.heap.size, 5, none⟩ = some (.slice a' t.kids.length cap') := by rw [cell_of_row wz _ 5 _ _ _ HZ.out]; rfl
  refine bodyPost_ret (by simp [results, Tryz.results143, go_sem, e0, e1, e2, e3, e4, e5]; try rfl) rfl ?_
  refine ⟨_, rfl, ?_, ?_⟩
  · rw [← HTE.out]
    refine TreeAt.weaken (fun k hk _ => ?_) ((HT.out.weaken (ok' := newB (w.heap.size + 1)) (fun k hk _ => by simpa [newB] using hk)).same HS.out)
    unfold newB at *; omega
  · exact (Below.trans (by go_grown) (HB.out.mono (by simp))).trans HL.out


set_option maxHeartbeats 1000000 in
set_option maxRecDepth 100000 in
theorem treeOf_ptr (w : World) (p : Nat) (y : Bool) (hp : w.cell? ⟨p, 0, none⟩ = some (.bool y)) : Calls Tryz.prog 127 #[.iface 107 (.pointer (some ⟨p, 0, none⟩))] w (RetLeaf w (tYes y)) := by
  have hpl : p < w.heap.size := World.block_lt_of_cell? w _ hp
  go_enter Tryz.func127, Tryz.ntmps127
  go_wp2_with fail
  refine (at_yes _ p y ((World.cell?_alloc_lt _ _ _ hpl).trans hp)).mono ?_
  rintro e w1 ⟨v, rfl, ht, hb⟩
  obtain ⟨t, ht0⟩ : ∃ x, x = tYes y := ⟨_, rfl⟩
  rw [← ht0] at ht
  have HTE := hide ht0
  clear ht0
  obtain ⟨a, cap, a', cap', c, rfl, -⟩ := ht.open
  have HT := hide ht
  have HB := hide hb
  have hblk : w1.heap[w.heap.size]? = some (.cells #[.int .i64 0, .string ⟨#[]⟩, .float .f64 0, .bool false, .slice none 0 0, .slice none 0 0] 26 (0, 0)) := (hb.block _ (by simp)).trans (heap_alloc_new _ _)
  clear ht hb
  have c0 : w1.cell? ⟨w.heap.size, 0, none⟩ = some (.int .i64 0) := by rw [cell_of_row w1 _ 0 _ _ _ hblk]; rfl
  have c1 : w1.cell? ⟨w.heap.size, 1, none⟩ = some (.string ⟨#[]⟩) := by rw [cell_of_row w1 _ 1 _ _ _ hblk]; rfl
  have c2 : w1.cell? ⟨w.heap.size, 2, none⟩ = some (.float .f64 0) := by rw [cell_of_row w1 _ 2 _ _ _ hblk]; rfl
  have c3 : w1.cell? ⟨w.heap.size, 3, none⟩ = some (.bool false) := by rw [cell_of_row w1 _ 3 _ _ _ hblk]; rfl
  have c4 : w1.cell? ⟨w.heap.size, 4, none⟩ = some (.slice none 0 0) := by rw [cell_of_row w1 _ 4 _ _ _ hblk]; rfl
  have c5 : w1.cell? ⟨w.heap.size, 5, none⟩ = some (.slice none 0 0) := by rw [cell_of_row w1 _ 5 _ _ _ hblk]; rfl
  have hf : ∀ j, w1.frozen? ⟨w.heap.size, j, none⟩ = false := fun j => frozen_of_row w1 _ j _ _ hblk
  have HZ := hide (set6 hblk (.int .i64 t.kind) (.string t.text) (.float .f64 t.num) (.bool t.yes) (.slice a t.keys.length cap) (.slice a' t.kids.length cap'))
  have HS := hide (same6 (ok := newB (w.heap.size + 1)) (w1 := w1) (b := w.heap.size) (by simp [newB]) (.int .i64 t.kind) (.string t.text) (.float .f64 t.num) (.bool t.yes) (.slice a t.keys.length cap) (.slice a' t.kids.length cap'))
  have HL := hide (below6 (w1 := w1) (Nat.le_refl (w.heap.size)) (.int .i64 t.kind) (.string t.text) (.float .f64 t.num) (.bool t.yes) (.slice a t.keys.length cap) (.slice a' t.kids.length cap'))
  clear hblk
  go_wp2_with fail
  generalize ((((((w1.setCell ⟨w.heap.size, 0, none⟩ (.int .i64 t.kind)).setCell ⟨w.heap.size, 1, none⟩ (.string t.text)).setCell ⟨w.heap.size, 2, none⟩ (.float .f64 t.num)).setCell ⟨w.heap.size, 3, none⟩ (.bool t.yes)).setCell ⟨w.heap.size, 4, none⟩ (.slice a t.keys.length cap)).setCell ⟨w.heap.size, 5, none⟩ (.slice a' t.kids.length cap')) = wz at *
  have e0 : wz.cell? ⟨w.heap.size, 0, none⟩ = some (.int .i64 t.kind) := by rw [cell_of_row wz _ 0 _ _ _ HZ.out]; rfl
  have e1 : wz.cell? ⟨w.heap.size, 1, none⟩ = some (.string t.text) := by rw [cell_of_row wz _ 1 _ _ _ HZ.out]; rfl
  have e2 : wz.cell? ⟨w.heap.size, 2, none⟩ = some (.float .f64 t.num) := by rw [cell_of_row wz _ 2 _ _ _ HZ.out]; rfl
  have e3 : wz.cell? ⟨w.heap.size, 3, none⟩ = some (.bool t.yes) := by rw [cell_of_row wz _ 3 _ _ _ HZ.out]; rfl
  have e4 : wz.cell? ⟨w.heap.size, 4, none⟩ = some (.slice a t.keys.length cap) := by rw [cell_of_row wz _ 4 _ _ _ HZ.out]; rfl
  have e5 : wz.cell? ⟨w.heap.size, 5, none⟩ = some (.slice a' t.kids.length cap') := by rw [cell_of_row wz _ 5 _ _ _ HZ.out]; rfl
  refine bodyPost_ret (by simp [results, Tryz.results127, go_sem, e0, e1, e2, e3, e4, e5]; try rfl) rfl ?_
  refine ⟨_, rfl, ?_, ?_⟩
  · rw [← HTE.out]
    refine TreeAt.weaken (fun k hk _ => ?_) ((HT.out.weaken (ok' := newB (w.heap.size + 1)) (fun k hk _ => by simpa [newB] using hk)).same HS.out)
    unfold newB at *; omega
  · exact (Below.trans (by go_grown) (HB.out.mono (by simp))).trans HL.out


end Go.Proofs.YtbcnhcpgloncdaaGreatDoor
