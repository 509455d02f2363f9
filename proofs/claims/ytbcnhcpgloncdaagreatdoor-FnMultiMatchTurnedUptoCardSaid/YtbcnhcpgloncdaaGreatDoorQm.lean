/-
  impl.treeOf OF A MAP; THE TREE OF A MAP OF ENTRIES IS ONE.
-/
import Derived.Test.YtbcnhcpgloncdaaGreatDoorQl
namespace Go.Proofs.YtbcnhcpgloncdaaGreatDoor
open Go.RowKit Go.Sort Go.ChangeMaps Go.MapKept Go.Lib

set_option maxHeartbeats 1000000 in
set_option maxRecDepth 100000 in
theorem treeOf_map (w : World) (F : Nat → Prop) (b : Nat) (E : List (ByteArray × T)) (hm : MapE F w b E) (hne : E ≠ []) (hl : E.length ≤ 4194304) : Calls Tryz.prog 127 #[.iface 112 (.map (some b))] w (RetMap w E) := by
  go_enter Tryz.func127, Tryz.ntmps127
  go_wp2_with fail
  refine (mapOf_any _ F b E (hm.mono (Same.of_below (by go_grown)) (by simp) ((MapKept.heap_alloc _ _).2 _ hm.lt)) hne hl).mono ?_
  rintro e w1 ⟨v, t0, rfl, ht, hit, hb⟩
  obtain ⟨t, ht0⟩ : ∃ x, x = t0 := ⟨_, rfl⟩
  rw [← ht0] at ht
  have HTE := hide ht0
  clear ht0
  have hit := hide hit
  obtain ⟨a, cap, a', cap', c, rfl, -⟩ := ht.open
  have HT := hide ht
  have HB := hide hb
  have hblk : w1.heap[w.heap.size]? = some (.cells #[.int .i64 0, .string ⟨#[]⟩, .float .f64 0, .bool false, .slice none 0 0, .slice none 0 0] 26 (0, 0)) := (hb.block _ (by simp)).trans (heap_alloc_new _ _)
  clear ht hb
  have c0 : w1.cell? ⟨w.heap.size, 0, none⟩ = some (.int .i64 0) := by rw [cell_of_row w1 _ 0 _ _ _ hblk]; rfl
  have c1 : w1.cell? ⟨w.heap.size, 1, none⟩ = some (.string ⟨#[]⟩) := by rw [cell_of_row w1 _ 1 _ _ _ hblk]; rfl
  have c2 : w1.cell? ⟨w.heap.size, 2, none⟩ = some (.float .f64 0) := by rw [cell_of_row w1 _ 2 _ _ _ hblk]; rfl
  have c3 : w1.cell? ⟨w.heap.size, 3, none⟩ = some (.bool false) := by rw [cell_of_row w1 _ 3 _ _ _ hblk]; rfl
  have c4 : w1.cell? ⟨w.heap.size, 4, none⟩ = some (.slice none 0 0) := by rw [cell_of_row w1 _ 4 _ _ _ hblk]; rfl
  have c5 : w1.cell? ⟨w.heap.size, 5, none⟩ = some (.slice none 0 0) := by rw [cell_of_row w1 _ 5 _ _ _ hblk]; rfl
  have hf : ∀ j, w1.frozen? ⟨w.heap.size, j, none⟩ = false := fun j => frozen_of_row w1 _ j _ _ hblk
  have HZ := hide (set6 hblk (.int .i64 t.kind) (.string t.text) (.float .f64 t.num) (.bool t.yes) (.slice a t.keys.length cap) (.slice a' t.kids.length cap'))
  have HS := hide (same6 (ok := newB (w.heap.size + 1)) (w1 := w1) (b := w.heap.size) (by simp [newB]) (.int .i64 t.kind) (.string t.text) (.float .f64 t.num) (.bool t.yes) (.slice a t.keys.length cap) (.slice a' t.kids.length cap'))
  have HL := hide (below6 (w1 := w1) (Nat.le_refl (w.heap.size)) (.int .i64 t.kind) (.string t.text) (.float .f64 t.num) (.bool t.yes) (.slice a t.keys.length cap) (.slice a' t.kids.length cap'))
  clear hblk
  go_wp2_with fail
  generalize ((((((w1.setCell ⟨w.heap.size, 0, none⟩ (.int .i64 t.kind)).setCell ⟨w.heap.size, 1, none⟩ (.string t.text)).setCell ⟨w.heap.size, 2, none⟩ (.float .f64 t.num)).setCell ⟨w.heap.size, 3, none⟩ (.bool t.yes)).setCell ⟨w.heap.size, 4, none⟩ (.slice a t.keys.length cap)).setCell ⟨w.heap.size, 5, none⟩ (.slice a' t.kids.length cap')) = wz at *
  have e0 : wz.cell? ⟨w.heap.size, 0, none⟩ = some (.int .i64 t.kind) := by rw [cell_of_row wz _ 0 _ _ _ HZ.out]; rfl
  have e1 : wz.cell? ⟨w.heap.size, 1, none⟩ = some (.string t.text) := by rw [cell_of_row wz _ 1 _ _ _ HZ.out]; rfl
  have e2 : wz.cell? ⟨w.heap.size, 2, none⟩ = some (.float .f64 t.num) := by rw [cell_of_row wz _ 2 _ _ _ HZ.out]; rfl
  have e3 : wz.cell? ⟨w.heap.size, 3, none⟩ = some (.bool t.yes) := by rw [cell_of_row wz _ 3 _ _ _ HZ.out]; rfl
  have e4 : wz.cell? ⟨w.heap.size, 4, none⟩ = some (.slice a t.keys.length cap) := by rw [cell_of_row wz _ 4 _ _ _ HZ.out]; rfl
  have e5 : wz.cell? ⟨w.heap.size, 5, none⟩ = some (.slice a' t.kids.length cap') := by rw [cell_of_row wz _ 5 _ _ _ HZ.out]; rfl
  refine bodyPost_ret (by simp [results, Tryz.results127, go_sem, e0, e1, e2, e3, e4, e5]; try rfl) rfl ?_
  refine ⟨_, t, rfl, ?_, by rw [HTE.out]; exact hit.out, ?_⟩
  · refine TreeAt.weaken (fun k hk _ => ?_) ((HT.out.weaken (ok' := newB (w.heap.size + 1)) (fun k hk _ => by simpa [newB] using hk)).same HS.out)
    unfold newB at *; omega
  · exact (Below.trans (by go_grown) (HB.out.mono (by simp))).trans HL.out


theorem rising_ext : ∀ {l₁ l₂ : List (List UInt8)}, l₁.Pairwise (· < ·) → l₂.Pairwise (· < ·) → (∀ p, p ∈ l₁ ↔ p ∈ l₂) → l₁ = l₂ := by
  intro l₁ l₂ h1 h2 h
  have n1 : l₁.Nodup := h1.imp fun {a b} hab e => by subst e; exact List.lt_irrefl _ hab
  have n2 : l₂.Nodup := h2.imp fun {a b} hab e => by subst e; exact List.lt_irrefl _ hab
  exact List.Perm.eq_of_pairwise (le := fun a b => a < b) (fun a b _ _ x y => absurd (List.lt_trans x y) (List.lt_irrefl _)) h1 h2 ((List.perm_ext_iff_of_nodup n1 n2).2 h)

theorem IsMapT.unique {t t' : T} {E : List (ByteArray × T)} (h : IsMapT t E) (h' : IsMapT t' E) : t = t' := by
  obtain ⟨Ls, a1, a2, rfl⟩ := h
  obtain ⟨Ls', b1, b2, rfl⟩ := h'
  obtain rfl : Ls = Ls' := rising_ext a1 b1 fun p => (a2 p).trans (b2 p).symm
  rfl

open Classical in
/-- The tree of a map of entries. -/
noncomputable def mapTree (E : List (ByteArray × T)) : T := if h : ∃ t, IsMapT t E then h.choose else default
theorem IsMapT.eq {t : T} {E : List (ByteArray × T)} (h : IsMapT t E) : t = mapTree E := by
  unfold mapTree
  rw [dif_pos ⟨t, h⟩]
  exact h.unique (Exists.choose_spec (⟨t, h⟩ : ∃ t, IsMapT t E))

theorem TellsF.weaken {F F' : Nat → Prop} {w : World} {u : Value} {t : T} (h : TellsF F w u t) (hF : ∀ k, F k → F' k) : TellsF F' w u t := fun w' h1 h2 => h w' (fun k hk hlt => h1 k (hF k hk) hlt) h2
theorem MapE.weaken {F F' : Nat → Prop} {w : World} {b : Nat} {E : List (ByteArray × T)} (h : MapE F w b E) (hF : ∀ k, F k → F' k) : MapE F' w b E := by
  obtain ⟨L, h1, h2⟩ := h
  exact ⟨L, h1, h2.mono fun u t r => r.weaken hF⟩

/-- A map's value tells its tree. -/
theorem tells_map {F : Nat → Prop} {w : World} {b : Nat} {E : List (ByteArray × T)} (h : MapE F w b E) (hF : F b) (hne : E ≠ []) (hl : E.length ≤ 4194304) : TellsF F w (.iface 112 (.map (some b))) (mapTree E) := by
  intro w' h1 h2
  refine (treeOf_map w' F b E (h.mono h1 h2 (h1 b hF h.lt)) hne hl).mono ?_
  rintro e w'' ⟨v, t, rfl, ht, hi, hb⟩
  exact ⟨v, rfl, by rw [← hi.eq]; exact ht, hb⟩

theorem TellsF.tells {w : World} {u : Value} {t : T} (h : TellsF (fun _ => True) w u t) : Tells w u (fun t' => t' = t) := by
  intro w' hb
  refine (h w' (fun k _ hlt => hb.block k hlt) hb.size).mono ?_
  rintro e w'' ⟨v, rfl, ht, hb'⟩
  exact ⟨v, t, rfl, ht, rfl, hb'⟩

theorem tells_text (F : Nat → Prop) (w : World) (s : ByteArray) : TellsF F w (.iface 9 (.string s)) (tText s) := fun w' _ _ => treeOf_text w' s
theorem tells_num (F : Nat → Prop) (w : World) (x : Nat) : TellsF F w (.iface 22 (.float .f64 x)) (tNum x) := fun w' _ _ => treeOf_num w' x
theorem tells_int (F : Nat → Prop) (w : World) (n : Int) : TellsF F w (.iface 3 (.int .i64 n)) (tNum (floatOfInt .f64 n)) := fun w' _ _ => treeOf_int w' n
theorem tells_yes (F : Nat → Prop) (w : World) (y : Bool) : TellsF F w (.iface 4 (.bool y)) (tYes y) := fun w' _ _ => treeOf_yes w' y
theorem tells_ptr {F : Nat → Prop} {w : World} {p : Nat} {y : Bool} (hp : w.cell? ⟨p, 0, none⟩ = some (.bool y)) (hF : F p) : TellsF F w (.iface 107 (.pointer (some ⟨p, 0, none⟩))) (tYes y) := fun w' h1 _ => treeOf_ptr w' p y (h1.cell hF hp)
theorem tells_list {F : Nat → Prop} {w : World} {a : Option Addr} {n c : Nat} {ks : List ByteArray} (hv : StrsAt w F (.slice a n c) ks) (hl : ks.length ≤ 1073741824) : TellsF F w (.iface 23 (.slice a n c)) (tList ks) := fun w' h1 _ => treeOf_list w' F a n c ks (hv.same h1) hl

/-- 'm[k] = v' where v tells a tree; F holds of no map that is being written. -/
theorem MapE.put {F : Nat → Prop} {w w' : World} {b : Nat} {E : List (ByteArray × T)} {L : List (ByteArray × Value)} {k : ByteArray} {u : Value} {t : T} (h2 : Ents (TellsF F w) L E) (ht : TellsF F w u t) (hg : w.grownBy w' (some b)) (hF : ¬ F b) (hm : MapIs w' b (L ++ [(k, u)])) : MapE F w' b (E ++ [(k, t)]) := by
  have hs : Same F w w' := fun j hj hlt => hg.block j hlt (by rintro ⟨⟩; exact hF hj)
  exact ⟨_, hm, .snoc (h2.mono fun u t r => r.mono hs hg.size) (ht.mono hs hg.size)⟩
end Go.Proofs.YtbcnhcpgloncdaaGreatDoor
