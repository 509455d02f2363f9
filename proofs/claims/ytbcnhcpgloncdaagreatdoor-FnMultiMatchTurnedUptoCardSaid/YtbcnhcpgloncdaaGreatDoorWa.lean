/-
  READINGS OF LAID TABLES BY LAW: arrays and slices of rows; and 'laidMet' from one variable's reading after the other.
-/
import Derived.Test.YtbcnhcpgloncdaaGreatDoorGl
import Derived.Lib.LaidCaseMet
import Derived.Deep.DeepWitnessRowRef
namespace Go.Proofs.YtbcnhcpgloncdaaGreatDoor
open Go.RowKit Go.Lib

theorem flat_row {α : Type} (f : α → List Value) (m : Nat) (hf : ∀ x, (f x).length = m) : ∀ (l : List α) (i : Nat) (x : α), l[i]? = some x → ((l.flatMap f).drop (i * m)).take m = f x
  | [], i, x, h => by simp at h
  | y :: t, 0, x, h => by
    simp at h
    subst h
    rw [List.flatMap_cons, Nat.zero_mul, List.drop_zero, List.take_append_of_le_length (by rw [hf]; exact Nat.le_refl _), ← hf y, List.take_length]
  | y :: t, i + 1, x, h => by
    simp at h
    rw [List.flatMap_cons, Nat.add_mul, Nat.one_mul, Nat.add_comm, ← hf y, ← List.drop_drop, List.drop_left, hf y]
    exact flat_row f m hf t i x h
theorem flat_len {α : Type} (f : α → List Value) (m : Nat) (hf : ∀ x, (f x).length = m) : ∀ l : List α, (l.flatMap f).length = l.length * m
  | [] => by simp
  | y :: t => by rw [List.flatMap_cons, List.length_append, hf, flat_len f m hf t, List.length_cons, Nat.add_mul]; omega

section
variable {W : World}
theorem range_map {α β : Type} (l : List α) (g : α → β) (d : α) : ((List.range l.length).map fun i => g (l.getD i d)) = l.map g := by
  apply List.ext_getElem?
  intro i
  by_cases hi : i < l.length
  · simp [hi]
  · simp [hi]

/-- An array of rows. -/
theorem arr_reads {α : Type} [Inhabited α] {fuel : Nat} {t e : TypeId} {m : Nat} (l : List α) (f : α → List Value) (g : α → DataW Unit) (ht : Tryz.prog.underlying t = some (.array l.length e)) (hct : Tryz.prog.cellsOf t = l.length * m) (hce : Tryz.prog.cellsOf e = m) (hf : ∀ x, (f x).length = m)
    (h : ∀ x ∈ l, DataW.trod (fun _ => ()) Tryz.prog W 0 (fun _ => true) false fuel e (f x) = some (g x, [])) :
    DataW.trod (fun _ => ()) Tryz.prog W 0 (fun _ => true) false (fuel + 1) t (l.flatMap f) = some (.agg (l.map g), []) := by
  unfold DataW.trod
  simp only [ht, hce]
  rw [if_pos (by rw [flat_len f m hf, hct])]
  rw [mapM_some _ (fun i => (g (l.getD i default), ([] : List MemPlace))) _ (fun i hi => by
    have hi' := List.mem_range.1 hi
    have hx : l[i]? = some (l.getD i default) := by simp [hi']
    rw [flat_row f m hf l i _ hx]
    exact h _ (List.mem_of_getElem? hx))]
  simp only [Option.map_some, List.map_map]
  refine congrArg some (Prod.ext (congrArg DataW.agg ?_) ?_)
  · exact range_map l g default
  · simp

/-- A slice of rows. -/
theorem slice_reads {α : Type} [Inhabited α] {fuel R : Nat} {t e T : TypeId} {m : Nat} (l : List α) (f : α → List Value) (g : α → DataW Unit) (ht : Tryz.prog.underlying t = some (.slice e)) (hce : Tryz.prog.cellsOf e = m) (hf : ∀ x, (f x).length = m) (hl : l.length ≤ maxLen)
    (hb : W.heap[R]? = some (.cells (l.flatMap f).toArray T (0, 0)))
    (h : ∀ x ∈ l, DataW.trod (fun _ => ()) Tryz.prog W 0 (fun _ => true) false fuel e (f x) = some (g x, [])) :
    DataW.trod (fun _ => ()) Tryz.prog W 0 (fun _ => true) false (fuel + 1) t [.slice (some ⟨R, 0, none⟩) l.length l.length] = some (.slice (l.map g) [], MemPlace.row ⟨R, 0, none⟩ (l.length * m)) := by
  have helem : ∀ i ∈ List.range l.length, (W.cells? 0 ((⟨R, 0, none⟩ : Addr).add (i * m)) m).bind (DataW.trod (fun _ => ()) Tryz.prog W 0 (fun _ => true) false fuel e) = some (g (l.getD i default), ([] : List MemPlace)) := by
    intro i hi
    have hi' := List.mem_range.1 hi
    have hx : l[i]? = some (l.getD i default) := by simp [hi']
    have hc : W.cells? 0 ((⟨R, 0, none⟩ : Addr).add (i * m)) m = some (f (l.getD i default)) := by
      rw [add_plain, Nat.zero_add]
      refine ChangeShapes.cells?_of (Nat.zero_le _) (hf _) fun j hj => ?_
      rw [cell_of_row W R _ _ _ _ hb, List.getElem?_toArray]
      have := flat_row f m hf l i _ hx
      have h2 := congrArg (·[j]?) this
      simp only [List.getElem?_take, List.getElem?_drop, if_pos hj] at h2
      exact h2
    rw [hc]
    exact h _ (List.mem_of_getElem? hx)
  unfold DataW.trod
  simp only [ht, hce]
  rw [if_pos ⟨Nat.zero_le _, Nat.le_refl _, hl⟩, mapM_some _ _ _ helem]
  simp only [Option.bind_some, Nat.sub_self, List.range_zero, List.mapM_nil, Option.pure_def, Option.map_some, if_true, List.map_map, List.map_nil, List.length_map, List.length_range, List.length_nil, Nat.add_zero, List.append_nil]
  refine congrArg some (Prod.ext ?_ ?_)
  · exact congrArg (fun z => DataW.slice z []) (range_map l g default)
  · simp

/-- One listed variable. -/
def OneVar (W : World) (tag : Nat → Nat) (n : String) (d : DataW Unit) (k : Nat) : Prop :=
  ∃ g t cs fuel p, Tryz.prog.globalNamed n = some g ∧ (Tryz.prog.globals[g]?).map (·.type) = some t ∧ W.var? Tryz.prog n = some cs ∧ DataW.trod (fun _ => ()) Tryz.prog W 0 (fun _ => true) false fuel t cs.toList = some (d, p) ∧
    (MemPlace.row ⟨g, 0, none⟩ cs.size ++ p).Nodup ∧ (∀ q ∈ MemPlace.row ⟨g, 0, none⟩ cs.size ++ p, tag q.block = k) ∧
    ∀ b off, MemPlace.cell b off ∈ MemPlace.row ⟨g, 0, none⟩ cs.size ++ p → (∃ c t, W.heap[b]? = some (.cells c t (0, 0))) ∧ ∀ u v, W.cell? ⟨b, off, none⟩ = some (.iface u v) → Value.okWide Tryz.prog W .any 0 u v

theorem laidMet_of_ones (tag : Nat → Nat) (key : String → Nat) : ∀ l : List (String × DataW Unit), (l.map fun x => key x.1).Nodup → (∀ x ∈ l, OneVar W tag x.1 x.2 (key x.1)) →
    ∃ ps, DataW.LaidVars Tryz.prog W l ps ∧ ps.Nodup ∧ (∀ q ∈ ps, tag q.block ∈ l.map fun x => key x.1) ∧ ∀ b off, MemPlace.cell b off ∈ ps →
      (∃ c t, W.heap[b]? = some (.cells c t (0, 0))) ∧ ∀ u v, W.cell? ⟨b, off, none⟩ = some (.iface u v) → Value.okWide Tryz.prog W .any 0 u v
  | [], _, _ => ⟨[], rfl, List.nodup_nil, fun q hq => (by cases hq), fun b off h => (by cases h)⟩
  | (n, d) :: r, hn, h => by
    obtain ⟨hk, hr⟩ := List.nodup_cons.1 hn
    obtain ⟨g, t, cs, fuel, p, h1, h2, h3, h4, h5, h6, h7⟩ := h (n, d) (by simp)
    obtain ⟨ps, g1, g2, g3, g4⟩ := laidMet_of_ones tag key r hr fun x hx => h x (List.mem_cons_of_mem _ hx)
    refine ⟨MemPlace.row ⟨g, 0, none⟩ cs.size ++ p ++ ps, ⟨g, t, cs, fuel, p, ps, h1, h2, h3, h4, g1, rfl⟩, ?_, ?_, ?_⟩
    · refine List.nodup_append.2 ⟨h5, g2, fun a ha b hb e => ?_⟩
      subst e
      have hk' : key n ∉ r.map fun x => key x.1 := hk
      have h6a : tag a.block = key n := h6 a ha
      exact hk' (by rw [← h6a]; exact g3 a hb)
    · intro q hq
      rcases List.mem_append.1 hq with hq | hq
      · rw [h6 q hq]; simp
      · exact List.mem_cons_of_mem _ (g3 q hq)
    · intro b off hq
      rcases List.mem_append.1 hq with hq | hq
      · exact h7 b off hq
      · exact g4 b off hq

def noIface (v : Value) : Bool := match v with
  | .iface _ _ => false
  | _ => true
theorem block_good {b : Nat} {cs : Array Value} {t : TypeId} (hb : W.heap[b]? = some (.cells cs t (0, 0))) (hno : ∀ v ∈ cs.toList, noIface v = true) (off : Nat) :
    (∃ c t, W.heap[b]? = some (.cells c t (0, 0))) ∧ ∀ u v, W.cell? ⟨b, off, none⟩ = some (.iface u v) → Value.okWide Tryz.prog W .any 0 u v := by
  refine ⟨⟨_, _, hb⟩, fun u v hc => ?_⟩
  rw [cell_of_row W b off cs t (0, 0) hb] at hc
  have := hno _ (by rw [← Array.getElem?_toList] at hc; exact List.mem_of_getElem? hc)
  cases this

/-- A variable that holds no pointers. -/
theorem one_plain {tag : Nat → Nat} {n : String} {d : DataW Unit} {k g : Nat} {t T : TypeId} {cs : Array Value} (fuel : Nat) (hg : Tryz.prog.globalNamed n = some g) (hty : (Tryz.prog.globals[g]?).map (·.type) = some t) (hb : W.heap[g]? = some (.cells cs T (0, 0)))
    (hr : DataW.trod (fun _ => ()) Tryz.prog W 0 (fun _ => true) false fuel t cs.toList = some (d, [])) (hk : tag g = k) (hno : ∀ v ∈ cs.toList, noIface v = true) : OneVar W tag n d k := by
  refine ⟨g, t, cs, fuel, [], hg, hty, by simp [World.var?, hg, hb], hr, by rw [List.append_nil]; exact row_nodup _ _, fun q hq => ?_, fun b off hq => ?_⟩
  · rw [List.append_nil] at hq
    obtain ⟨i, _, rfl⟩ := MemPlace.mem_row.1 hq
    exact hk
  · rw [List.append_nil] at hq
    obtain ⟨i, _, e⟩ := MemPlace.mem_row.1 hq
    cases e
    exact block_good hb hno _
/-- A variable that holds a slice of rows. -/
theorem one_slice {tag : Nat → Nat} {n : String} {d : DataW Unit} {k g R len : Nat} {t T T' : TypeId} {cs : Array Value} (fuel : Nat) (m : Nat) (hg : Tryz.prog.globalNamed n = some g) (hty : (Tryz.prog.globals[g]?).map (·.type) = some t) (hb : W.heap[g]? = some (.cells #[.slice (some ⟨R, 0, none⟩) len len] T (0, 0)))
    (hR : W.heap[R]? = some (.cells cs T' (0, 0)))
    (hr : DataW.trod (fun _ => ()) Tryz.prog W 0 (fun _ => true) false fuel t [.slice (some ⟨R, 0, none⟩) len len] = some (d, MemPlace.row ⟨R, 0, none⟩ m)) (hk : tag g = k) (hk2 : tag R = k) (hne : g ≠ R) (hno : ∀ v ∈ cs.toList, noIface v = true) : OneVar W tag n d k := by
  refine ⟨g, t, _, fuel, _, hg, hty, by simp [World.var?, hg, hb], hr, ?_, fun q hq => ?_, fun b off hq => ?_⟩
  · refine List.nodup_append.2 ⟨row_nodup _ _, row_nodup _ _, fun a ha b hb e => ?_⟩
    obtain ⟨i, _, rfl⟩ := MemPlace.mem_row.1 ha
    obtain ⟨j, _, rfl⟩ := MemPlace.mem_row.1 hb
    simp at e
    exact hne e.1
  · rcases List.mem_append.1 hq with hq | hq
    · obtain ⟨i, _, rfl⟩ := MemPlace.mem_row.1 hq
      exact hk
    · obtain ⟨i, _, rfl⟩ := MemPlace.mem_row.1 hq
      exact hk2
  · rcases List.mem_append.1 hq with hq | hq
    · obtain ⟨i, _, e⟩ := MemPlace.mem_row.1 hq
      cases e
      exact block_good hb (by intro v hv; simp at hv; subst hv; rfl) _
    · obtain ⟨i, _, e⟩ := MemPlace.mem_row.1 hq
      cases e
      exact block_good hR hno _
end
end Go.Proofs.YtbcnhcpgloncdaaGreatDoor
