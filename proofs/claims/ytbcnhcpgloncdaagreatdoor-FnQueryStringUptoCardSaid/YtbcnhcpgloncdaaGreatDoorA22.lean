/-
  THE WITNESS's WORLD IS SHAPED.
-/
import Derived.Test.YtbcnhcpgloncdaaGreatDoorA21
namespace Go.Proofs.YtbcnhcpgloncdaaGreatDoor
open Go.RowKit Go.Lib

noncomputable abbrev laidFor (os : Os) (args : Array Value) : World := (laidWorld os).forCall (fun _ _ => 0) ⟨#[], args, []⟩

theorem size10 : pow10Cells.size = 1392 := by
  show (Go.Pinned.pow10Rows.flatMap pow10Cell).toArray.size = 1392
  rw [List.size_toArray, flat_len pow10Cell 2 (fun _ => rfl), len10]
theorem okRow13 (w : World) : Row.okRefB Tryz.prog w 289 pow10Cells = true := by
  unfold Row.okRefB
  have hts : Tryz.prog.cellTypes Tryz.prog.depth 289 = some (List.replicate 1392 190) := by
    have h : Tryz.prog.cellTypes Tryz.prog.depth 289 = some ((List.replicate 696 [190, 190]).flatten) := by kernel_rfl
    rw [h]
    have e : (List.replicate 696 [190, 190]).flatten = List.replicate 1392 190 := by
      have : ∀ n, (List.replicate n [190, 190]).flatten = List.replicate (n * 2) 190 := by
        intro n
        induction n with
        | zero => rfl
        | succ n ih => rw [List.replicate_succ, List.flatten_cons, ih, show (n + 1) * 2 = n * 2 + 1 + 1 by omega, List.replicate_succ, List.replicate_succ]; rfl
      exact this 696
    rw [e]
  rw [hts]
  simp only [List.length_replicate]
  rw [Bool.and_eq_true]
  refine ⟨by rw [size10]; decide, List.all_eq_true.2 fun i hi => ?_⟩
  have hi' : i < 1392 := by rw [size10] at hi; exact List.mem_range.1 hi
  have hv : pow10Cells[i]? = some (pow10Cells[i]'(by rw [size10]; exact hi')) := Array.getElem?_eq_getElem _
  have ht : (List.replicate 1392 (190 : TypeId))[i % 1392]? = some 190 := by rw [List.getElem?_replicate, if_pos (Nat.mod_lt _ (by decide))]
  rw [hv, ht]
  simp only
  have hm : pow10Cells[i]'(by rw [size10]; exact hi') ∈ Go.Pinned.pow10Rows.flatMap pow10Cell := by
    have := Array.getElem_mem (xs := pow10Cells) (by rw [size10]; exact hi')
    exact List.mem_toArray.1 this
  obtain ⟨x, hx, hxv⟩ := List.mem_flatMap.1 hm
  have hw := List.all_eq_true.1 wf64 x hx
  simp only [Bool.and_eq_true, decide_eq_true_eq] at hw
  generalize pow10Cells[i]'(by rw [size10]; exact hi') = v at *
  simp only [pow10Cell, List.mem_cons, List.not_mem_nil, or_false] at hxv
  have key : ∀ n : Nat, n < 18446744073709551616 → Cell.okRefB Tryz.prog w 190 (.int .u64 (n : Int)) = true := by
    intro n hn
    have h0 : IntKind.u64.min = 0 := by decide
    have h1 : IntKind.u64.max = 18446744073709551615 := by decide
    unfold Cell.okRefB
    rw [Tryz.underlying190]
    simp [Cell.okB, Tryz.underlying190, h0, h1]
    omega
  rcases hxv with rfl | rfl
  · exact key _ hw.1
  · exact key _ hw.2

/-- One variable's part of 'variablesRefB'. -/
noncomputable def varOkB (w : World) (g : Nat) : Bool :=
  match ((begin Tryz.prog (fun _ _ => 0) default).world.heap[g]?).bind Obj.row? with
    | none => true
    | some (zero, t) =>
      match w.heap[g]? with
      | some (.cells cs t' frozen) => decide (t' = t) && decide (frozen = (0, 0)) && cs.size == zero.size && (!Tryz.prog.buildable t || Row.okRefB Tryz.prog w t cs)
      | _ => false
theorem zero13 : (((begin Tryz.prog (fun _ _ => 0) default).world.heap[13]?).bind Obj.row?).map (fun x => (x.1.size, x.2)) = some (1392, 289) := by kernel_rfl
theorem at13w (os : Os) : (laidFor os args3).heap[13]? = some (.cells pow10Cells 289 (0, 0)) := by kernel_rfl
theorem var13 (os : Os) : varOkB (laidFor os args3) 13 = true := by
  unfold varOkB
  obtain ⟨⟨zero, t⟩, hx, he⟩ := Option.map_eq_some_iff.1 zero13
  simp only [Prod.mk.injEq] at he
  obtain ⟨hs, rfl⟩ := he
  rw [hx, at13w]
  simp only
  rw [okRow13, size10, hs]
  simp
theorem var0 (os : Os) : varOkB (laidFor os args3) 0 = true := by kernel_rfl
theorem var1 (os : Os) : varOkB (laidFor os args3) 1 = true := by kernel_rfl
theorem var2 (os : Os) : varOkB (laidFor os args3) 2 = true := by kernel_rfl
theorem var3 (os : Os) : varOkB (laidFor os args3) 3 = true := by kernel_rfl
theorem var4 (os : Os) : varOkB (laidFor os args3) 4 = true := by kernel_rfl
theorem var5 (os : Os) : varOkB (laidFor os args3) 5 = true := by kernel_rfl
theorem var6 (os : Os) : varOkB (laidFor os args3) 6 = true := by kernel_rfl
theorem var7 (os : Os) : varOkB (laidFor os args3) 7 = true := by kernel_rfl
theorem var8 (os : Os) : varOkB (laidFor os args3) 8 = true := by kernel_rfl
theorem var9 (os : Os) : varOkB (laidFor os args3) 9 = true := by kernel_rfl
theorem var10 (os : Os) : varOkB (laidFor os args3) 10 = true := by kernel_rfl
theorem var11 (os : Os) : varOkB (laidFor os args3) 11 = true := by kernel_rfl
theorem var12 (os : Os) : varOkB (laidFor os args3) 12 = true := by kernel_rfl
theorem var14 (os : Os) : varOkB (laidFor os args3) 14 = true := by kernel_rfl
theorem var15 (os : Os) : varOkB (laidFor os args3) 15 = true := by kernel_rfl
theorem var16 (os : Os) : varOkB (laidFor os args3) 16 = true := by kernel_rfl
theorem globals_size : Tryz.prog.globals.size = 17 := by kernel_rfl
theorem vars_eq (w : World) : w.variablesRefB Tryz.prog = (List.range Tryz.prog.globals.size).all fun g => varOkB w g := by unfold World.variablesRefB varOkB; rfl
theorem vars_ok (os : Os) : (laidFor os args3).variablesRefB Tryz.prog = true := by
  rw [vars_eq, globals_size]
  refine List.all_eq_true.2 fun g hg => ?_
  have hlt := List.mem_range.1 hg
  have : g = 0 ∨ g = 1 ∨ g = 2 ∨ g = 3 ∨ g = 4 ∨ g = 5 ∨ g = 6 ∨ g = 7 ∨ g = 8 ∨ g = 9 ∨ g = 10 ∨ g = 11 ∨ g = 12 ∨ g = 13 ∨ g = 14 ∨ g = 15 ∨ g = 16 := by omega
  rcases this with rfl | rfl | rfl | rfl | rfl | rfl | rfl | rfl | rfl | rfl | rfl | rfl | rfl | rfl | rfl | rfl | rfl
  · exact var0 os
  · exact var1 os
  · exact var2 os
  · exact var3 os
  · exact var4 os
  · exact var5 os
  · exact var6 os
  · exact var7 os
  · exact var8 os
  · exact var9 os
  · exact var10 os
  · exact var11 os
  · exact var12 os
  · exact var13 os
  · exact var14 os
  · exact var15 os
  · exact var16 os

theorem rest_ok (os : Os) : ((laidFor os args3).heap.toList.drop Tryz.prog.globals.size).take ((begin Tryz.prog (fun _ _ => 0) default).world.heap.size - Tryz.prog.globals.size) =
      (begin Tryz.prog (fun _ _ => 0) default).world.heap.toList.drop Tryz.prog.globals.size := by kernel_rfl
theorem input_ok (os : Os) : Input.okWideB Tryz.prog (laidFor os args3) 3 ⟨#[], args3, []⟩ = true := by kernel_rfl
end Go.Proofs.YtbcnhcpgloncdaaGreatDoor

/-
  THAT WORLD IS SHAPED.
-/
namespace Go.Proofs.YtbcnhcpgloncdaaGreatDoor
open Go.RowKit Go.Lib

noncomputable abbrev laidForX (os : Os) (args : Array Value) : World := (laidWorldX os).forCall (fun _ _ => 0) ⟨#[], args, []⟩
section
variable (os : Os) (args : Array Value)
theorem at13wX : (laidForX os args).heap[13]? = some (.cells pow10Cells 289 (0, 0)) := by kernel_rfl
theorem varX13 : varOkB (laidForX os args) 13 = true := by
  unfold varOkB
  obtain ⟨⟨zero, t⟩, hx, he⟩ := Option.map_eq_some_iff.1 zero13
  simp only [Prod.mk.injEq] at he
  obtain ⟨hs, rfl⟩ := he
  rw [hx, at13wX]
  simp only
  rw [okRow13, size10, hs]
  simp
theorem varX0 : varOkB (laidForX os args) 0 = true := by kernel_rfl
theorem varX1 : varOkB (laidForX os args) 1 = true := by kernel_rfl
theorem varX2 : varOkB (laidForX os args) 2 = true := by kernel_rfl
theorem varX3 : varOkB (laidForX os args) 3 = true := by kernel_rfl
theorem varX4 : varOkB (laidForX os args) 4 = true := by kernel_rfl
theorem varX5 : varOkB (laidForX os args) 5 = true := by kernel_rfl
theorem varX6 : varOkB (laidForX os args) 6 = true := by kernel_rfl
theorem varX7 : varOkB (laidForX os args) 7 = true := by kernel_rfl
theorem varX8 : varOkB (laidForX os args) 8 = true := by kernel_rfl
theorem varX9 : varOkB (laidForX os args) 9 = true := by kernel_rfl
theorem varX10 : varOkB (laidForX os args) 10 = true := by kernel_rfl
theorem varX11 : varOkB (laidForX os args) 11 = true := by kernel_rfl
theorem varX12 : varOkB (laidForX os args) 12 = true := by kernel_rfl
theorem varX14 : varOkB (laidForX os args) 14 = true := by kernel_rfl
theorem varX15 : varOkB (laidForX os args) 15 = true := by kernel_rfl
theorem varX16 : varOkB (laidForX os args) 16 = true := by kernel_rfl
theorem varsX_ok : (laidForX os args).variablesRefB Tryz.prog = true := by
  rw [vars_eq, globals_size]
  refine List.all_eq_true.2 fun g hg => ?_
  have hlt := List.mem_range.1 hg
  have : g = 0 ∨ g = 1 ∨ g = 2 ∨ g = 3 ∨ g = 4 ∨ g = 5 ∨ g = 6 ∨ g = 7 ∨ g = 8 ∨ g = 9 ∨ g = 10 ∨ g = 11 ∨ g = 12 ∨ g = 13 ∨ g = 14 ∨ g = 15 ∨ g = 16 := by omega
  rcases this with rfl | rfl | rfl | rfl | rfl | rfl | rfl | rfl | rfl | rfl | rfl | rfl | rfl | rfl | rfl | rfl | rfl
  · exact varX0 os args
  · exact varX1 os args
  · exact varX2 os args
  · exact varX3 os args
  · exact varX4 os args
  · exact varX5 os args
  · exact varX6 os args
  · exact varX7 os args
  · exact varX8 os args
  · exact varX9 os args
  · exact varX10 os args
  · exact varX11 os args
  · exact varX12 os args
  · exact varX13 os args
  · exact varX14 os args
  · exact varX15 os args
  · exact varX16 os args
theorem restX_ok : ((laidForX os args).heap.toList.drop Tryz.prog.globals.size).take ((begin Tryz.prog (fun _ _ => 0) default).world.heap.size - Tryz.prog.globals.size) =
      (begin Tryz.prog (fun _ _ => 0) default).world.heap.toList.drop Tryz.prog.globals.size := by kernel_rfl
end
end Go.Proofs.YtbcnhcpgloncdaaGreatDoor
