/-
  For every text, fields and settings of bulk at most 1048576 the law FnMultiMatch returns true and leaves its arguments as they were: a multi_match query that is written out and read back is the query that was meant. (Condition: the second form's bound; the listed tables of Go's library hold what the program's text lays.)
-/
import Derived.Test.YtbcnhcpgloncdaaGreatDoorD7
import Derived.Test.YtbcnhcpgloncdaaGreatDoorA20
import Derived.Test.YtbcnhcpgloncdaaGreatDoorA22
import Derived.Test.YtbcnhcpgloncdaaGreatDoorD8
import Derived.Test.YtbcnhcpgloncdaaGreatDoorCards
import Derived.Test.YtbcnhcpgloncdaaGreatDoorTie
import Derived.WalkKit
import Derived.ProofKit
import Derived.OpenShut
import Derived.Deep.DeepHandedRow
namespace Go.Proofs.YtbcnhcpgloncdaaGreatDoor
open Go.ChangeShapes Go.WideShapes Go.ChangeAt Go.RowKit

theorem own0 : ownKnob Tryz.prog.godebug = none := by kernel_rfl
theorem laidOut0 : laidOutB Tryz.prog = true := by kernel_rfl

theorem bulk_bound {H : Type} {l : List (DataW H)} (hk : Rows.uptoSmall H l = true) : Rows.uptoBulkAll l ≤ 1048576 := of_decide_eq_true hk

theorem tree_value {v : Value} {cs : List Value} (h : v.cells.toList = cs) (hl : cs.length = 6) : v = .agg cs.toArray := by
  subst h
  cases v <;> first | (simp [Value.cells] at hl; done) | skip
  rename_i a
  simp [Value.cells]

set_option maxRecDepth 100000 in
theorem contract6 (H : Type) (enc : TypeId × Value → H) (W : World) (base : Nat) (args : Array Value) (ds gs : List (DataW H)) (before : List MemPlace)
    (hval : ∀ (j : Nat) t v, Tryz.f6.params[j]? = some t → args[j]? = some v → Value.okWide Tryz.prog W .any base t v)
    (hW : DataW.Whole enc Tryz.prog Tryz.f6.params.toList Rows.fnMultiMatchSpec.vars false W args.toList ds gs before) (hcond : Rows.uptoSmall H (ds ++ gs) = true) (hL : laidMetH Tryz.prog Rows.fnMultiMatchUptoRow.laid W) :
    Calls Tryz.prog 6 args W fun e W' => ∃ v, e = .returned v ∧ Rows.fnMultiMatchSpec.post enc Tryz.prog Tryz.f6 false true false false W args v W' := by
  have hW' := hW
  obtain ⟨p, q, hA0, hV, rfl, hfz, hnd⟩ := hW
  have hA : DataW.TrodAll enc Tryz.prog W 0 (fun _ => true) true Tryz.f6.params.toList args.toList ds p := hA0
  rw [Tryz.params6] at hA hval
  obtain ⟨v0, v1, v2, d0, d1, d2, p0, p1, p2, rfl, rfl, rfl, h0, h1, h2⟩ := trodAll_three hA
  obtain ⟨rfl, rfl⟩ := trodVars_none hV
  obtain ⟨a1, l1, c1, rfl⟩ := okWide_slice Tryz.underlying23 (hval 1 23 v1 rfl rfl)
  obtain ⟨a2, l2, c2, rfl⟩ := okWide_slice Tryz.underlying27 (hval 2 27 v2 rfl rfl)
  have h0k := h0
  have h1k := h1
  have h2k := h2
  obtain ⟨fuel0, hf0⟩ := h0
  obtain ⟨fuel1, hf1⟩ := h1
  obtain ⟨fuel2, hf2⟩ := h2
  clear hA0 hV
  simp only [List.append_nil] at hW' hcond
  have hlt : ∀ x ∈ p0 ++ p1 ++ p2, x.block < W.heap.size := fun x hx => by simpa using hW'.lt x hx
  have hbk := bulk_bound hcond
  simp only [Rows.uptoBulkAll] at hbk
  -- the readings
  have hl0 : v0.cells.toList.length = 6 := by
    obtain ⟨xs, n, -, -, hl, -⟩ := DataW.trod_struct Tryz.underlying26 hf0
    rw [cells26] at hl
    exact hl
  obtain ⟨text, htree, htok⟩ := read_tree fuel0 _ _ hf0
  have hv0 := tree_value rfl hl0
  rw [← hv0] at htree
  obtain ⟨v1', fields, e1, hstrs, hsl, hsz⟩ := read_strs hf1
  obtain rfl : v1' = .slice a1 l1 c1 := by simpa [Value.cells] using e1.symm
  obtain ⟨v2', ss, e2, hsets, hssl, hsok⟩ := read_sets hf2
  obtain rfl : v2' = .slice a2 l2 c2 := by simpa [Value.cells] using e2.symm
  have hLL : laidMet Tryz.prog Rows.fnMultiMatchUptoRow.laid W := hL
  have hG : Glob W := glob_of hLL (by simp [Rows.fnMultiMatchUptoRow]) (by simp [Rows.fnMultiMatchUptoRow]) (by simp [Rows.fnMultiMatchUptoRow]) (by simp [Rows.fnMultiMatchUptoRow]) (by simp [Rows.fnMultiMatchUptoRow]) (by simp [Rows.fnMultiMatchUptoRow])
  have hGP : GlobP W := globP_of hLL hG (by simp [Rows.fnMultiMatchUptoRow]) (by simp [Rows.fnMultiMatchUptoRow])
  obtain ⟨k1, k2, k3, k4⟩ := htok
  simp only at k2 k3 k4 hsl hssl
  refine (law_6 htree hstrs hsets (by omega) (by omega) (by omega) (fun f hf => by have := hsz f hf; simp only at this; omega) (fun s hs => by obtain ⟨-, j2, -⟩ := hsok s hs; simp only at j2; omega) _ _ _ (fun hkb => lawOk_MM hkb hG hGP (by omega) (by omega) (by omega) (fun f hf => by have := hsz f hf; simp only at this; omega) (fun s hs => by obtain ⟨-, j2, -⟩ := hsok s hs; simp only at j2; omega) (fun s hs => (hsok s hs).1))).mono ?_
  rintro e W' ⟨rfl, bel⟩
  have e9 : (Rows.fnMultiMatchSpec).fn H ([d0, d1, d2] ++ []) = { results := [.lit (.bool true)], args := [d0, d1, d2] } := rfl
  refine ⟨_, rfl, _, _, _, [], p0 ++ p1 ++ p2, [], hW', ?_, ?_, rfl, bel.frame _, fun h => by cases h⟩
  · exact trodAll_cons_mk (shut_bool Tryz.underlying4 _) trodAll_mk0
  · rw [List.append_assoc]
    exact trodAll_mk3 (Below.trod laidOut0 (by kernel_rfl) (of_decide_eq_true (by kernel_rfl)) h0k bel (fun x hx => hlt x (by simp [hx]))) (Below.trod laidOut0 (by kernel_rfl) (of_decide_eq_true (by kernel_rfl)) h1k bel (fun x hx => hlt x (by simp [hx]))) (Below.trod laidOut0 (by kernel_rfl) (of_decide_eq_true (by kernel_rfl)) h2k bel (fun x hx => hlt x (by simp [hx])))

theorem input_ok6 (os : Os) : Input.okWideB Tryz.prog (laidForX os args3) 6 ⟨#[], args3, []⟩ = true := by kernel_rfl

theorem laid_met6 (os : Os) : laidMetH Tryz.prog Rows.fnMultiMatchUptoRow.laid (laidMemX os args3) := by
  obtain ⟨ps, h1, h2, -, h4⟩ := laidMet_of_ones (W := laidMemX os args3) tagX keyB Rows.fnMultiMatchUptoRow.laid (by decide +kernel) (by
    intro x hx
    simp only [Rows.fnMultiMatchUptoRow, List.mem_cons, List.not_mem_nil, or_false] at hx
    rcases hx with rfl | rfl | rfl | rfl | rfl | rfl | rfl | rfl | rfl | rfl | rfl | rfl | rfl | rfl | rfl | rfl
    · exact oneX_db32 os args3
    · exact oneX_db64 os args3
    · exact oneX_i32 os args3
    · exact oneX_i64 os args3
    · exact oneX_opt os args3
    · exact oneX_powtab os args3
    · exact oneX_f64 os args3
    · exact oneX_f32 os args3
    · exact oneX_u64 os args3
    · exact oneX_accept os args3
    · exact oneX_range os args3
    · exact oneX_syntax os args3
    · exact oneX_cheat os args3
    · exact oneX_pow10 os args3
    · exact oneX_case os args3
    · exact oneX_first os args3)
  exact ⟨ps, h1, h2, h4⟩

theorem reads6 (os : Os) {H : Type} (enc : TypeId × Value → H) : ∃ places, DataW.whole enc Tryz.prog (laidMemX os args3) Tryz.f6.params.toList Rows.fnMultiMatchSpec.vars false args3.toList 8 = some ([.agg [.lit (.int .i64 0), .lit (.string []), .lit (.float .f64 0), .lit (.bool false), .nil, .nil], .nil, .nil], [], places) :=
  ⟨[], by kernel_rfl⟩

theorem small6 (H : Type) : Rows.uptoSmall H ([.agg [.lit (.int .i64 0), .lit (.string []), .lit (.float .f64 0), .lit (.bool false), .nil, .nil], .nil, .nil] ++ []) = true := by kernel_rfl
theorem sized6 (os : Os) {H : Type} (enc : TypeId × Value → H) : (Rows.OpenSpec.upto Rows.fnMultiMatchSpec).bare.sizedB enc Tryz.prog Tryz.f6 false (laidMemX os args3) args3 8 = true := by kernel_rfl

set_option maxRecDepth 100000 in
theorem lifted6 (os : Os) (started : os.Started) (H : Type) (enc : TypeId × Value → H) (F : Stop.Interp) :
    ReturnsInHanded {} Tryz.checked os 6 .any ((Rows.OpenSpec.upto Rows.fnMultiMatchSpec).preRow enc Tryz.prog Tryz.f6 Rows.fnMultiMatchUptoRow.domain false Rows.fnMultiMatchUptoRow.laid) (((Rows.OpenSpec.upto Rows.fnMultiMatchSpec).at F).post enc Tryz.prog Tryz.f6 false true false false) := by
  obtain ⟨places, hx⟩ := reads6 os enc
  refine returnsInHanded_of_row (C := Tryz.checked) (s := Rows.OpenSpec.upto Rows.fnMultiMatchSpec) own0 started (by kernel_rfl) Tryz.func6
    (witness_row_atRef (enc := enc) (C := Tryz.checked) false (laidWorldX os) args3 rfl (varsX_ok os args3) (restX_ok os args3) (input_ok6 os)
      (OpenSpec.preRow_of_cond 8 hx rfl (fun k hk => by cases hk; exact small6 H) (sized6 os enc) (laid_met6 os))) ?_
  intro W base args ds gs before hval hW _ hcond _ hL _ _
  exact contract6 H enc W base args ds gs before hval hW (hcond _ rfl) hL

theorem saidUpto6 : Rows.FnMultiMatchUptoSaid :=
  OpenClaim.holds_of_cond 6 Tryz.f6 rfl rfl rfl rfl rfl rfl rfl ⟨rfl, rfl, rfl, rfl, rfl⟩ rfl rfl rfl rfl rfl (by kernel_rfl) Tryz.func6 closed6
    (of_decide_eq_true (by kernel_rfl)) (by unfold Func.isWrapper; first | (rw [if_pos (by decide +kernel)]; kernel_rfl) | (rw [if_neg (by decide +kernel)]; exact ⟨rfl, rfl⟩))
    (fun os started H enc _ F => by rw [OpenClaim.pre_eq_preRow]; exact lifted6 os started H enc F)

theorem plain6 (f : FuncId) (fn : Func) (hf : Tryz.pinned.checked.prog.funcNamed "loop.example/pub-g01525/laws.FnMultiMatch" = some f) (hfn : Tryz.pinned.checked.prog.funcs[f]? = some fn) :
    true = Tryz.pinned.checked.prog.looks [] ∧ ∀ (j : Nat) t, fn.params[j]? = some t → Tryz.pinned.checked.prog.wantsStandIn t = false := by
  obtain rfl : f = 6 := Option.some.inj ((show Tryz.prog.funcNamed "loop.example/pub-g01525/laws.FnMultiMatch" = some 6 by kernel_rfl).symm.trans hf) |>.symm
  obtain rfl : fn = Tryz.f6 := (Option.some.inj (Tryz.func6.symm.trans hfn)).symm
  refine ⟨by kernel_rfl, fun j t ht => ?_⟩
  rw [Tryz.params6] at ht
  have hm := Array.mem_of_getElem? ht
  simp at hm
  rcases hm with rfl | rfl | rfl
  · exact (show Tryz.prog.wantsStandIn 26 = false by kernel_rfl)
  · exact (show Tryz.prog.wantsStandIn 23 = false by kernel_rfl)
  · exact (show Tryz.prog.wantsStandIn 27 = false by kernel_rfl)

/-- THE SECOND FORM's CARD. -/
theorem multi_cardUpto : Rows.FnMultiMatchUptoCardSaid :=
  Claim7.holds_tied_plain_at .later [] _ _ _ _ saidUpto6 (fun _ h => by cases h) (by kernel_rfl) (fun _ h => by cases h) fnMultiMatchUpto_row_tie rfl ⟨rfl, rfl⟩ (by kernel_rfl) rfl plain6 (by kernel_rfl)
#print axioms multi_cardUpto
end Go.Proofs.YtbcnhcpgloncdaaGreatDoor
