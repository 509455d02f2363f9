/-
  For every text and settings of bulk at most 1048576 the law FnQueryString returns true and leaves its arguments as they were: a query_string query that is written out and read back is the query that was meant. (Condition: the second form's bound; the listed tables of Go's library hold what the program's text lays.)
-/
import Derived.Test.YtbcnhcpgloncdaaGreatDoorF4
import Derived.Test.YtbcnhcpgloncdaaGreatDoorA20
import Derived.Test.YtbcnhcpgloncdaaGreatDoorA22
import Derived.Test.YtbcnhcpgloncdaaGreatDoorF5
import Derived.Test.YtbcnhcpgloncdaaGreatDoorCards
import Derived.Test.YtbcnhcpgloncdaaGreatDoorTie
import Derived.WalkKit
import Derived.ProofKit
import Derived.OpenShut
import Derived.Deep.DeepHandedRow
namespace Go.Proofs.YtbcnhcpgloncdaaGreatDoor
open Go.ChangeShapes Go.WideShapes Go.ChangeAt Go.RowKit

theorem own0 : ownKnob Tryz.prog.godebug = none := by kernel_rfl
theorem laidOut0 : laidOutB Tryz.prog = true := by kernel_rfl

theorem bulk_bound {H : Type} {l : List (DataW H)} (hk : Rows.uptoSmall H l = true) : Rows.uptoBulkAll l ≤ 1048576 := of_decide_eq_true hk

theorem tree_value {v : Value} {cs : List Value} (h : v.cells.toList = cs) (hl : cs.length = 6) : v = .agg cs.toArray := by
  subst h
  cases v <;> first | (simp [Value.cells] at hl; done) | skip
  rename_i a
  simp [Value.cells]

set_option maxRecDepth 100000 in
theorem contract7 (H : Type) (enc : TypeId × Value → H) (W : World) (base : Nat) (args : Array Value) (ds gs : List (DataW H)) (before : List MemPlace)
    (hval : ∀ (j : Nat) t v, Tryz.f7.params[j]? = some t → args[j]? = some v → Value.okWide Tryz.prog W .any base t v)
    (hW : DataW.Whole enc Tryz.prog Tryz.f7.params.toList Rows.fnQueryStringSpec.vars false W args.toList ds gs before) (hcond : Rows.uptoSmall H (ds ++ gs) = true) (hL : laidMetH Tryz.prog Rows.fnQueryStringUptoRow.laid W) :
    Calls Tryz.prog 7 args W fun e W' => ∃ v, e = .returned v ∧ Rows.fnQueryStringSpec.post enc Tryz.prog Tryz.f7 false true false false W args v W' := by
  have hW' := hW
  obtain ⟨p, q, hA0, hV, rfl, hfz, hnd⟩ := hW
  have hA : DataW.TrodAll enc Tryz.prog W 0 (fun _ => true) true Tryz.f7.params.toList args.toList ds p := hA0
  rw [Tryz.params7] at hA hval
  obtain ⟨v0, v2, d0, d2, p0, p2, rfl, rfl, rfl, h0, h2⟩ := trodAll_two hA
  obtain ⟨rfl, rfl⟩ := trodVars_none hV
  obtain ⟨text, rfl⟩ := okWide_string Tryz.underlying9 (hval 0 9 v0 rfl rfl)
  obtain ⟨a2, l2, c2, rfl⟩ := okWide_slice Tryz.underlying27 (hval 1 27 v2 rfl rfl)
  have h0k := h0
  have h2k := h2
  obtain ⟨fuel0, hf0⟩ := h0
  obtain ⟨fuel2, hf2⟩ := h2
  clear hA0 hV
  simp only [List.append_nil] at hW' hcond
  have hlt : ∀ x ∈ p0 ++ p2, x.block < W.heap.size := fun x hx => by simpa using hW'.lt x hx
  have hbk := bulk_bound hcond
  simp only [Rows.uptoBulkAll] at hbk
  -- the readings
  obtain ⟨s0, e0, ed, hsz0⟩ := DataW.trod_string Tryz.underlying9 hf0
  obtain rfl : text = s0 := by simpa [Value.cells] using e0
  have hd0 : d0 = .lit (.string text.data.toList) := by have := congrArg Prod.fst ed; simpa using this
  have hb0 : Rows.uptoBulk d0 = text.size + 1 := by rw [hd0]; simp only [Rows.uptoBulk]; rfl
  obtain ⟨v2', ss, e2, hsets, hssl, hsok⟩ := read_sets hf2
  obtain rfl : v2' = .slice a2 l2 c2 := by simpa [Value.cells] using e2.symm
  have hLL : laidMet Tryz.prog Rows.fnQueryStringUptoRow.laid W := hL
  have hG : Glob W := glob_of hLL (by simp [Rows.fnQueryStringUptoRow]) (by simp [Rows.fnQueryStringUptoRow]) (by simp [Rows.fnQueryStringUptoRow]) (by simp [Rows.fnQueryStringUptoRow]) (by simp [Rows.fnQueryStringUptoRow]) (by simp [Rows.fnQueryStringUptoRow])
  have hGP : GlobP W := globP_of hLL hG (by simp [Rows.fnQueryStringUptoRow]) (by simp [Rows.fnQueryStringUptoRow])
  simp only at hssl
  refine (law_7 hsets (by omega) (by omega) (fun s hs => by obtain ⟨-, j2, -⟩ := hsok s hs; simp only at j2; omega) _ _ _ (lawOk_QS hG hGP (by omega) (by omega) (fun s hs => by obtain ⟨-, j2, -⟩ := hsok s hs; simp only at j2; omega) (fun s hs => (hsok s hs).1))).mono ?_
  rintro e W' ⟨rfl, bel⟩
  have e9 : (Rows.fnQueryStringSpec).fn H ([d0, d2] ++ []) = { results := [.lit (.bool true)], args := [d0, d2] } := rfl
  refine ⟨_, rfl, _, _, _, [], p0 ++ p2, [], hW', ?_, ?_, rfl, bel.frame _, fun h => by cases h⟩
  · exact trodAll_cons_mk (shut_bool Tryz.underlying4 _) trodAll_mk0
  · exact trodAll_mk2 (Below.trod laidOut0 (by kernel_rfl) (of_decide_eq_true (by kernel_rfl)) h0k bel (fun x hx => hlt x (by simp [hx]))) (Below.trod laidOut0 (by kernel_rfl) (of_decide_eq_true (by kernel_rfl)) h2k bel (fun x hx => hlt x (by simp [hx])))

def args2s : Array Value := #[.string ⟨#[]⟩, .slice none 0 0]
theorem input_ok7 (os : Os) : Input.okWideB Tryz.prog (laidForX os args2s) 7 ⟨#[], args2s, []⟩ = true := by kernel_rfl

theorem laid_met7 (os : Os) : laidMetH Tryz.prog Rows.fnQueryStringUptoRow.laid (laidMemX os args2s) := by
  obtain ⟨ps, h1, h2, -, h4⟩ := laidMet_of_ones (W := laidMemX os args2s) tagX keyB Rows.fnQueryStringUptoRow.laid (by decide +kernel) (by
    intro x hx
    simp only [Rows.fnQueryStringUptoRow, List.mem_cons, List.not_mem_nil, or_false] at hx
    rcases hx with rfl | rfl | rfl | rfl | rfl | rfl | rfl | rfl | rfl | rfl | rfl | rfl | rfl | rfl | rfl | rfl
    · exact oneX_db32 os args2s
    · exact oneX_db64 os args2s
    · exact oneX_i32 os args2s
    · exact oneX_i64 os args2s
    · exact oneX_opt os args2s
    · exact oneX_powtab os args2s
    · exact oneX_f64 os args2s
    · exact oneX_f32 os args2s
    · exact oneX_u64 os args2s
    · exact oneX_accept os args2s
    · exact oneX_range os args2s
    · exact oneX_syntax os args2s
    · exact oneX_cheat os args2s
    · exact oneX_pow10 os args2s
    · exact oneX_case os args2s
    · exact oneX_first os args2s)
  exact ⟨ps, h1, h2, h4⟩

theorem reads7 (os : Os) {H : Type} (enc : TypeId × Value → H) : ∃ places, DataW.whole enc Tryz.prog (laidMemX os args2s) Tryz.f7.params.toList Rows.fnQueryStringSpec.vars false args2s.toList 8 = some ([.lit (.string []), .nil], [], places) :=
  ⟨[], by kernel_rfl⟩

theorem small7 (H : Type) : Rows.uptoSmall H ([.lit (.string []), .nil] ++ []) = true := by kernel_rfl
theorem sized7 (os : Os) {H : Type} (enc : TypeId × Value → H) : (Rows.OpenSpec.upto Rows.fnQueryStringSpec).bare.sizedB enc Tryz.prog Tryz.f7 false (laidMemX os args2s) args2s 8 = true := by kernel_rfl

set_option maxRecDepth 100000 in
theorem lifted7 (os : Os) (started : os.Started) (H : Type) (enc : TypeId × Value → H) (F : Stop.Interp) :
    ReturnsInHanded {} Tryz.checked os 7 .any ((Rows.OpenSpec.upto Rows.fnQueryStringSpec).preRow enc Tryz.prog Tryz.f7 Rows.fnQueryStringUptoRow.domain false Rows.fnQueryStringUptoRow.laid) (((Rows.OpenSpec.upto Rows.fnQueryStringSpec).at F).post enc Tryz.prog Tryz.f7 false true false false) := by
  obtain ⟨places, hx⟩ := reads7 os enc
  refine returnsInHanded_of_row (C := Tryz.checked) (s := Rows.OpenSpec.upto Rows.fnQueryStringSpec) own0 started (by kernel_rfl) Tryz.func7
    (witness_row_atRef (enc := enc) (C := Tryz.checked) false (laidWorldX os) args2s rfl (varsX_ok os args2s) (restX_ok os args2s) (input_ok7 os)
      (OpenSpec.preRow_of_cond 8 hx rfl (fun k hk => by cases hk; exact small7 H) (sized7 os enc) (laid_met7 os))) ?_
  intro W base args ds gs before hval hW _ hcond _ hL _ _
  exact contract7 H enc W base args ds gs before hval hW (hcond _ rfl) hL

theorem saidUpto7 : Rows.FnQueryStringUptoSaid :=
  OpenClaim.holds_of_cond 7 Tryz.f7 rfl rfl rfl rfl rfl rfl rfl ⟨rfl, rfl, rfl, rfl, rfl⟩ rfl rfl rfl rfl rfl (by kernel_rfl) Tryz.func7 closed7
    (of_decide_eq_true (by kernel_rfl)) (by unfold Func.isWrapper; first | (rw [if_pos (by decide +kernel)]; kernel_rfl) | (rw [if_neg (by decide +kernel)]; exact ⟨rfl, rfl⟩))
    (fun os started H enc _ F => by rw [OpenClaim.pre_eq_preRow]; exact lifted7 os started H enc F)

theorem plain7 (f : FuncId) (fn : Func) (hf : Tryz.pinned.checked.prog.funcNamed "loop.example/pub-g01525/laws.FnQueryString" = some f) (hfn : Tryz.pinned.checked.prog.funcs[f]? = some fn) :
    true = Tryz.pinned.checked.prog.looks [] ∧ ∀ (j : Nat) t, fn.params[j]? = some t → Tryz.pinned.checked.prog.wantsStandIn t = false := by
  obtain rfl : f = 7 := Option.some.inj ((show Tryz.prog.funcNamed "loop.example/pub-g01525/laws.FnQueryString" = some 7 by kernel_rfl).symm.trans hf) |>.symm
  obtain rfl : fn = Tryz.f7 := (Option.some.inj (Tryz.func7.symm.trans hfn)).symm
  refine ⟨by kernel_rfl, fun j t ht => ?_⟩
  rw [Tryz.params7] at ht
  have hm := Array.mem_of_getElem? ht
  simp at hm
  rcases hm with rfl | rfl
  · exact (show Tryz.prog.wantsStandIn 9 = false by kernel_rfl)
  · exact (show Tryz.prog.wantsStandIn 27 = false by kernel_rfl)

/-- THE SECOND FORM's CARD. -/
theorem query_cardUpto : Rows.FnQueryStringUptoCardSaid :=
  Claim7.holds_tied_plain_at .later [] _ _ _ _ saidUpto7 (fun _ h => by cases h) (by kernel_rfl) (fun _ h => by cases h) fnQueryStringUpto_row_tie rfl ⟨rfl, rfl⟩ (by kernel_rfl) rfl plain7 (by kernel_rfl)
#print axioms query_cardUpto
end Go.Proofs.YtbcnhcpgloncdaaGreatDoor
