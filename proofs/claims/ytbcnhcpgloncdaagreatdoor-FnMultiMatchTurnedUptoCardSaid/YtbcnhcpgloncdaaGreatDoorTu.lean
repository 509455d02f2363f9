/-
  THE LAW FnMultiMatchTurned: in every world that holds the library's tables, at arguments of bulk at most 1048576, the call returns true.
-/
import Derived.Test.YtbcnhcpgloncdaaGreatDoorLwA
import Derived.Test.YtbcnhcpgloncdaaGreatDoorJm
namespace Go.Proofs.YtbcnhcpgloncdaaGreatDoor
open Go.RowKit Go.Sort

theorem turned_any {W : World} (hG : Glob W) {vt vf vs : Value} {text : T} {fields : List ByteArray} {ss : List S} (ht : TreeAt W (fun _ => True) vt text) (hf : StrsAt W (fun _ => True) vf fields) (hs : SetsAt W (fun _ => True) vs ss)
    (h1 : text.keys.length ≤ 1048576) (h2 : fields.length ≤ 1048576) (h3 : ss.length ≤ 1048576) (h4 : ∀ f ∈ fields, f.size ≤ 1048576) (h5 : ∀ s ∈ ss, s.value.text.size ≤ 1048576) (h6 : ∀ s ∈ ss, s.value.num < 18446744073709551616) :
    Calls Tryz.prog 3 #[vt, vf, vs] W (RetBool W true) := by
  have allfit : fitsB MM ss = true → ∀ s ∈ ss, fitsAt MM s = true := fun h => List.all_eq_true.1 h
  by_cases hc : scalarT text = true ∧ fitsB MM ss = true
  · obtain ⟨hsc, hfit⟩ := hc
    have hr := run_q (text := text) h2 h3 (allfit hfit)
    have hok := treeMM_ok hsc hr.1 hr.2
    refine law_3 (fun _ _ => trivial) ht hf hs h1 h2 h3 h4 h5 (treeMM text (runQ qtMM (q0MM text fields) ss)) hok.2 hok.1 ?_ ?_
    · intro _ _ _ w vt' vf' vs' hb ht' hf' hs'
      exact mm_any (hG.below hb) hsc h2 h3 h4 h5 h6 (allfit hfit) ht' hf' hs'
    · intro _ _ hd hn _ w vt' vf' vs' hb ht' hf' hs'
      have hrev := runQ_reverse pairMM hd (by simpa [fieldNames] using hn) (q0MM text fields)
      have := mm_any (hG.below hb) hsc h2 (ss := ss.reverse) (by simpa using h3) h4 (fun s hs => h5 s (List.mem_reverse.1 hs)) (fun s hs => h6 s (List.mem_reverse.1 hs)) (fun s hs => allfit hfit s (List.mem_reverse.1 hs)) ht' hf' hs'
      rw [hrev] at this
      exact this
  · refine law_3 (fun _ _ => trivial) ht hf hs h1 h2 h3 h4 h5 (tYes true) (by rw [wT_yes]; decide) (same_yes true) ?_ ?_
    · intro a b; exact absurd ⟨a, b⟩ hc
    · intro a b; exact absurd ⟨a, b⟩ hc
end Go.Proofs.YtbcnhcpgloncdaaGreatDoor
