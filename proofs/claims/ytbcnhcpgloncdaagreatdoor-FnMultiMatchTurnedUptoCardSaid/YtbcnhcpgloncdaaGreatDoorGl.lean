/-
  WHAT THE ROW's LIST GIVES: the library's tables.
-/
import Derived.Test.YtbcnhcpgloncdaaGreatDoorFo
import Derived.Test.YtbcnhcpgloncdaaGreatDoorRows
import Derived.Lib.LaidCase
import Derived.Lib.LaidU8
import Derived.PinnedBridge
namespace Go.Proofs.YtbcnhcpgloncdaaGreatDoor
open Go.RowKit Go.Lib

theorem at_two {cs : List Value} {k : Nat} {a b : Value} (h : (cs.drop k).take 2 = [a, b]) : cs[k]? = some a ∧ cs[k + 1]? = some b := by
  have h0 := congrArg (·[0]?) h
  have h1 := congrArg (·[1]?) h
  simp only [List.getElem?_take, List.getElem?_drop] at h0 h1
  exact ⟨by simpa using h0, by simpa using h1⟩

theorem gOpt : Tryz.prog.globalNamed "internal/strconv.optimize" = some 3 := by kernel_rfl
theorem gTen : Tryz.prog.globalNamed "internal/strconv.pow10Tab" = some 13 := by kernel_rfl
theorem cells190 : Tryz.prog.cellsOf 190 = 1 := by kernel_rfl
theorem cells288 : Tryz.prog.cellsOf 288 = 2 := by kernel_rfl
theorem cells264 : Tryz.prog.cellsOf 264 = 20 := by kernel_rfl

theorem glob_of {l : List (String × DataW Unit)} {W : World} (h : laidMet Tryz.prog l W) (m1 : ("unicode.CaseRanges", Rows.laid_unicode_CaseRanges) ∈ l) (m2 : ("unicode/utf8.first", Rows.laid_unicode_utf8_first) ∈ l) (m3 : ("unicode/utf8.acceptRanges", Rows.laid_unicode_utf8_acceptRanges) ∈ l)
    (m4 : ("internal/strconv.uint64pow10", Rows.laid_internal_strconv_uint64pow10) ∈ l) (m5 : ("internal/strconv.optimize", Rows.laid_internal_strconv_optimize) ∈ l) (m6 : ("internal/strconv.pow10Tab", Rows.laid_internal_strconv_pow10Tab) ∈ l) : Glob W := by
  have r1 := laidMet.reads h m1
  have r2 := laidMet.reads h m2
  have r3 := laidMet.reads h m3
  have r4 := laidMet.reads h m4
  have r5 := laidMet.reads h m5
  have r6 := laidMet.reads h m6
  rw [show Rows.laid_unicode_CaseRanges = caseData from Go.Pinned.caseRanges_eq] at r1
  rw [show Rows.laid_unicode_utf8_first = firstData from Go.Pinned.utf8First_eq] at r2
  rw [show (Rows.laid_unicode_utf8_acceptRanges : DataW Unit) = acceptData by kernel_rfl] at r3
  rw [show (Rows.laid_internal_strconv_uint64pow10 : DataW Unit) = tabData .u64 pow10Tab by kernel_rfl] at r4
  have ten : ∀ i z, i < 696 → (Go.Pinned.pow10Rows.map fun x => (DataW.agg [.lit (.int .u64 x.1), .lit (.int .u64 x.2)] : DataW Unit))[i]? = some (.agg [.lit (.int .u64 z), .lit (.int .u64 0)]) →
      W.cell? ⟨13, i * 2, none⟩ = some (.int .u64 z) ∧ W.cell? ⟨13, i * 2 + 1, none⟩ = some (.int .u64 0) := by
    intro i z hi hz
    obtain ⟨g, t, cs, fuel, p, hg, hty, hvar, hd⟩ := r6
    obtain rfl := Option.some.inj (gTen.symm.trans hg)
    obtain rfl := Option.some.inj ((show (Tryz.prog.globals[13]?).map (·.type) = some 289 by kernel_rfl).symm.trans hty)
    obtain ⟨f2, d, q, hdi, he⟩ := array_elem Tryz.underlying289 (show DataW.trod (fun _ => ()) Tryz.prog W 0 (fun _ => true) false fuel 289 cs.toList = some (.agg (Go.Pinned.pow10Rows.map fun x => (DataW.agg [.lit (.int .u64 x.1), .lit (.int .u64 x.2)] : DataW Unit)), p) from hd) i hi
    obtain rfl := Option.some.inj (hz.symm.trans hdi)
    rw [cells288] at he
    have hcs := ints_of_struct (zs := [z, 0]) (k := .u64) Tryz.underlying288 (fun j f hj => by
      match j, hj with
      | 0, hj => cases hj; exact ⟨Tryz.underlying190, rfl, cells190⟩
      | 1, hj => cases hj; exact ⟨Tryz.underlying190, rfl, cells190⟩) cells288 he
    obtain ⟨a1, a2⟩ := at_two hcs
    rw [World.var?_cell hg hvar, World.var?_cell hg hvar, ← Array.getElem?_toList, ← Array.getElem?_toList]
    exact ⟨a1, a2⟩
  refine ⟨caseVar_of_reads { Tryz.lays262 with } Tryz.lays262.t206 ⟨by kernel_rfl, by kernel_rfl, by kernel_rfl, by kernel_rfl, by kernel_rfl, by kernel_rfl⟩ r1,
    utf8Tabs_of_reads { Tryz.lays260 with } ⟨by kernel_rfl, by kernel_rfl, by kernel_rfl, by kernel_rfl, by kernel_rfl, by kernel_rfl, by kernel_rfl⟩ r2 r3, ?_, ?_, ?_, ?_, ?_, ?_⟩
  · obtain ⟨g, t, cs, fuel, p, hg, hty, hvar, hd⟩ := r4
    obtain rfl := Option.some.inj (gPow.symm.trans hg)
    obtain rfl := Option.some.inj ((show (Tryz.prog.globals[9]?).map (·.type) = some 264 by kernel_rfl).symm.trans hty)
    unfold TabIs
    rw [hvar, ← cells_of_tab Tryz.underlying264 Tryz.underlying190 cells190 cells264 hd]
  · obtain ⟨g, t, cs, fuel, p, hg, hty, hvar, hd⟩ := r5
    obtain rfl := Option.some.inj (gOpt.symm.trans hg)
    obtain rfl := Option.some.inj ((show (Tryz.prog.globals[3]?).map (·.type) = some 4 by kernel_rfl).symm.trans hty)
    obtain ⟨y, hc, hy⟩ := DataW.trod_bool Tryz.underlying4 hd
    have e : y = true := by
      have := congrArg Prod.fst hy
      simpa [Rows.laid_internal_strconv_optimize] using this.symm
    subst e
    rw [World.var?_cell hg hvar, ← Array.getElem?_toList, hc]
    rfl
  · exact (ten 354 _ (by decide) (by kernel_rfl)).1
  · exact (ten 354 17592186044416000000 (by decide) (by kernel_rfl)).2
  · exact (ten 355 _ (by decide) (by kernel_rfl)).1
  · exact (ten 355 10995116277760000000 (by decide) (by kernel_rfl)).2
end Go.Proofs.YtbcnhcpgloncdaaGreatDoor
