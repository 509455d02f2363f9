/-
  THE ROW's CLOSED FACTS OF FnMultiMatch, the great ones each by itself.
-/
import Derived.Test.YtbcnhcpgloncdaaGreatDoorCards
import Derived.ProofKit
import Derived.JoinedCond
namespace Go.Proofs.YtbcnhcpgloncdaaGreatDoor
theorem jy1 : (Rows.fnMultiMatchUptoRow.inPlace == Tryz.prog.inPlace 6) = true := by kernel_rfl
theorem jy2 : (Rows.fnMultiMatchUptoRow.unfollowed == Tryz.prog.unfollowed 6) = true := by kernel_rfl
theorem jy3 : (Rows.fnMultiMatchUptoRow.recurses == Tryz.prog.recurses 6) = true := by kernel_rfl
theorem jy4 : (Rows.fnMultiMatchUptoRow.named == Tryz.prog.varsNamed 6) = true := by kernel_rfl
theorem jy5 : mapsRowed Tryz.prog = true := by kernel_rfl
theorem jy6 : laidOutB Tryz.prog = true := by kernel_rfl
theorem jy7 : Tryz.prog.stopsHeard = true := by kernel_rfl
theorem jy8 : Tryz.prog.mayEnter = true := by kernel_rfl
theorem closed6 : joinedFacts Tryz.prog 6 Tryz.f6 (Rows.OpenSpec.upto Rows.fnMultiMatchSpec).bare Rows.fnMultiMatchUptoRow = true := by
  unfold joinedFacts
  rw [jy1, jy2, jy3, jy4, jy5, jy6, jy7, jy8]
  kernel_rfl
end Go.Proofs.YtbcnhcpgloncdaaGreatDoor
