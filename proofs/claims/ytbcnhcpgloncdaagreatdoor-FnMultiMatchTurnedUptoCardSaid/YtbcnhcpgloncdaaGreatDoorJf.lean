/-
  THE ROW's CLOSED FACTS OF FnMultiMatchTurned, the great ones each by itself.
-/
import Derived.Test.YtbcnhcpgloncdaaGreatDoorCards
import Derived.ProofKit
import Derived.JoinedCond
namespace Go.Proofs.YtbcnhcpgloncdaaGreatDoor
theorem j1 : (Rows.fnMultiMatchTurnedUptoRow.inPlace == Tryz.prog.inPlace 3) = true := by kernel_rfl
theorem j2 : (Rows.fnMultiMatchTurnedUptoRow.unfollowed == Tryz.prog.unfollowed 3) = true := by kernel_rfl
theorem j3 : (Rows.fnMultiMatchTurnedUptoRow.recurses == Tryz.prog.recurses 3) = true := by kernel_rfl
theorem j4 : (Rows.fnMultiMatchTurnedUptoRow.named == Tryz.prog.varsNamed 3) = true := by kernel_rfl
theorem j5 : mapsRowed Tryz.prog = true := by kernel_rfl
theorem j6 : laidOutB Tryz.prog = true := by kernel_rfl
theorem j7 : Tryz.prog.stopsHeard = true := by kernel_rfl
theorem j8 : Tryz.prog.mayEnter = true := by kernel_rfl
theorem closed3 : joinedFacts Tryz.prog 3 Tryz.f3 (Rows.OpenSpec.upto Rows.fnMultiMatchTurnedSpec).bare Rows.fnMultiMatchTurnedUptoRow = true := by
  unfold joinedFacts
  rw [j1, j2, j3, j4, j5, j6, j7, j8]
  kernel_rfl
end Go.Proofs.YtbcnhcpgloncdaaGreatDoor
