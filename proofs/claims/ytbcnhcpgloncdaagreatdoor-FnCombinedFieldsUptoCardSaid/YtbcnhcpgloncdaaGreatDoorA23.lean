/-
  THE ROW's CLOSED FACTS OF FnCombinedFields, the great ones each by itself.
-/
import Derived.Test.YtbcnhcpgloncdaaGreatDoorCards
import Derived.ProofKit
import Derived.JoinedCond
namespace Go.Proofs.YtbcnhcpgloncdaaGreatDoor
theorem jx1 : (Rows.fnCombinedFieldsUptoRow.inPlace == Tryz.prog.inPlace 4) = true := by kernel_rfl
theorem jx2 : (Rows.fnCombinedFieldsUptoRow.unfollowed == Tryz.prog.unfollowed 4) = true := by kernel_rfl
theorem jx3 : (Rows.fnCombinedFieldsUptoRow.recurses == Tryz.prog.recurses 4) = true := by kernel_rfl
theorem jx4 : (Rows.fnCombinedFieldsUptoRow.named == Tryz.prog.varsNamed 4) = true := by kernel_rfl
theorem jx5 : mapsRowed Tryz.prog = true := by kernel_rfl
theorem jx6 : laidOutB Tryz.prog = true := by kernel_rfl
theorem jx7 : Tryz.prog.stopsHeard = true := by kernel_rfl
theorem jx8 : Tryz.prog.mayEnter = true := by kernel_rfl
theorem closed4 : joinedFacts Tryz.prog 4 Tryz.f4 (Rows.OpenSpec.upto Rows.fnCombinedFieldsSpec).bare Rows.fnCombinedFieldsUptoRow = true := by
  unfold joinedFacts
  rw [jx1, jx2, jx3, jx4, jx5, jx6, jx7, jx8]
  kernel_rfl
end Go.Proofs.YtbcnhcpgloncdaaGreatDoor
