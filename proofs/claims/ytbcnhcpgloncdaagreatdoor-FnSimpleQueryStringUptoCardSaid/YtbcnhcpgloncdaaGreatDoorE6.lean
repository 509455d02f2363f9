/-
  THE ROW's CLOSED FACTS OF FnSimpleQueryString, the great ones each by itself.
-/
import Derived.Test.YtbcnhcpgloncdaaGreatDoorCards
import Derived.ProofKit
import Derived.JoinedCond
namespace Go.Proofs.YtbcnhcpgloncdaaGreatDoor
theorem jz1 : (Rows.fnSimpleQueryStringUptoRow.inPlace == Tryz.prog.inPlace 5) = true := by kernel_rfl
theorem jz2 : (Rows.fnSimpleQueryStringUptoRow.unfollowed == Tryz.prog.unfollowed 5) = true := by kernel_rfl
theorem jz3 : (Rows.fnSimpleQueryStringUptoRow.recurses == Tryz.prog.recurses 5) = true := by kernel_rfl
theorem jz4 : (Rows.fnSimpleQueryStringUptoRow.named == Tryz.prog.varsNamed 5) = true := by kernel_rfl
theorem jz5 : mapsRowed Tryz.prog = true := by kernel_rfl
theorem jz6 : laidOutB Tryz.prog = true := by kernel_rfl
theorem jz7 : Tryz.prog.stopsHeard = true := by kernel_rfl
theorem jz8 : Tryz.prog.mayEnter = true := by kernel_rfl
theorem closed5 : joinedFacts Tryz.prog 5 Tryz.f5 (Rows.OpenSpec.upto Rows.fnSimpleQueryStringSpec).bare Rows.fnSimpleQueryStringUptoRow = true := by
  unfold joinedFacts
  rw [jz1, jz2, jz3, jz4, jz5, jz6, jz7, jz8]
  kernel_rfl
end Go.Proofs.YtbcnhcpgloncdaaGreatDoor
