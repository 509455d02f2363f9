/-
  THE ROW's CLOSED FACTS OF FnQueryString, the great ones each by itself.
-/
import Derived.Test.YtbcnhcpgloncdaaGreatDoorCards
import Derived.ProofKit
import Derived.JoinedCond
namespace Go.Proofs.YtbcnhcpgloncdaaGreatDoor
theorem jw1 : (Rows.fnQueryStringUptoRow.inPlace == Tryz.prog.inPlace 7) = true := by kernel_rfl
theorem jw2 : (Rows.fnQueryStringUptoRow.unfollowed == Tryz.prog.unfollowed 7) = true := by kernel_rfl
theorem jw3 : (Rows.fnQueryStringUptoRow.recurses == Tryz.prog.recurses 7) = true := by kernel_rfl
theorem jw4 : (Rows.fnQueryStringUptoRow.named == Tryz.prog.varsNamed 7) = true := by kernel_rfl
theorem jw5 : mapsRowed Tryz.prog = true := by kernel_rfl
theorem jw6 : laidOutB Tryz.prog = true := by kernel_rfl
theorem jw7 : Tryz.prog.stopsHeard = true := by kernel_rfl
theorem jw8 : Tryz.prog.mayEnter = true := by kernel_rfl
theorem closed7 : joinedFacts Tryz.prog 7 Tryz.f7 (Rows.OpenSpec.upto Rows.fnQueryStringSpec).bare Rows.fnQueryStringUptoRow = true := by
  unfold joinedFacts
  rw [jw1, jw2, jw3, jw4, jw5, jw6, jw7, jw8]
  kernel_rfl
end Go.Proofs.YtbcnhcpgloncdaaGreatDoor
