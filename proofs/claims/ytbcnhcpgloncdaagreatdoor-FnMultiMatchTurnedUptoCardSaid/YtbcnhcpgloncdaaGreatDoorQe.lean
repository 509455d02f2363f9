/-
  THE TABLES THAT THE LIBRARY READS, AND THE SETTER OF A multi_match QUERY's TYPE.
-/
import Derived.Test.YtbcnhcpgloncdaaGreatDoorQd
import Derived.Test.YtbcnhcpgloncdaaGreatDoorShelf
namespace Go.Proofs.YtbcnhcpgloncdaaGreatDoor
open Go.RowKit Go.Sort Go.ChangeMaps Go.MapKept Go.Lib

/-- What the library's tables hold. -/
structure Glob (w : World) : Prop where
  case : CaseVar 2 caseA w
  utf : Lib.Utf8Tabs 7 8 w
  pow : Lib.TabIs Tryz.prog w "internal/strconv.uint64pow10" .u64 Lib.pow10Tab
  opt : w.cell? ⟨3, 0, none⟩ = some (.bool true)
  hi6 : w.cell? ⟨13, 708, none⟩ = some (.int .u64 17592186044416000000)
  lo6 : w.cell? ⟨13, 709, none⟩ = some (.int .u64 0)
  hi7 : w.cell? ⟨13, 710, none⟩ = some (.int .u64 10995116277760000000)
  lo7 : w.cell? ⟨13, 711, none⟩ = some (.int .u64 0)

theorem TabIs_below {w w' : World} {name : String} {k : IntKind} {zs : List Int} (h : Lib.TabIs Tryz.prog w name k zs) (hb : Below w.heap.size w w') : Lib.TabIs Tryz.prog w' name k zs := by
  unfold Lib.TabIs World.var? at *
  cases hg : Tryz.prog.globalNamed name with
  | none => rw [hg] at h; simp at h
  | some g =>
    rw [hg] at h
    simp only [Option.bind_some] at h ⊢
    rcases Nat.lt_or_ge g w.heap.size with hlt | hge
    · rw [hb.block g hlt]; exact h
    · rw [Array.getElem?_eq_none hge] at h; simp at h

theorem Glob.below {w w' : World} (h : Glob w) (hb : Below w.heap.size w w') : Glob w' := by
  have hc : ∀ b o v, w.cell? ⟨b, o, none⟩ = some v → w'.cell? ⟨b, o, none⟩ = some v := fun b o v hv => (hb.cell (World.block_lt_of_cell? w _ hv)).trans hv
  obtain ⟨⟨R, oR, cap, h1, h2⟩, h3, hp, ho, t1, t2, t3, t4⟩ := h
  refine ⟨⟨R, oR, cap, hc _ _ _ h1, fun i hi => ?_⟩, ?_, TabIs_below hp hb, hc _ _ _ ho, hc _ _ _ t1, hc _ _ _ t2, hc _ _ _ t3, hc _ _ _ t4⟩
  · obtain ⟨a1, a2, a3, a4, a5⟩ := h2 i hi
    exact ⟨hc _ _ _ a1, hc _ _ _ a2, hc _ _ _ a3, hc _ _ _ a4, hc _ _ _ a5⟩
  · exact ⟨fun c hcc => hc _ _ _ (h3.1 c hcc), fun i hi => ⟨hc _ _ _ (h3.2 i hi).1, hc _ _ _ (h3.2 i hi).2⟩⟩

/-- The type that a multi_match query takes from a text, lower-cased. -/
def typeOf (u : ByteArray) : ByteArray :=
  if u.toList == [109, 111, 115, 116, 95, 102, 105, 101, 108, 100, 115] then ⟨#[109, 111, 115, 116, 95, 102, 105, 101, 108, 100, 115]⟩ else
  if u.toList == [99, 114, 111, 115, 115, 95, 102, 105, 101, 108, 100, 115] then ⟨#[99, 114, 111, 115, 115, 95, 102, 105, 101, 108, 100, 115]⟩ else
  if u.toList == [112, 104, 114, 97, 115, 101] then ⟨#[112, 104, 114, 97, 115, 101]⟩ else
  if u.toList == [112, 104, 114, 97, 115, 101, 95, 112, 114, 101, 102, 105, 120] then ⟨#[112, 104, 114, 97, 115, 101, 95, 112, 114, 101, 102, 105, 120]⟩ else
  if u.toList == [98, 111, 111, 108, 95, 112, 114, 101, 102, 105, 120] then ⟨#[98, 111, 111, 108, 95, 112, 114, 101, 102, 105, 120]⟩ else ⟨#[98, 101, 115, 116, 95, 102, 105, 101, 108, 100, 115]⟩
def lowerB (s : ByteArray) : ByteArray := ⟨(Lib.toLowerD s.data.toList).toArray⟩

set_option maxHeartbeats 800000 in
theorem set_49 {w : World} {lo bq : Nat} {q : Q} (h : QAt w lo bq gMM q) (hlo : lo ≤ w.heap.size) (hG : Glob w) (s : ByteArray) (hs : s.size < 35184372088832) :
    Calls Tryz.prog 49 #[.pointer (some ⟨bq, 0, none⟩), .string s] w (RetQ w lo bq gMM { q with f := upd q.f 3 (.val (.string (typeOf (lowerB s)))) }) := by
  have H := hide h
  have HG := hide hG
  clear h hG
  have HT := hide (rfl : typeOf (lowerB s) = typeOf (lowerB s))
  go_enter Tryz.func49, Tryz.ntmps49
  go_wp2_with fail
  refine (Tryz.strings_ToLower_any s _ hs HG.out.case HG.out.utf).mono ?_
  rintro e w1 ⟨rfl, hb1⟩
  have hu : lowerB s = ⟨(Lib.toLowerD s.data.toList).toArray⟩ := rfl
  rw [← hu]
  clear hu
  generalize lowerB s = u at *
  have H1 := hide (H.out.kept hb1)
  have HB := hide hb1
  have hlo1 : lo ≤ w1.heap.size := Nat.le_trans hlo hb1.size
  obtain ⟨⟨u0, h1⟩, h2⟩ := H1.out.cell 3 (by decide)
  clear hb1
  cases t1 : (u.toList == [109, 111, 115, 116, 95, 102, 105, 101, 108, 100, 115])
  case' false => cases t2 : (u.toList == [99, 114, 111, 115, 115, 95, 102, 105, 101, 108, 100, 115])
  case' false.false => cases t3 : (u.toList == [112, 104, 114, 97, 115, 101])
  case' false.false.false => cases t4 : (u.toList == [112, 104, 114, 97, 115, 101, 95, 112, 114, 101, 102, 105, 120])
  case' false.false.false.false => cases t5 : (u.toList == [98, 111, 111, 108, 95, 112, 114, 101, 102, 105, 120])
  all_goals
    go_wp2
    go_returns
    refine ⟨rfl, ?_, (HB.out.mono hlo).trans (Below.setCell_lo _ H1.out.lo_le)⟩
    simp only [typeOf, *]
    exact H1.out.set (by decide) (by decide) rfl
end Go.Proofs.YtbcnhcpgloncdaaGreatDoor
