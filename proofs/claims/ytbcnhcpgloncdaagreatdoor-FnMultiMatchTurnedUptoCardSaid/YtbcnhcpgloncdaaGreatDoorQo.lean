/-
  SMALL LAWS FOR Source.
-/
import Derived.Test.YtbcnhcpgloncdaaGreatDoorQn
namespace Go.Proofs.YtbcnhcpgloncdaaGreatDoor
open Go.RowKit Go.Sort Go.ChangeMaps Go.MapKept Go.Lib
open Go.Maps (Keyed has IsMap)

/-- A field's text: with its boost if it has one. -/
def fieldText (bt : Nat → List UInt8) (B : List (ByteArray × Nat)) (f : ByteArray) : ByteArray := match lookL B f with
  | some x => f ++ ⟨#[94]⟩ ++ bs (bt x)
  | none => f
def fieldTexts (bt : Nat → List UInt8) (q : Q) : List ByteArray := q.fields.map (fieldText bt q.boosts)

/-- All blocks but the two maps that Source makes. -/
def notB (b : Nat) : Nat → Prop := fun k => k ≠ b ∧ k ≠ b + 1
theorem ent_le (key : List UInt8) (o : Option T) : (ent key o).length ≤ 1 := by unfold ent; split <;> simp
def entF (ks : List ByteArray) : List (ByteArray × T) := if ks = [] then [] else [(bs [102, 105, 101, 108, 100, 115], tList ks)]

theorem run_slice_nil (a : Option Addr) (n c : Nat) (w : World) : (binOp .eql 23 (.slice a n c) (.slice none 0 0)).run Tryz.prog w = .ok (.bool a.isNone) w := by
  cases a <;> kernel_rfl

theorem shape_at {tab : QTab} {q : Q} (K i : Nat) (h : tab.any (fun r => r.2.1 == i && r.2.2 == K) = true) (hS : Shaped tab q) : shapeOf K (q.f i) := by
  obtain ⟨r, hr, he⟩ := List.any_eq_true.1 h
  simp only [Bool.and_eq_true, beq_iff_eq] at he
  have := hS r hr
  rw [he.1, he.2] at this
  exact this

theorem lookL_mem {α : Type} {B : List (ByteArray × α)} {k : ByteArray} {x : α} (h : lookL B k = some x) : (k, x) ∈ B := by
  unfold lookL at h
  cases hf : B.reverse.find? (fun p => eqB p.1 k) with
  | none => rw [hf] at h; cases h
  | some p =>
    rw [hf] at h
    have h1 := List.mem_of_find?_eq_some hf
    have h0 := List.find?_some hf
    have h2 := (eqB_iff p.1 k).1 h0
    obtain ⟨a, b⟩ := p
    simp at h h2 h1
    subst h; subst h2
    exact h1
end Go.Proofs.YtbcnhcpgloncdaaGreatDoor
