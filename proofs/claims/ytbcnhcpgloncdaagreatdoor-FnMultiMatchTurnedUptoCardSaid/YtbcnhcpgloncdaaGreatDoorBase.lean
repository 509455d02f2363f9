/-
  THE WORDS OF THE PROOF: trees as plain Lean data, how a value stands for a tree in a world, and that it goes on standing for it while other blocks are written.
-/
import Derived.Test.YtbcnhcpgloncdaaGreatDoorProg
import Derived.WalkKit
import Derived.WalkSpells
import Derived.WalkLawsBesides
import Derived.Handy
import Derived.Lib.Hide
namespace Go.Proofs.YtbcnhcpgloncdaaGreatDoor
open Go.RowKit

theorem ret_int {k : IntKind} {a b : Int} (h : a = b) : Ending.returned (.int k a) = .returned (.int k b) := by rw [h]
theorem ret_bool {a b : Bool} (h : a = b) : Ending.returned (.bool a) = .returned (.bool b) := by rw [h]
/-- A fact that the walk does not see. -/
theorem hide {p : Prop} (h : p) : Hid p := h
theorem ret_string {a b : ByteArray} (h : a = b) : Ending.returned (.string a) = .returned (.string b) := by rw [h]
/-- Old cells and old marks read as before. -/
theorem bcell {W w1 : World} (hb : Below W.heap.size W w1) : (∀ b o, b < W.heap.size → w1.cell? ⟨b, o, none⟩ = W.cell? ⟨b, o, none⟩) ∧ (∀ b o, b < W.heap.size → w1.frozen? ⟨b, o, none⟩ = W.frozen? ⟨b, o, none⟩) :=
  ⟨fun b o h => hb.cell (p := ⟨b, o, none⟩) h, fun b o h => hb.frozen (p := ⟨b, o, none⟩) h⟩

section
variable {P : Program} {w : World} {a : Addr} {m : Mode}
@[go_sem] theorem run_store_float (k : FloatKind) (n : Nat) : (store a (.float k n) m).run P w = stored P w a (.float k n) m := run_store P w a _ m rfl
@[go_sem] theorem run_store_map (r : Option Nat) : (store a (.map r) m).run P w = stored P w a (.map r) m := run_store P w a _ m rfl
@[go_sem] theorem run_store_nilIface : (store a .nilIface m).run P w = stored P w a .nilIface m := run_store P w a _ m rfl
@[go_sem] theorem run_store_iface (t : TypeId) (v : Value) : (store a (.iface t v) m).run P w = stored P w a (.iface t v) m := run_store P w a _ m rfl
end

/-- Texts are compared as the walk compares them. -/
abbrev eqB (a b : ByteArray) : Bool := a.toList == b.toList
theorem eqB_iff (a b : ByteArray) : eqB a b = true ↔ a = b := by
  unfold eqB
  rw [beq_iff_eq, ByteArray.toList_eq, ByteArray.toList_eq]
  constructor
  · intro h
    cases a with | mk da => cases b with | mk db => exact congrArg ByteArray.mk (Array.toList_inj.1 h)
  · rintro rfl; rfl
theorem eqB_false (a b : ByteArray) : eqB a b = false ↔ a ≠ b := by
  rw [Ne, ← eqB_iff a b, Bool.not_eq_true]

theorem eqB_mk (s : ByteArray) (l : List UInt8) : eqB s ⟨l.toArray⟩ = (s.toList == l) := congrArg (fun x => s.toList == x) (ByteArray.toList_mk l)

/-- A tree: its kind, text, number (the bits), yes, keys and kids. -/
inductive T where
  | mk (kind : Int) (text : ByteArray) (num : Nat) (yes : Bool) (keys : List ByteArray) (kids : List T)
deriving Inhabited

namespace T
def kind : T → Int | mk k _ _ _ _ _ => k
def text : T → ByteArray | mk _ t _ _ _ _ => t
def num : T → Nat | mk _ _ n _ _ _ => n
def yes : T → Bool | mk _ _ _ y _ _ => y
def keys : T → List ByteArray | mk _ _ _ _ ks _ => ks
def kids : T → List T | mk _ _ _ _ _ ts => ts
end T

/-- A slice value that holds texts. -/
def StrsAt (w : World) (ok : Nat → Prop) (v : Value) (ks : List ByteArray) : Prop :=
  ∃ a cap, v = .slice a ks.length cap ∧ ks.length ≤ cap ∧ ∀ i k, ks[i]? = some k → ∃ b o, a = some ⟨b, o, none⟩ ∧ ok b ∧ w.cell? ⟨b, o + i, none⟩ = some (.string k)

/-- A value that stands for a tree; 'ok' holds of each block that it lies in. -/
inductive TreeAt (w : World) (ok : Nat → Prop) : Value → T → Prop where
  | mk {k : Int} {t : ByteArray} {n : Nat} {y : Bool} {ks : List ByteArray} {ts : List T} {sk : Value} {a : Option Addr} {cap : Nat} (c : Nat → Nat → Value)
    (hk : StrsAt w ok sk ks) (hcap : ts.length ≤ cap)
    (hcell : ∀ i, i < ts.length → ∃ b o, a = some ⟨b, o, none⟩ ∧ ok b ∧ ∀ j, j < 6 → w.cell? ⟨b, o + i * 6 + j, none⟩ = some (c i j))
    (hts : ∀ i t', ts[i]? = some t' → TreeAt w ok (.agg #[c i 0, c i 1, c i 2, c i 3, c i 4, c i 5]) t') :
    TreeAt w ok (.agg #[.int .i64 k, .string t, .float .f64 n, .bool y, sk, .slice a ts.length cap]) (.mk k t n y ks ts)

/-- The blocks of 'ok' are as they were. -/
def Same (ok : Nat → Prop) (w w' : World) : Prop := ∀ k, ok k → k < w.heap.size → w'.heap[k]? = w.heap[k]?

theorem Same.cell {ok : Nat → Prop} {w w' : World} (h : Same ok w w') {b i : Nat} {v : Value} (hb : ok b) (hc : w.cell? ⟨b, i, none⟩ = some v) : w'.cell? ⟨b, i, none⟩ = some v := by
  have hlt := World.block_lt_of_cell? w _ hc
  rw [World.cell?_of_block (w := w) (h b hb hlt)]; exact hc

theorem StrsAt.same {ok : Nat → Prop} {w w' : World} (h : Same ok w w') {v : Value} {ks : List ByteArray} (hs : StrsAt w ok v ks) : StrsAt w' ok v ks := by
  obtain ⟨a, cap, rfl, hle, hc⟩ := hs
  refine ⟨a, cap, rfl, hle, fun i k hi => ?_⟩
  obtain ⟨b, o, rfl, hb, hcell⟩ := hc i k hi
  exact ⟨b, o, rfl, hb, h.cell hb hcell⟩

theorem StrsAt.weaken {ok ok' : Nat → Prop} {w : World} (h : ∀ k, ok k → k < w.heap.size → ok' k) {v : Value} {ks : List ByteArray} (hs : StrsAt w ok v ks) : StrsAt w ok' v ks := by
  obtain ⟨a, cap, rfl, hle, hc⟩ := hs
  refine ⟨a, cap, rfl, hle, fun i k hi => ?_⟩
  obtain ⟨b, o, rfl, hb, hcell⟩ := hc i k hi
  exact ⟨b, o, rfl, h b hb (World.block_lt_of_cell? w _ hcell), hcell⟩

theorem TreeAt.same {ok : Nat → Prop} {w w' : World} (h : Same ok w w') {v : Value} {t : T} (ht : TreeAt w ok v t) : TreeAt w' ok v t := by
  induction ht with
  | mk c hk hle hcell _ ih =>
    refine .mk c (hk.same h) hle (fun i hi => ?_) ih
    obtain ⟨b, o, rfl, hb, hc⟩ := hcell i hi
    exact ⟨b, o, rfl, hb, fun j hj => h.cell hb (hc j hj)⟩

theorem TreeAt.weaken {ok ok' : Nat → Prop} {w : World} (h : ∀ k, ok k → k < w.heap.size → ok' k) {v : Value} {t : T} (ht : TreeAt w ok v t) : TreeAt w ok' v t := by
  induction ht with
  | mk c hk hle hcell _ ih =>
    refine .mk c (hk.weaken h) hle (fun i hi => ?_) ih
    obtain ⟨b, o, rfl, hb, hc⟩ := hcell i hi
    exact ⟨b, o, rfl, h b hb (World.block_lt_of_cell? w _ (hc 0 (by omega))), hc⟩

/-- What lies behind a call that has turned nothing that was there. -/
theorem Same.of_below {ok : Nat → Prop} {w w' : World} (h : Below w.heap.size w w') : Same ok w w' := fun k _ hk => h.block k hk

/-- A tree of no kids and no keys. -/
theorem TreeAt.leaf (w : World) (ok : Nat → Prop) (k : Int) (t : ByteArray) (n : Nat) (y : Bool) (a a' : Option Addr) (cap cap' : Nat) :
    TreeAt w ok (.agg #[.int .i64 k, .string t, .float .f64 n, .bool y, .slice a 0 cap, .slice a' 0 cap']) (.mk k t n y [] []) :=
  TreeAt.mk (ts := []) (fun _ _ => .nilIface) ⟨a, cap, rfl, Nat.zero_le _, fun i k h => by simp at h⟩ (Nat.zero_le _) (fun i hi => by simp at hi) (fun i t' h => by simp at h)

/-- A tree's value, taken apart. -/
theorem TreeAt.open {w : World} {ok : Nat → Prop} {v : Value} {t : T} (h : TreeAt w ok v t) :
    ∃ (a : Option Addr) (cap : Nat) (a' : Option Addr) (cap' : Nat) (c : Nat → Nat → Value), v = .agg #[.int .i64 t.kind, .string t.text, .float .f64 t.num, .bool t.yes, .slice a t.keys.length cap, .slice a' t.kids.length cap'] ∧ t.keys.length ≤ cap ∧ t.kids.length ≤ cap' ∧
      (∀ i k, t.keys[i]? = some k → ∃ b o, a = some ⟨b, o, none⟩ ∧ ok b ∧ w.cell? ⟨b, o + i, none⟩ = some (.string k)) ∧
      (∀ i, i < t.kids.length → ∃ b o, a' = some ⟨b, o, none⟩ ∧ ok b ∧ ∀ j, j < 6 → w.cell? ⟨b, o + i * 6 + j, none⟩ = some (c i j)) ∧
      (∀ i t', t.kids[i]? = some t' → TreeAt w ok (.agg #[c i 0, c i 1, c i 2, c i 3, c i 4, c i 5]) t') := by
  cases h with
  | mk c hk hle hcell hts =>
    obtain ⟨a, cap, rfl, hk1, hc⟩ := hk
    exact ⟨a, cap, _, _, c, rfl, hk1, hle, hc, hcell, hts⟩

/-- .. and put together. -/
theorem TreeAt.shut {w : World} {ok : Nat → Prop} {t : T} {a a' : Option Addr} {cap cap' : Nat} (c : Nat → Nat → Value) (h1 : t.keys.length ≤ cap) (h2 : t.kids.length ≤ cap')
    (hc : ∀ i k, t.keys[i]? = some k → ∃ b o, a = some ⟨b, o, none⟩ ∧ ok b ∧ w.cell? ⟨b, o + i, none⟩ = some (.string k))
    (hcell : ∀ i, i < t.kids.length → ∃ b o, a' = some ⟨b, o, none⟩ ∧ ok b ∧ ∀ j, j < 6 → w.cell? ⟨b, o + i * 6 + j, none⟩ = some (c i j))
    (hts : ∀ i t', t.kids[i]? = some t' → TreeAt w ok (.agg #[c i 0, c i 1, c i 2, c i 3, c i 4, c i 5]) t') :
    TreeAt w ok (.agg #[.int .i64 t.kind, .string t.text, .float .f64 t.num, .bool t.yes, .slice a t.keys.length cap, .slice a' t.kids.length cap']) t := by
  cases t with
  | mk k tx n y ks ts => exact TreeAt.mk c ⟨a, cap, rfl, h1, hc⟩ h2 hcell hts

/-- A setting: its name and its value. -/
structure S where
  name : ByteArray
  value : T
deriving Inhabited

/-- A slice value that holds settings. -/
def SetsAt (w : World) (ok : Nat → Prop) (v : Value) (ss : List S) : Prop :=
  ∃ (a : Option Addr) (cap : Nat) (c : Nat → Nat → Value), v = .slice a ss.length cap ∧ ss.length ≤ cap ∧
    (∀ i, i < ss.length → ∃ b o, a = some ⟨b, o, none⟩ ∧ ok b ∧ ∀ j, j < 7 → w.cell? ⟨b, o + i * 7 + j, none⟩ = some (c i j)) ∧
    ∀ i s, ss[i]? = some s → c i 0 = .string s.name ∧ TreeAt w ok (.agg #[c i 1, c i 2, c i 3, c i 4, c i 5, c i 6]) s.value

theorem SetsAt.same {ok : Nat → Prop} {w w' : World} (h : Same ok w w') {v : Value} {ss : List S} (hs : SetsAt w ok v ss) : SetsAt w' ok v ss := by
  obtain ⟨a, cap, c, rfl, hle, hc, ht⟩ := hs
  refine ⟨a, cap, c, rfl, hle, fun i hi => ?_, fun i s hi => ⟨(ht i s hi).1, (ht i s hi).2.same h⟩⟩
  obtain ⟨b, o, rfl, hb, hcell⟩ := hc i hi
  exact ⟨b, o, rfl, hb, fun j hj => h.cell hb (hcell j hj)⟩

theorem SetsAt.weaken {ok ok' : Nat → Prop} {w : World} (h : ∀ k, ok k → k < w.heap.size → ok' k) {v : Value} {ss : List S} (hs : SetsAt w ok v ss) : SetsAt w ok' v ss := by
  obtain ⟨a, cap, c, rfl, hle, hc, ht⟩ := hs
  refine ⟨a, cap, c, rfl, hle, fun i hi => ?_, fun i s hi => ⟨(ht i s hi).1, (ht i s hi).2.weaken h⟩⟩
  obtain ⟨b, o, rfl, hb, hcell⟩ := hc i hi
  exact ⟨b, o, rfl, h b hb (World.block_lt_of_cell? w _ (hcell 0 (by omega))), hcell⟩

/-! What calls come to: behind definitions, so that the walk does not take them apart. -/
def RetBool (w : World) (b : Bool) (e : Ending) (w' : World) : Prop := e = .returned (.bool b) ∧ Below w.heap.size w w'
def SomeBool (w : World) (e : Ending) (w' : World) : Prop := ∃ b, e = .returned (.bool b) ∧ Below w.heap.size w w'
def RetTree (ok : Nat → Prop) (w : World) (t : T) (e : Ending) (w' : World) : Prop := ∃ v, e = .returned v ∧ TreeAt w' ok v t ∧ Below w.heap.size w w'
/-- A tree, if there is one, and whether there is. -/
def RetMaybe (ok : Nat → Prop) (w : World) (m : Option T) (e : Ending) (w' : World) : Prop :=
  ∃ v t, e = .returned (.tuple #[v, .bool m.isSome]) ∧ TreeAt w' ok v t ∧ (∀ u, m = some u → t = u) ∧ Below w.heap.size w w'
def RetStrs (ok : Nat → Prop) (w : World) (ks : List ByteArray) (e : Ending) (w' : World) : Prop := ∃ v, e = .returned v ∧ StrsAt w' ok v ks ∧ Below w.heap.size w w'
def RetSets (ok : Nat → Prop) (w : World) (ss : List S) (e : Ending) (w' : World) : Prop := ∃ v, e = .returned v ∧ SetsAt w' ok v ss ∧ Below w.heap.size w w'

end Go.Proofs.YtbcnhcpgloncdaaGreatDoor
