/-
  THE WORDS OF THE PROOF: trees as plain Lean data, how a value stands for a tree in a world, and that it goes on standing for it while other blocks are written.
-/
import Derived.Test.YtbcnhcpgloncdaaGreatDoorProg
import Derived.WalkKit
import Derived.WalkSpells
import Derived.WalkLawsBesides
import Derived.Handy
import Derived.Lib.Hide
import Derived.Deep.RegionHeld3
import Derived.BigQuiet
import Derived.Deep.QuietTactic
import Derived.Lib.QuietBelow
import Derived.StillTailTactics
namespace Go.Proofs.YtbcnhcpgloncdaaGreatDoor
open Go.RowKit

theorem ret_int {k : IntKind} {a b : Int} (h : a = b) : Ending.returned (.int k a) = .returned (.int k b) := by rw [h]
theorem ret_bool {a b : Bool} (h : a = b) : Ending.returned (.bool a) = .returned (.bool b) := by rw [h]
/-- A fact that the walk does not see. -/
theorem hide {p : Prop} (h : p) : Hid p := h
theorem ret_string {a b : ByteArray} (h : a = b) : Ending.returned (.string a) = .returned (.string b) := by rw [h]
/-- Old cells and old marks read as before. -/
theorem bcell {W w1 : World} (hb : Below W.heap.size W w1) : (∀ b o, b < W.heap.size → w1.cell? ⟨b, o, none⟩ = W.cell? ⟨b, o, none⟩) ∧ (∀ b o, b < W.heap.size → w1.frozen? ⟨b, o, none⟩ = W.frozen? ⟨b, o, none⟩) :=
  ⟨fun b o h => hb.cell (p := ⟨b, o, none⟩) h, fun b o h => hb.frozen (p := ⟨b, o, none⟩) h⟩

section
variable {P : Program} {w : World} {a : Addr} {m : Mode}
@[go_sem] theorem run_store_float (k : FloatKind) (n : Nat) : (store a (.float k n) m).run P w = stored P w a (.float k n) m := run_store P w a _ m rfl
@[go_sem] theorem run_store_map (r : Option Nat) : (store a (.map r) m).run P w = stored P w a (.map r) m := run_store P w a _ m rfl
@[go_sem] theorem run_store_nilIface : (store a .nilIface m).run P w = stored P w a .nilIface m := run_store P w a _ m rfl
@[go_sem] theorem run_store_iface (t : TypeId) (v : Value) : (store a (.iface t v) m).run P w = stored P w a (.iface t v) m := run_store P w a _ m rfl
end

/-- Texts are compared as the walk compares them. -/
abbrev eqB (a b : ByteArray) : Bool := a.toList == b.toList
theorem eqB_iff (a b : ByteArray) : eqB a b = true ↔ a = b := by
  unfold eqB
  rw [beq_iff_eq, ByteArray.toList_eq, ByteArray.toList_eq]
  constructor
  · intro h
    cases a with | mk da => cases b with | mk db => exact congrArg ByteArray.mk (Array.toList_inj.1 h)
  · rintro rfl; rfl
theorem eqB_false (a b : ByteArray) : eqB a b = false ↔ a ≠ b := by
  rw [Ne, ← eqB_iff a b, Bool.not_eq_true]

theorem eqB_mk (s : ByteArray) (l : List UInt8) : eqB s ⟨l.toArray⟩ = (s.toList == l) := congrArg (fun x => s.toList == x) (ByteArray.toList_mk l)

/-- A tree: its kind, text, number (the bits), yes, keys and kids. -/
inductive T where
  | mk (kind : Int) (text : ByteArray) (num : Nat) (yes : Bool) (keys : List ByteArray) (kids : List T)
deriving Inhabited

namespace T
def kind : T → Int | mk k _ _ _ _ _ => k
def text : T → ByteArray | mk _ t _ _ _ _ => t
def num : T → Nat | mk _ _ n _ _ _ => n
def yes : T → Bool | mk _ _ _ y _ _ => y
def keys : T → List ByteArray | mk _ _ _ _ ks _ => ks
def kids : T → List T | mk _ _ _ _ _ ts => ts
end T

/-- A slice value that holds texts. -/
def StrsAt (w : World) (ok : Nat → Prop) (v : Value) (ks : List ByteArray) : Prop :=
  ∃ a cap, v = .slice a ks.length cap ∧ ks.length ≤ cap ∧ ∀ i k, ks[i]? = some k → ∃ b o, a = some ⟨b, o, none⟩ ∧ ok b ∧ w.cell? ⟨b, o + i, none⟩ = some (.string k)

/-- A value that stands for a tree; 'ok' holds of each block that it lies in. -/
inductive TreeAt (w : World) (ok : Nat → Prop) : Value → T → Prop where
  | mk {k : Int} {t : ByteArray} {n : Nat} {y : Bool} {ks : List ByteArray} {ts : List T} {sk : Value} {a : Option Addr} {cap : Nat} (c : Nat → Nat → Value)
    (hk : StrsAt w ok sk ks) (hcap : ts.length ≤ cap)
    (hcell : ∀ i, i < ts.length → ∃ b o, a = some ⟨b, o, none⟩ ∧ ok b ∧ ∀ j, j < 6 → w.cell? ⟨b, o + i * 6 + j, none⟩ = some (c i j))
    (hts : ∀ i t', ts[i]? = some t' → TreeAt w ok (.agg #[c i 0, c i 1, c i 2, c i 3, c i 4, c i 5]) t') :
    TreeAt w ok (.agg #[.int .i64 k, .string t, .float .f64 n, .bool y, sk, .slice a ts.length cap]) (.mk k t n y ks ts)

/-- The blocks of 'ok' are as they were. -/
def Same (ok : Nat → Prop) (w w' : World) : Prop := ∀ k, ok k → k < w.heap.size → w'.heap[k]? = w.heap[k]?

theorem Same.cell {ok : Nat → Prop} {w w' : World} (h : Same ok w w') {b i : Nat} {v : Value} (hb : ok b) (hc : w.cell? ⟨b, i, none⟩ = some v) : w'.cell? ⟨b, i, none⟩ = some v := by
  have hlt := World.block_lt_of_cell? w _ hc
  rw [World.cell?_of_block (w := w) (h b hb hlt)]; exact hc

theorem StrsAt.same {ok : Nat → Prop} {w w' : World} (h : Same ok w w') {v : Value} {ks : List ByteArray} (hs : StrsAt w ok v ks) : StrsAt w' ok v ks := by
  obtain ⟨a, cap, rfl, hle, hc⟩ := hs
  refine ⟨a, cap, rfl, hle, fun i k hi => ?_⟩
  obtain ⟨b, o, rfl, hb, hcell⟩ := hc i k hi
  exact ⟨b, o, rfl, hb, h.cell hb hcell⟩

theorem StrsAt.weaken {ok ok' : Nat → Prop} {w : World} (h : ∀ k, ok k → k < w.heap.size → ok' k) {v : Value} {ks : List ByteArray} (hs : StrsAt w ok v ks) : StrsAt w ok' v ks := by
  obtain ⟨a, cap, rfl, hle, hc⟩ := hs
  refine ⟨a, cap, rfl, hle, fun i k hi => ?_⟩
  obtain ⟨b, o, rfl, hb, hcell⟩ := hc i k hi
  exact ⟨b, o, rfl, h b hb (World.block_lt_of_cell? w _ hcell), hcell⟩

theorem TreeAt.same {ok : Nat → Prop} {w w' : World} (h : Same ok w w') {v : Value} {t : T} (ht : TreeAt w ok v t) : TreeAt w' ok v t := by
  induction ht with
  | mk c hk hle hcell _ ih =>
    refine .mk c (hk.same h) hle (fun i hi => ?_) ih
    obtain ⟨b, o, rfl, hb, hc⟩ := hcell i hi
    exact ⟨b, o, rfl, hb, fun j hj => h.cell hb (hc j hj)⟩

theorem TreeAt.weaken {ok ok' : Nat → Prop} {w : World} (h : ∀ k, ok k → k < w.heap.size → ok' k) {v : Value} {t : T} (ht : TreeAt w ok v t) : TreeAt w ok' v t := by
  induction ht with
  | mk c hk hle hcell _ ih =>
    refine .mk c (hk.weaken h) hle (fun i hi => ?_) ih
    obtain ⟨b, o, rfl, hb, hc⟩ := hcell i hi
    exact ⟨b, o, rfl, h b hb (World.block_lt_of_cell? w _ (hc 0 (by omega))), hc⟩

/-- What lies behind a call that has turned nothing that was there. -/
theorem Same.of_below {ok : Nat → Prop} {w w' : World} (h : Below w.heap.size w w') : Same ok w w' := fun k _ hk => h.block k hk

/-- A tree of no kids and no keys. -/
theorem TreeAt.leaf (w : World) (ok : Nat → Prop) (k : Int) (t : ByteArray) (n : Nat) (y : Bool) (a a' : Option Addr) (cap cap' : Nat) :
    TreeAt w ok (.agg #[.int .i64 k, .string t, .float .f64 n, .bool y, .slice a 0 cap, .slice a' 0 cap']) (.mk k t n y [] []) :=
  TreeAt.mk (ts := []) (fun _ _ => .nilIface) ⟨a, cap, rfl, Nat.zero_le _, fun i k h => by simp at h⟩ (Nat.zero_le _) (fun i hi => by simp at hi) (fun i t' h => by simp at h)

/-- A tree's value, taken apart. -/
theorem TreeAt.open {w : World} {ok : Nat → Prop} {v : Value} {t : T} (h : TreeAt w ok v t) :
    ∃ (a : Option Addr) (cap : Nat) (a' : Option Addr) (cap' : Nat) (c : Nat → Nat → Value), v = .agg #[.int .i64 t.kind, .string t.text, .float .f64 t.num, .bool t.yes, .slice a t.keys.length cap, .slice a' t.kids.length cap'] ∧ t.keys.length ≤ cap ∧ t.kids.length ≤ cap' ∧
      (∀ i k, t.keys[i]? = some k → ∃ b o, a = some ⟨b, o, none⟩ ∧ ok b ∧ w.cell? ⟨b, o + i, none⟩ = some (.string k)) ∧
      (∀ i, i < t.kids.length → ∃ b o, a' = some ⟨b, o, none⟩ ∧ ok b ∧ ∀ j, j < 6 → w.cell? ⟨b, o + i * 6 + j, none⟩ = some (c i j)) ∧
      (∀ i t', t.kids[i]? = some t' → TreeAt w ok (.agg #[c i 0, c i 1, c i 2, c i 3, c i 4, c i 5]) t') := by
  cases h with
  | mk c hk hle hcell hts =>
    obtain ⟨a, cap, rfl, hk1, hc⟩ := hk
    exact ⟨a, cap, _, _, c, rfl, hk1, hle, hc, hcell, hts⟩

/-- .. and put together. -/
theorem TreeAt.shut {w : World} {ok : Nat → Prop} {t : T} {a a' : Option Addr} {cap cap' : Nat} (c : Nat → Nat → Value) (h1 : t.keys.length ≤ cap) (h2 : t.kids.length ≤ cap')
    (hc : ∀ i k, t.keys[i]? = some k → ∃ b o, a = some ⟨b, o, none⟩ ∧ ok b ∧ w.cell? ⟨b, o + i, none⟩ = some (.string k))
    (hcell : ∀ i, i < t.kids.length → ∃ b o, a' = some ⟨b, o, none⟩ ∧ ok b ∧ ∀ j, j < 6 → w.cell? ⟨b, o + i * 6 + j, none⟩ = some (c i j))
    (hts : ∀ i t', t.kids[i]? = some t' → TreeAt w ok (.agg #[c i 0, c i 1, c i 2, c i 3, c i 4, c i 5]) t') :
    TreeAt w ok (.agg #[.int .i64 t.kind, .string t.text, .float .f64 t.num, .bool t.yes, .slice a t.keys.length cap, .slice a' t.kids.length cap']) t := by
  cases t with
  | mk k tx n y ks ts => exact TreeAt.mk c ⟨a, cap, rfl, h1, hc⟩ h2 hcell hts

/-- A setting: its name and its value. -/
structure S where
  name : ByteArray
  value : T
deriving Inhabited

/-- A slice value that holds settings. -/
def SetsAt (w : World) (ok : Nat → Prop) (v : Value) (ss : List S) : Prop :=
  ∃ (a : Option Addr) (cap : Nat) (c : Nat → Nat → Value), v = .slice a ss.length cap ∧ ss.length ≤ cap ∧
    (∀ i, i < ss.length → ∃ b o, a = some ⟨b, o, none⟩ ∧ ok b ∧ ∀ j, j < 7 → w.cell? ⟨b, o + i * 7 + j, none⟩ = some (c i j)) ∧
    ∀ i s, ss[i]? = some s → c i 0 = .string s.name ∧ TreeAt w ok (.agg #[c i 1, c i 2, c i 3, c i 4, c i 5, c i 6]) s.value

theorem SetsAt.same {ok : Nat → Prop} {w w' : World} (h : Same ok w w') {v : Value} {ss : List S} (hs : SetsAt w ok v ss) : SetsAt w' ok v ss := by
  obtain ⟨a, cap, c, rfl, hle, hc, ht⟩ := hs
  refine ⟨a, cap, c, rfl, hle, fun i hi => ?_, fun i s hi => ⟨(ht i s hi).1, (ht i s hi).2.same h⟩⟩
  obtain ⟨b, o, rfl, hb, hcell⟩ := hc i hi
  exact ⟨b, o, rfl, hb, fun j hj => h.cell hb (hcell j hj)⟩

theorem SetsAt.weaken {ok ok' : Nat → Prop} {w : World} (h : ∀ k, ok k → k < w.heap.size → ok' k) {v : Value} {ss : List S} (hs : SetsAt w ok v ss) : SetsAt w ok' v ss := by
  obtain ⟨a, cap, c, rfl, hle, hc, ht⟩ := hs
  refine ⟨a, cap, c, rfl, hle, fun i hi => ?_, fun i s hi => ⟨(ht i s hi).1, (ht i s hi).2.weaken h⟩⟩
  obtain ⟨b, o, rfl, hb, hcell⟩ := hc i hi
  exact ⟨b, o, rfl, h b hb (World.block_lt_of_cell? w _ (hcell 0 (by omega))), hcell⟩

/-! What calls come to: behind definitions, so that the walk does not take them apart. -/
def RetBool (w : World) (b : Bool) (e : Ending) (w' : World) : Prop := e = .returned (.bool b) ∧ Below w.heap.size w w'
def SomeBool (w : World) (e : Ending) (w' : World) : Prop := ∃ b, e = .returned (.bool b) ∧ Below w.heap.size w w'
def RetTree (ok : Nat → Prop) (w : World) (t : T) (e : Ending) (w' : World) : Prop := ∃ v, e = .returned v ∧ TreeAt w' ok v t ∧ Below w.heap.size w w'
/-- A tree, if there is one, and whether there is. -/
def RetMaybe (ok : Nat → Prop) (w : World) (m : Option T) (e : Ending) (w' : World) : Prop :=
  ∃ v t, e = .returned (.tuple #[v, .bool m.isSome]) ∧ TreeAt w' ok v t ∧ (∀ u, m = some u → t = u) ∧ Below w.heap.size w w'
def RetStrs (ok : Nat → Prop) (w : World) (ks : List ByteArray) (e : Ending) (w' : World) : Prop := ∃ v, e = .returned v ∧ StrsAt w' ok v ks ∧ Below w.heap.size w w'
def RetSets (ok : Nat → Prop) (w : World) (ss : List S) (e : Ending) (w' : World) : Prop := ∃ v, e = .returned v ∧ SetsAt w' ok v ss ∧ Below w.heap.size w w'

end Go.Proofs.YtbcnhcpgloncdaaGreatDoor

/-
  FLOATS: what the walk meets of them: x - x, x * 64, comparisons; a NaN draws its bits.
-/
namespace Go.Proofs.YtbcnhcpgloncdaaGreatDoor
open Go.RowKit
open Ieee (Datum)

abbrev dbl : Ieee.Format := Ieee.double

/-- A number of JSON: no infinity and no NaN. -/
def fin (n : Nat) : Bool := (dbl.sub n n).isSome

theorem sub_self_some {n r : Nat} (h : dbl.sub n n = some r) : r = 0 := by
  unfold Ieee.Format.sub at h
  cases hr : dbl.read n with
  | number s m i =>
    rw [hr] at h
    have e : Ieee.signed s m (i - i).toNat + Ieee.signed (!s) m (i - i).toNat = 0 := by
      cases s <;> simp [Ieee.signed] <;> omega
    simp only [Datum.opposite, Datum.sum, Int.min_self, e, if_true, Option.map_some, Int.natAbs_zero, Ieee.Format.write, Ieee.Format.nearest] at h
    cases s <;> simp [Ieee.Format.word] at h <;> exact h.symm
  | infinity s => rw [hr] at h; cases s <;> simp [Datum.opposite, Datum.sum] at h
  | nan s f => rw [hr] at h; simp [Datum.sum] at h

/-- The bits of a NaN that a draw gives. -/
def nanOf (t : Nat) : Nat := (t % 2) * 2 ^ 63 + 0x7ff0000000000000 + 1 + (t / 2) % (2 ^ 52 - 1)

theorem read_nanOf (t : Nat) : (dbl.read (nanOf t)).isNaN = true := by
  have h1 : t % 2 < 2 := Nat.mod_lt _ (by omega)
  have h2 : (t / 2) % (2 ^ 52 - 1) < 2 ^ 52 - 1 := Nat.mod_lt _ (by omega)
  unfold nanOf Ieee.Format.read
  generalize (t / 2) % (2 ^ 52 - 1) = q at *
  generalize t % 2 = s at *
  have e1 : dbl.signWeight = 2 ^ 63 := rfl
  have e2 : dbl.binade = 2 ^ 52 := rfl
  have e3 : dbl.infRung = 0x7ff0000000000000 := rfl
  rw [e1, e2, e3]
  have e4 : (s * 2 ^ 63 + 0x7ff0000000000000 + 1 + q) % 2 ^ 63 = 0x7ff0000000000000 + 1 + q := by omega
  rw [e4]
  dsimp only
  rw [if_neg (by omega), if_neg (by omega), if_neg (by omega)]
  rfl

theorem order_nan_left {x y : Nat} (h : (dbl.read x).isNaN = true) : dbl.order x y = none := by
  unfold Ieee.Format.order
  cases hr : dbl.read x <;> rw [hr] at h <;> simp_all [Datum.isNaN, Datum.order]

section
variable {P : Program} (w : World)
theorem run_float_nan (op : BinOp) (t : TypeId) (x y : Nat) (hop : op = .add ∨ op = .sub ∨ op = .mul ∨ op = .quo) (h : floatBits op .f64 x y = none) :
    (binOp op t (.float .f64 x) (.float .f64 y)).run P w = .ok (.float .f64 (nanOf (w.tape w.drawn (.nanBits .f64 x y)))) w.drew := by
  rcases hop with rfl | rfl | rfl | rfl
  all_goals
    unfold floatBits at h
    simp only at h
    simp [binOp, Op.floatArith, h, choose, Sem.run, Question.forced]
    rfl
end

set_option maxHeartbeats 400000 in
theorem finite_any (n : Nat) (w : World) : Calls Tryz.prog 26 #[.float .f64 n] w (RetBool w (fin n)) := by
  unfold fin
  cases h : dbl.sub n n with
  | some r =>
    obtain rfl := sub_self_some h
    have hr : ∀ (t : TypeId) (w : World), (binOp .sub t (.float .f64 n) (.float .f64 n)).run Tryz.prog w = .ok (.float .f64 0) w := fun t w => run_float_arith (P := Tryz.prog) w .sub t .f64 n n 0 h
    have h00 : FloatKind.f64.format.order 0 0 = some .eq := rfl
    clear h
    go_enter Tryz.func26, Tryz.ntmps26
    go_wp2
    go_returns
    exact ⟨rfl, by go_grown⟩
  | none =>
    have hr : ∀ (t : TypeId), (binOp .sub t (.float .f64 n) (.float .f64 n)).run Tryz.prog w = .ok (.float .f64 (nanOf (w.tape w.drawn (.nanBits .f64 n n)))) w.drew := fun t => run_float_nan (P := Tryz.prog) w .sub t n n (by simp) h
    clear h
    generalize w.tape w.drawn (.nanBits .f64 n n) = q at hr
    have hn := order_nan_left (y := 0) (read_nanOf q)
    generalize nanOf q = z at *
    have hn' : FloatKind.f64.format.order z 0 = none := hn
    clear hn
    go_enter Tryz.func26, Tryz.ntmps26
    go_wp2
    go_returns
    exact ⟨rfl, by go_grown⟩
end Go.Proofs.YtbcnhcpgloncdaaGreatDoor

/-
  THE CONTRACTS OF THE SMALL FUNCTIONS OF spec: what they come to, as plain Lean functions.
-/
namespace Go.Proofs.YtbcnhcpgloncdaaGreatDoor
open Go.RowKit

/-! ### place -/
def placeN (l : List UInt8) (c : Int) : Nat := l.findIdx (fun b => (b.toNat : Int) == c)
theorem placeN_le (l : List UInt8) (c : Int) : placeN l c ≤ l.length := List.findIdx_le_length
theorem placeN_step {l : List UInt8} {c : Int} {k : Nat} (h : k ≤ placeN l c) (hk : k < l.length) (hc : ((l[k].toNat : Int) == c) = false) : k + 1 ≤ placeN l c := by
  rcases Nat.lt_or_ge k (placeN l c) with h' | h'
  · omega
  · have e : placeN l c = k := by omega
    have := List.findIdx_getElem (xs := l) (p := fun b => (b.toNat : Int) == c) (w := by show placeN l c < _; omega)
    have e' : l.findIdx (fun b => (b.toNat : Int) == c) = k := e
    simp only [e'] at this
    rw [this] at hc; cases hc
theorem placeN_stop {l : List UInt8} {c : Int} {k : Nat} (h : k ≤ placeN l c) (hk : k < l.length) (hc : ((l[k].toNat : Int) == c) = true) : placeN l c = k := by
  rcases Nat.lt_or_ge k (placeN l c) with h' | h'
  · have := List.not_of_lt_findIdx (xs := l) (p := fun b => (b.toNat : Int) == c) h'
    exact absurd hc (by rw [this]; simp)
  · omega

set_option maxHeartbeats 400000 in
theorem place_any (s : ByteArray) (c : Int) (w : World) (hs : s.size ≤ maxLen) :
    Calls Tryz.prog 65 #[.string s, .int .u8 c] w fun e w' => e = .returned (.int .i64 (placeN s.data.toList c)) ∧ w' = w := by
  unfold maxLen at hs
  have hlen : s.data.toList.length = s.size := by simp
  go_enter Tryz.func65, Tryz.ntmps65
  go_wp2
  go_loop [5] (fun i => ∃ k : Nat, k ≤ placeN s.data.toList c ∧ k ≤ s.size ∧ i = .int .i64 k) (fun i => s.size - (intOf i).toNat)
  case atStart => exact ⟨0, Nat.zero_le _, Nat.zero_le _, rfl⟩
  case round =>
    obtain ⟨k, hk, hks, rfl⟩ := hrel
    by_cases hlt : k < s.size
    · cases hc : ((s[k].toNat : Int) == c)
      · have hn : ((s[k].toNat : Int) != c) = true := by simpa using hc
        have := placeN_step hk (by omega) hc
        go_wp2
        all_goals
          go_round
          case rel => exact ⟨k + 1, by omega, by omega, by go_num⟩
          case measure => simp [intOf]; omega
      · have hn : ((s[k].toNat : Int) != c) = false := by simpa using hc
        have H := Lib.hid (placeN_stop hk (by omega) hc)
        go_wp2
        go_ret
        exact ⟨ret_int (by rw [H.out]), rfl⟩
    · have hd : decide (k < s.size) = false := by simpa using hlt
      have := placeN_le s.data.toList c
      go_wp2
      go_ret
      exact ⟨ret_int (by omega), rfl⟩

/-! ### Last -/
/-- The last value of a name. -/
def lastS (ss : List S) (nm : ByteArray) : Option T := (ss.reverse.find? (fun s => eqB s.name nm)).map S.value

theorem lastS_hit {ss : List S} {nm : ByteArray} {k : Nat} (hk : k < ss.length) (hno : ∀ j s, k + 1 ≤ j → ss[j]? = some s → eqB s.name nm = false) (hn : eqB ss[k].name nm = true) : lastS ss nm = some ss[k].value := by
  unfold lastS
  have : ss.reverse.find? (fun s => eqB s.name nm) = some ss[k] := by
    have e : ss = ss.take k ++ ss[k] :: ss.drop (k + 1) := by rw [← List.drop_eq_getElem_cons hk, List.take_append_drop]
    have hd : (ss.drop (k + 1)).reverse.find? (fun s => eqB s.name nm) = none := by
      rw [List.find?_eq_none]
      intro x hx
      rw [List.mem_reverse, List.mem_iff_getElem?] at hx
      obtain ⟨j, hj⟩ := hx
      rw [List.getElem?_drop] at hj
      simpa using hno _ _ (by omega) hj
    conv => lhs; rw [e]
    rw [List.reverse_append, List.reverse_cons, List.append_assoc, List.find?_append, hd]
    simp [hn]
  rw [this]; rfl
theorem lastS_none {ss : List S} {nm : ByteArray} (hno : ∀ j s, 0 ≤ j → ss[j]? = some s → eqB s.name nm = false) : lastS ss nm = none := by
  unfold lastS
  have : ss.reverse.find? (fun s => eqB s.name nm) = none := by
    rw [List.find?_eq_none]
    intro x hx
    rw [List.mem_reverse, List.mem_iff_getElem?] at hx
    obtain ⟨j, hj⟩ := hx
    simpa using hno _ _ (by omega) hj
  rw [this]; rfl

set_option maxHeartbeats 400000 in
theorem last_any (ok : Nat → Prop) (ss : List S) (v : Value) (nm : ByteArray) (w : World) (hv : SetsAt w ok v ss) (hl : ss.length ≤ 4611686018427387904) :
    Calls Tryz.prog 29 #[v, .string nm] w (RetMaybe ok w (lastS ss nm)) := by
  obtain ⟨a, cap, c, rfl, hcap, hc, ht⟩ := hv
  go_enter Tryz.func29, Tryz.ntmps29
  go_wp2
  go_loop [6] (fun i => ∃ k : Nat, k ≤ ss.length ∧ i = .int .i64 ((k : Int) - 1) ∧ (∀ j s, k ≤ j → ss[j]? = some s → eqB s.name nm = false)) (fun i => (intOf i + 1).toNat)
  case atStart => exact ⟨ss.length, Nat.le_refl _, rfl, fun j s hj hs => by rw [List.getElem?_eq_none (by omega)] at hs; cases hs⟩
  case round =>
    obtain ⟨k, hk, rfl, hno⟩ := hrel
    have HNO := hide hno
    clear hno
    by_cases hlt : 0 < k
    · obtain ⟨k, rfl⟩ : ∃ k', k = k' + 1 := ⟨k - 1, by omega⟩
      obtain ⟨b, o, rfl, hb, hcell⟩ := hc k (by omega)
      obtain ⟨h0, htr⟩ := ht k ss[k] (by simp)
      have e0 := hcell 0 (by omega)
      have e1 := hcell 1 (by omega)
      have e2 := hcell 2 (by omega)
      have e3 := hcell 3 (by omega)
      have e4 := hcell 4 (by omega)
      have e5 := hcell 5 (by omega)
      have e6 := hcell 6 (by omega)
      obtain ⟨ka, kc, ta, tc, cc, hv6, -, -, hk1, hk2, hk3⟩ := htr.open
      rw [hv6] at htr
      simp only [Value.agg.injEq, Array.mk.injEq, List.cons.injEq, and_true] at hv6
      obtain ⟨v1, v2, v3, v4, v5, v6⟩ := hv6
      rw [h0] at e0
      rw [v1] at e1; rw [v2] at e2; rw [v3] at e3; rw [v4] at e4; rw [v5] at e5; rw [v6] at e6
      have hbl : b < w.heap.size := World.block_lt_of_cell? w _ e0
      rw [show ((k + 1 : Nat) : Int) - 1 = k by omega]
      have HT := hide htr
      clear hc ht hcell h0 htr v1 v2 v3 v4 v5 v6 hk1 hk2 hk3
      simp only [Nat.add_zero] at e0
      cases hn : eqB ss[k].name nm
      · go_wp2
        go_round
        case rel =>
          refine ⟨k, by omega, rfl, fun j s hj hs => ?_⟩
          rcases Nat.eq_or_lt_of_le hj with rfl | h
          · rw [List.getElem?_eq_getElem (by omega)] at hs; cases hs; exact hn
          · exact HNO.out j s (by omega) hs
        case measure => first | (simp [intOf]; done) | (simp [intOf]; omega)
      · have HF := hide (lastS_hit (by omega) HNO.out hn)
        go_wp2
        go_returns
        refine ⟨_, ss[k].value, by rw [HF.out]; rfl, HT.out.same (Same.of_below ?_), fun u hu => by rw [HF.out] at hu; exact Option.some.inj hu, ?_⟩
        all_goals go_grown
    · obtain rfl : k = 0 := by omega
      have HF := hide (lastS_none HNO.out)
      clear hc ht
      go_wp2
      go_returns
      refine ⟨_, .mk 0 ⟨#[]⟩ 0 false [] [], by rw [HF.out]; rfl, ?_, ?_, ?_⟩
      · exact TreeAt.leaf _ _ _ _ _ _ _ _ _ _
      · intro u hu; rw [HF.out] at hu; cases hu
      · go_grown

/-! ### Scalar -/
def scalarT (t : T) : Bool :=
  if t.keys.length ≠ 0 ∨ t.kids.length ≠ 0 then false
  else if t.kind = 1 then !t.text.toList.isEmpty
  else if t.kind = 2 then fin t.num
  else t.kind == 3

set_option maxHeartbeats 400000 in
theorem scalar_any (ok : Nat → Prop) (t : T) (v : Value) (w : World) (hv : TreeAt w ok v t) : Calls Tryz.prog 10 #[v] w (RetBool w (scalarT t)) := by
  obtain ⟨ka, kc, ta, tc, cc, rfl, -, -, -, -, -⟩ := hv.open
  have H := hide (show scalarT t = scalarT t from rfl)
  clear hv
  have key : ∀ b, scalarT t = b → Calls Tryz.prog 10 #[.agg #[.int .i64 t.kind, .string t.text, .float .f64 t.num, .bool t.yes, .slice ka t.keys.length kc, .slice ta t.kids.length tc]] w (RetBool w b) := by
    intro b hb
    unfold scalarT at hb
    have HB := hide hb
    clear hb
    generalize t.kind = k at *
    generalize t.keys.length = l at *
    generalize t.kids.length = m at *
    generalize t.text = tx at *
    generalize t.num = nn at *
    by_cases h1 : l = 0
    · subst h1
      by_cases h2 : m = 0
      · subst h2
        cases h3 : (k == 1)
        · cases h4 : (k == 2)
          · go_enter Tryz.func10, Tryz.ntmps10
            go_wp2
            go_returns
            refine ⟨ret_bool ?_, by go_grown⟩
            rw [← HB.out]
            simp at h3 h4
            simp [h3, h4]
          · go_enter Tryz.func10, Tryz.ntmps10
            go_wp2_with fail
            refine (finite_any nn _).mono ?_
            rintro e w' ⟨rfl, hb⟩
            go_wp2
            go_returns
            refine ⟨ret_bool ?_, (Below.alloc (Below.refl _ _) (Nat.le_refl _) _).trans (hb.mono (by simp))⟩
            rw [← HB.out]
            simp at h3 h4
            simp [h4]
        · go_enter Tryz.func10, Tryz.ntmps10
          go_wp2
          go_returns
          refine ⟨ret_bool ?_, by go_grown⟩
          rw [← HB.out]
          simp at h3
          simp [h3]
      · have h2' : 0 < m := by omega
        go_enter Tryz.func10, Tryz.ntmps10
        go_wp2
        go_returns
        refine ⟨ret_bool ?_, by go_grown⟩
        rw [← HB.out]
        simp [h2]
    · have h1' : 0 < l := by omega
      go_enter Tryz.func10, Tryz.ntmps10
      go_wp2
      go_returns
      refine ⟨ret_bool ?_, by go_grown⟩
      rw [← HB.out]
      simp [h1]
  exact key _ rfl

end Go.Proofs.YtbcnhcpgloncdaaGreatDoor

/-
  MORE CONTRACTS OF spec's SMALL FUNCTIONS: Has, Field, Fields, the sizes' look.
-/
namespace Go.Proofs.YtbcnhcpgloncdaaGreatDoor
open Go.RowKit

/-! ### Has -/
def hasB (ks : List ByteArray) (s : ByteArray) : Bool := ks.any (fun k => eqB k s)

theorem hasB_hit {ks : List ByteArray} {s : ByteArray} {k : Nat} (hk : k < ks.length) (h : eqB ks[k] s = true) : hasB ks s = true := by
  unfold hasB; rw [List.any_eq_true]; exact ⟨ks[k], List.getElem_mem hk, h⟩
theorem hasB_miss {ks : List ByteArray} {s : ByteArray} (h : ∀ (j : Nat) (k : ByteArray), ks[j]? = some k → eqB k s = false) : hasB ks s = false := by
  unfold hasB; rw [List.any_eq_false]; intro x hx
  obtain ⟨j, hj⟩ := List.mem_iff_getElem?.1 hx
  rw [h j x hj]; simp

set_option maxHeartbeats 400000 in
theorem has_any (ok : Nat → Prop) (ks : List ByteArray) (v : Value) (s : ByteArray) (w : World) (hv : StrsAt w ok v ks) (hl : ks.length ≤ 4611686018427387904) :
    Calls Tryz.prog 31 #[v, .string s] w fun e w' => e = .returned (.bool (hasB ks s)) ∧ w' = w := by
  obtain ⟨a, cap, rfl, hcap, hc⟩ := hv
  go_enter Tryz.func31, Tryz.ntmps31
  go_wp2
  go_loop [5] (fun i => ∃ k : Nat, k ≤ ks.length ∧ i = .int .i64 k ∧ (∀ j x, j < k → ks[j]? = some x → eqB x s = false)) (fun i => ks.length - (intOf i).toNat)
  case atStart => exact ⟨0, Nat.zero_le _, rfl, fun j x hj => absurd hj (by omega)⟩
  case round =>
    obtain ⟨k, hk, rfl, hno⟩ := hrel
    have HNO := hide hno
    clear hno
    by_cases hlt : k < ks.length
    · obtain ⟨b, o, rfl, hb, hcell⟩ := hc k ks[k] (by simp)
      clear hc
      cases hn : eqB ks[k] s
      · go_wp2
        go_round
        case rel =>
          refine ⟨k + 1, by omega, by go_num, fun j x hj hx => ?_⟩
          rcases Nat.lt_succ_iff_lt_or_eq.1 hj with h | rfl
          · exact HNO.out j x h hx
          · rw [List.getElem?_eq_getElem hlt] at hx; cases hx; exact hn
        case measure => simp [intOf]; omega
      · have HF := hide (hasB_hit hlt hn)
        go_wp2
        go_ret
        exact ⟨ret_bool (by rw [HF.out]), rfl⟩
    · have HF := hide (hasB_miss (ks := ks) (s := s) fun j x hx => HNO.out j x (by have := (List.getElem?_eq_some_iff.1 hx).1; omega) hx)
      clear hc
      go_wp2
      go_ret
      exact ⟨ret_bool (by rw [HF.out]), rfl⟩

/-! ### zzFits1, zzFits5: they return. -/
def SomeBoolSame (w : World) (e : Ending) (w' : World) : Prop := ∃ b, e = .returned (.bool b) ∧ w' = w

set_option maxHeartbeats 400000 in
theorem fits1_any (ok : Nat → Prop) (ks : List ByteArray) (v : Value) (w : World) (hv : StrsAt w ok v ks) (hl : ks.length ≤ 4611686018427387904) :
    Calls Tryz.prog 9 #[v] w (SomeBoolSame w) := by
  obtain ⟨a, cap, rfl, hcap, hc⟩ := hv
  by_cases hbig : 2147483647 < ks.length
  · clear hc
    go_enter Tryz.func9, Tryz.ntmps9
    go_wp2
    go_ret
    exact ⟨_, rfl, rfl⟩
  · go_enter Tryz.func9, Tryz.ntmps9
    go_wp2
    go_loop [10] (fun i => ∃ k : Nat, k ≤ ks.length ∧ i = .int .i64 k) (fun i => ks.length - (intOf i).toNat)
    case atStart => exact ⟨0, Nat.zero_le _, rfl⟩
    case round =>
      obtain ⟨k, hk, rfl⟩ := hrel
      by_cases hlt : k < ks.length
      · obtain ⟨b, o, rfl, hb, hcell⟩ := hc k ks[k] (by simp)
        clear hc
        by_cases hsz : 2147483647 < ks[k].size
        · go_wp2
          go_ret
          exact ⟨_, rfl, rfl⟩
        · go_wp2
          go_round
          case rel => exact ⟨k + 1, by omega, by go_num⟩
          case measure => simp [intOf]; omega
      · clear hc
        go_wp2
        go_ret
        exact ⟨_, rfl, rfl⟩

set_option maxHeartbeats 400000 in
theorem fits5_any (ok : Nat → Prop) (t : T) (v : Value) (w : World) (hv : TreeAt w ok v t) (hl : t.keys.length ≤ 4611686018427387904) :
    Calls Tryz.prog 8 #[v] w (SomeBool w) := by
  obtain ⟨ka, kc, ta, tc, cc, rfl, hkc, -, hk, -, -⟩ := hv.open
  have HK : Hid (StrsAt (w.alloc (.cells #[.int .i64 t.kind, .string t.text, .float .f64 t.num, .bool t.yes, .slice ka t.keys.length kc, .slice ta t.kids.length tc] 26)) ok (.slice ka t.keys.length kc) t.keys) :=
    hide (StrsAt.same (Same.of_below (by go_grown)) ⟨ka, kc, rfl, hkc, hk⟩)
  clear hk hv hkc
  generalize t.kind = k at *
  generalize t.keys = l at *
  generalize t.kids.length = m at *
  generalize t.text = tx at *
  generalize t.num = nn at *
  go_enter Tryz.func8, Tryz.ntmps8
  go_wp2_with fail
  · go_returns
    exact ⟨_, rfl, by go_grown⟩
  · refine (fits1_any ok l _ _ HK.out hl).mono ?_
    rintro e w' ⟨b, rfl, rfl⟩
    cases b
    · go_wp2
      go_returns
      exact ⟨_, rfl, by go_grown⟩
    · go_wp2
      all_goals
        go_returns
        exact ⟨_, rfl, by go_grown⟩

end Go.Proofs.YtbcnhcpgloncdaaGreatDoor

/-
  SLICES THAT A CALL MAKES BY append: the laws at the operation, and how an owned row reads as texts, trees, settings.
-/
namespace Go.Proofs.YtbcnhcpgloncdaaGreatDoor
open Go.RowKit

theorem Tryz.info9 : (Tryz.prog.info? 9).map (fun i => (i.zero, i.size, i.bytes)) = some (some (.string ⟨#[]⟩), 1, 16) := by kernel_rfl
theorem Tryz.info26 : (Tryz.prog.info? 26).map (fun i => (i.zero, i.size, i.bytes)) = some (some (.agg #[.int .i64 0, .string ⟨#[]⟩, .float .f64 0, .bool false, .slice none 0 0, .slice none 0 0]), 6, 88) := by kernel_rfl
theorem Tryz.info45 : (Tryz.prog.info? 45).map (fun i => (i.zero, i.size, i.bytes)) = some (some (.agg #[.string ⟨#[]⟩, .int .i64 0, .string ⟨#[]⟩, .float .f64 0, .bool false, .slice none 0 0, .slice none 0 0]), 7, 104) := by kernel_rfl

section
variable {P : Program}
theorem run_append_none (w : World) (base : Nat) (t ty e : TypeId) (i : TypeInfo) (size : Nat) (ht : P.underlying t = some (.slice e)) (hi : P.info? e = some i)
    (v : Value) (n : Nat) (xs : List Value) (hown : w.ownsRow base e size v n xs) (c : Nat) :
    (Builtin.append_ #[t, t] ty #[v, .slice none 0 c]).run P w = .ok v w := by
  rcases hown.2 with ⟨rfl, rfl⟩ | ⟨g, cap, cur, rfl, _, _, hnc, _⟩
  · simp [Builtin.append_, run_underlying ht, sizeOf, typeInfo, hi, Builtin.lenOf, Builtin.firstCells]
  · simp [Builtin.append_, run_underlying ht, sizeOf, typeInfo, hi, Builtin.lenOf, Builtin.firstCells, hnc, storeCells]

/-- append of whatever slice, nil too, onto an owned one. -/
theorem wpList_append_any (w : World) {ops : Array Oper} {rest : List Oper} {o : Oper} {a : Act} {Q : Exit → Act → World → Prop} (hgd : o.guard = none) (s x : Operand) (t : TypeId)
    (ho : o.op = .call { callee := .builtin .append, args := #[s, x], argTypes := #[t, t] })
    (base : Nat) (e : TypeId) (z : Value) (size bytes : Nat) (ht : P.underlying t = some (.slice e)) (hi : (P.info? e).map (fun i => (i.zero, i.size, i.bytes)) = some (some z, size, bytes))
    (hzs : z.cells.size = size) (hsz : 0 < size)
    (v : Value) (n : Nat) (xs : List Value) (hs : a.eval s = v) (hown : w.ownsRow base e size v n xs)
    (ao : Option Addr) (m c : Nat) (news : List Value) (hx : a.eval x = .slice ao m c) (hl : news.length = m * size)
    (hnews : ∀ j u, news[j]? = some u → ∃ ad : Addr, ao = some ad ∧ w.cell? (ad.add j) = some u) (h1 : ∀ u ∈ news, u.oneCell' = true)
    (hsmall : (n + m) * bytes ≤ 140737488355328) (hsmall' : n + m ≤ 140737488355328) (hbase : base ≤ w.heap.size)
    (h : ∀ v' w', w'.ownsRow base e size v' (n + m) (xs ++ news) → w.grownBy w' v.ownBlock → wpList P ops Q rest (a.put o.dst v') w') : wpList P ops Q (o :: rest) a w := by
  obtain ⟨i, hi, hz0, hz1, hz2⟩ := info_parts hi
  by_cases hm : m = 0
  · subst hm
    obtain rfl : news = [] := List.eq_nil_of_length_eq_zero (by simpa using hl)
    cases ao with
    | none =>
      refine wpList_plain hgd fun K' hK' => ?_
      have hrun := run_append_none (P := P) w base t o.type e i size ht hi v n xs hown c
      unfold Oper.wp
      simp [execOp, ho, resolve, invoke, builtin, hs, hx, hrun, Result.andThen]
      exact hK' _ _ (h v w (by simpa using hown) (World.grownBy.refl _ _))
    | some ad =>
      exact wpList_append_own w hgd s x t ho base e i z size bytes ht hi hz0 hz1 hz2 hzs hsz v n xs hs hown ad 0 c [] hx (by simp) (fun j u hu => by simp at hu) (fun u hu => by simp at hu)
        (by unfold maxLen; omega) hsmall hbase fun v' w' h2 h3 _ => h v' w' h2 h3
  · have hnp : 0 < news.length := by rw [hl]; exact Nat.mul_pos (by omega) hsz
    obtain ⟨ad, rfl, -⟩ := hnews 0 news[0] (List.getElem?_eq_getElem hnp)
    refine wpList_append_own w hgd s x t ho base e i z size bytes ht hi hz0 hz1 hz2 hzs hsz v n xs hs hown ad m c news hx hl (fun j u hu => ?_) h1
        (by unfold maxLen; omega) hsmall hbase fun v' w' h2 h3 _ => h v' w' h2 h3
    obtain ⟨ad', e', hc⟩ := hnews j u hu
    cases e'
    exact hc

/-- .. of what lies whole in a block of its own. -/
theorem wpList_append_blk (w : World) {ops : Array Oper} {rest : List Oper} {o : Oper} {a : Act} {Q : Exit → Act → World → Prop} (hgd : o.guard = none) (s x : Operand) (t : TypeId)
    (ho : o.op = .call { callee := .builtin .append, args := #[s, x], argTypes := #[t, t] })
    (base : Nat) (e : TypeId) (z : Value) (size bytes : Nat) (ht : P.underlying t = some (.slice e)) (hi : (P.info? e).map (fun i => (i.zero, i.size, i.bytes)) = some (some z, size, bytes))
    (hzs : z.cells.size = size) (hsz : 0 < size)
    (v : Value) (n : Nat) (xs : List Value) (hs : a.eval s = v) (hown : w.ownsRow base e size v n xs)
    (g m c : Nat) (news : Array Value) (te : TypeId) (hx : a.eval x = .slice (some ⟨g, 0, none⟩) m c) (hblk : w.heap[g]? = some (.cells news te (0, 0))) (hl : news.size = m * size)
    (h1 : ∀ u ∈ news.toList, u.oneCell' = true)
    (hsmall : (n + m) * bytes ≤ 140737488355328) (hsmall' : n + m ≤ 140737488355328) (hbase : base ≤ w.heap.size)
    (h : ∀ v' w', w'.ownsRow base e size v' (n + m) (xs ++ news.toList) → w.grownBy w' v.ownBlock → wpList P ops Q rest (a.put o.dst v') w') : wpList P ops Q (o :: rest) a w :=
  wpList_append_any w hgd s x t ho base e z size bytes ht hi hzs hsz v n xs hs hown _ m c news.toList hx (by simpa using hl)
    (fun j u hu => ⟨_, rfl, by
      rw [show (⟨g, 0, none⟩ : Addr).add j = ⟨g, j, none⟩ by unfold Addr.add; split <;> simp_all, cell_of_row w g j news te (0, 0) hblk]
      simpa using hu⟩) h1 hsmall hsmall' hbase h
end

section
variable {P : Program}
/-- The same at a step of a region that draws its order. -/
theorem step_append_blk (w : World) {ops : Array Oper} {o : Oper} {a : Act} {K : Act → World → Prop} {Q : Exit → Act → World → Prop} {E : Prop} (hgd : o.guard = none) (s x : Operand) (t : TypeId)
    (ho : o.op = .call { callee := .builtin .append, args := #[s, x], argTypes := #[t, t] })
    (base : Nat) (e : TypeId) (z : Value) (size bytes : Nat) (ht : P.underlying t = some (.slice e)) (hi : (P.info? e).map (fun i => (i.zero, i.size, i.bytes)) = some (some z, size, bytes))
    (hzs : z.cells.size = size) (hsz : 0 < size)
    (v : Value) (n : Nat) (xs : List Value) (hs : a.eval s = v) (hown : w.ownsRow base e size v n xs)
    (g m c : Nat) (news : Array Value) (te : TypeId) (hx : a.eval x = .slice (some ⟨g, 0, none⟩) m c) (hblk : w.heap[g]? = some (.cells news te (0, 0))) (hl : news.size = m * size)
    (h1 : ∀ u ∈ news.toList, u.oneCell' = true)
    (hsmall : (n + m) * bytes ≤ 140737488355328) (hsmall' : n + m ≤ 140737488355328) (hbase : base ≤ w.heap.size)
    (h : ∀ v' w', w'.ownsRow base e size v' (n + m) (xs ++ news.toList) → w.grownBy w' v.ownBlock → K (a.put o.dst v') w') :
    if Region.wanted o (yielded ops a.tmps) = true then Oper.wp P o a w K Q else E := by
  have hw : Region.wanted o (yielded ops a.tmps) = true := by simp [Region.wanted, hgd]
  rw [if_pos hw]
  obtain ⟨i, hi, hz0, hz1, hz2⟩ := info_parts hi
  exact wp_append_own w s x t ho base e i z size bytes ht hi hz0 hz1 hz2 hzs hsz v n xs hs hown ⟨g, 0, none⟩ m c news.toList hx (by simpa using hl)
    (fun j u hu => by
      rw [show (⟨g, 0, none⟩ : Addr).add j = ⟨g, j, none⟩ by unfold Addr.add; split <;> simp_all, cell_of_row w g j news te (0, 0) hblk]
      simpa using hu) h1 (by unfold maxLen; omega) hsmall hbase fun v' w' h2 h3 _ => h v' w' h2 h3
end

/-! ### An owned row, read -/
section
variable {w : World} {base : Nat} {e : TypeId} {size : Nat} {v : Value} {n : Nat}

theorem World.ownsRow.form {xs : List Value} (h : w.ownsRow base e size v n xs) :
    ∃ a cap, v = .slice a n cap ∧ n ≤ cap ∧ cap ≤ maxLen ∧ (∀ j u, xs[j]? = some u → ∃ g, a = some ⟨g, 0, none⟩ ∧ v.ownBlock = some g ∧ base ≤ g ∧ w.cell? ⟨g, j, none⟩ = some u) := by
  rcases h.2 with ⟨rfl, rfl⟩ | ⟨g, cap, cur, rfl, hb, hgg, hnc, hcm, hcs, htake⟩
  · refine ⟨none, 0, rfl, Nat.le_refl _, Nat.zero_le _, fun j u hu => ?_⟩
    have : xs = [] := List.eq_nil_of_length_eq_zero (by simpa using h.1)
    subst this; simp at hu
  · refine ⟨_, cap, rfl, hnc, hcm, fun j u hu => ⟨g, rfl, rfl, hb, ?_⟩⟩
    rw [cell_of_row w g j cur e (0, 0) hgg]
    rw [← htake, List.getElem?_take] at hu
    split at hu
    · simpa using hu
    · cases hu

/-- An owned row of texts. -/
theorem strs_of_own {ks : List ByteArray} {ok : Nat → Prop} (h : w.ownsRow base 9 1 v ks.length (ks.map Value.string)) (hok : ∀ k, v.ownBlock = some k → ok k) : StrsAt w ok v ks := by
  obtain ⟨a, cap, hv, hnc, -, hc⟩ := World.ownsRow.form h
  refine ⟨a, cap, hv, hnc, fun i k hk => ?_⟩
  obtain ⟨g, rfl, hob, -, hcell⟩ := hc i (.string k) (by simp [hk])
  exact ⟨g, 0, rfl, hok g hob, by simpa using hcell⟩

/-- The cells of values of 'size' cells each, one behind the other. -/
def cellsOf (vs : List Value) : List Value := vs.flatMap fun v => v.cells.toList

theorem cellsOf_get (size : Nat) : ∀ (vs : List Value) (_ : ∀ v ∈ vs, v.cells.size = size) (i j : Nat) (v : Value), vs[i]? = some v → j < size → (cellsOf vs)[i * size + j]? = v.cells[j]?
  | [], _, i, j, v, h, _ => by simp at h
  | x :: xs, hs, 0, j, v, h, hj => by
    simp only [List.getElem?_cons_zero, Option.some.injEq] at h
    subst h
    have := hs x (by simp)
    show (x.cells.toList ++ cellsOf xs)[0 * size + j]? = _
    rw [List.getElem?_append_left (by simp; omega)]
    simp
  | x :: xs, hs, i + 1, j, v, h, hj => by
    have hx := hs x (by simp)
    show (x.cells.toList ++ cellsOf xs)[(i + 1) * size + j]? = _
    rw [List.getElem?_append_right (by simp [hx, Nat.add_mul]; omega)]
    have := cellsOf_get size xs (fun v hv => hs v (List.mem_cons_of_mem _ hv)) i j v (by simpa using h) hj
    rw [← this]
    congr 1
    simp [hx, Nat.add_mul]; omega

theorem cellsOf_length (size : Nat) : ∀ (vs : List Value) (_ : ∀ v ∈ vs, v.cells.size = size), (cellsOf vs).length = vs.length * size
  | [], _ => by simp [cellsOf]
  | x :: xs, hs => by
    have hx := hs x (by simp)
    have := cellsOf_length size xs (fun v hv => hs v (List.mem_cons_of_mem _ hv))
    show (x.cells.toList ++ cellsOf xs).length = _
    rw [List.length_append, this]
    simp [hx, Nat.add_mul]; omega
theorem cellsOf_append (a b : List Value) : cellsOf (a ++ b) = cellsOf a ++ cellsOf b := by simp [cellsOf]
theorem cellsOf_one (v : Value) : cellsOf [v] = v.cells.toList := by simp [cellsOf]
end

/-- Values that stand for trees, one for one. -/
def TreesAt (w : World) (ok : Nat → Prop) (vs : List Value) (ts : List T) : Prop := vs.length = ts.length ∧ ∀ (i : Nat) (v : Value) (t : T), vs[i]? = some v → ts[i]? = some t → TreeAt w ok v t

theorem TreesAt.nil (w : World) (ok : Nat → Prop) : TreesAt w ok [] [] := ⟨rfl, fun i v t h => by simp at h⟩
theorem TreesAt.snoc {w : World} {ok : Nat → Prop} {vs : List Value} {ts : List T} {v : Value} {t : T} (h : TreesAt w ok vs ts) (ht : TreeAt w ok v t) : TreesAt w ok (vs ++ [v]) (ts ++ [t]) := by
  refine ⟨by simp [h.1], fun i x y hx hy => ?_⟩
  rcases Nat.lt_or_ge i vs.length with hi | hi
  · rw [List.getElem?_append_left hi] at hx
    rw [List.getElem?_append_left (by rw [← h.1]; exact hi)] at hy
    exact h.2 i x y hx hy
  · rw [List.getElem?_append_right hi] at hx
    rw [List.getElem?_append_right (by rw [← h.1]; exact hi), ← h.1] at hy
    rcases Nat.eq_or_lt_of_le hi with rfl | hlt
    · simp at hx hy; subst hx; subst hy; exact ht
    · rw [List.getElem?_eq_none (by simp; omega)] at hx; cases hx
theorem TreesAt.same {w w' : World} {ok : Nat → Prop} {vs : List Value} {ts : List T} (hs : Same ok w w') (h : TreesAt w ok vs ts) : TreesAt w' ok vs ts := ⟨h.1, fun i v t hv ht => (h.2 i v t hv ht).same hs⟩
theorem TreesAt.weaken {w : World} {ok ok' : Nat → Prop} {vs : List Value} {ts : List T} (hw : ∀ k, ok k → k < w.heap.size → ok' k) (h : TreesAt w ok vs ts) : TreesAt w ok' vs ts := ⟨h.1, fun i v t hv ht => (h.2 i v t hv ht).weaken hw⟩

theorem TreeAt.cells {w : World} {ok : Nat → Prop} {v : Value} {t : T} (h : TreeAt w ok v t) : v.cells.size = 6 ∧ (∀ u ∈ v.cells.toList, u.oneCell' = true) := by
  obtain ⟨a, cap, a', cap', c, rfl, -⟩ := h.open
  exact ⟨rfl, fun u hu => by simp [Value.cells] at hu; rcases hu with rfl | rfl | rfl | rfl | rfl | rfl <;> rfl⟩
theorem TreesAt.size {w : World} {ok : Nat → Prop} {vs : List Value} {ts : List T} (h : TreesAt w ok vs ts) : ∀ v ∈ vs, v.cells.size = 6 := by
  intro v hv
  obtain ⟨i, hi⟩ := List.mem_iff_getElem?.1 hv
  have hlt : i < ts.length := by rw [← h.1]; exact (List.getElem?_eq_some_iff.1 hi).1
  exact (h.2 i v ts[i] hi (List.getElem?_eq_getElem hlt)).cells.1

/-- A tree whose keys and kids lie in owned rows. -/
theorem tree_of_own {w : World} {ok : Nat → Prop} {base : Nat} {t : T} {vk vs : Value} {kids : List Value} (hk : w.ownsRow base 9 1 vk t.keys.length (t.keys.map Value.string))
    (hs : w.ownsRow base 26 6 vs t.kids.length (cellsOf kids)) (ht : TreesAt w ok kids t.kids) (hok : ∀ k, vk.ownBlock = some k → ok k) (hok' : ∀ k, vs.ownBlock = some k → ok k) :
    TreeAt w ok (.agg #[.int .i64 t.kind, .string t.text, .float .f64 t.num, .bool t.yes, vk, vs]) t := by
  obtain ⟨a, cap, hvk, hka, hkc⟩ := strs_of_own (ok := ok) hk hok
  obtain ⟨a', cap', hvs, hna, -, hsc⟩ := World.ownsRow.form hs
  subst hvk
  subst hvs
  refine TreeAt.shut (fun i j => (kids[i]?.getD default).cells[j]?.getD default) hka hna hkc (fun i hi => ?_) (fun i t' hi => ?_)
  · have hil : i < kids.length := by rw [ht.1]; exact hi
    have hsz := ht.size
    have e : ∀ j, j < 6 → (cellsOf kids)[i * 6 + j]? = some ((kids[i]?.getD default).cells[j]?.getD default) := fun j hj => by
      rw [cellsOf_get 6 kids hsz i j kids[i] (List.getElem?_eq_getElem hil) hj]
      have h6 := hsz kids[i] (List.getElem_mem hil)
      simp [List.getElem?_eq_getElem hil, show j < kids[i].cells.size by omega]
    obtain ⟨g, rfl, hob, -, -⟩ := hsc (i * 6 + 0) _ (e 0 (by omega))
    refine ⟨g, 0, rfl, hok' g hob, fun j hj => ?_⟩
    obtain ⟨g', e', -, -, hc⟩ := hsc (i * 6 + j) _ (e j hj)
    cases e'
    simpa using hc
  · have hil : i < kids.length := by rw [ht.1]; exact (List.getElem?_eq_some_iff.1 hi).1
    have h1 := ht.2 i kids[i] t' (List.getElem?_eq_getElem hil) hi
    obtain ⟨a1, c1, a2, c2, cc, hv, -⟩ := h1.open
    rw [hv] at h1
    simpa [List.getElem?_eq_getElem hil, hv, Value.cells] using h1

/-- Values that stand for settings. -/
def SetAt (w : World) (ok : Nat → Prop) (v : Value) (s : S) : Prop := ∃ c : Array Value, v = .agg (#[.string s.name] ++ c) ∧ TreeAt w ok (.agg c) s.value

/-- .. one for one. -/
def SettersAt (w : World) (ok : Nat → Prop) (vs : List Value) (ss : List S) : Prop := vs.length = ss.length ∧ ∀ (i : Nat) (v : Value) (s : S), vs[i]? = some v → ss[i]? = some s → SetAt w ok v s
theorem SettersAt.nil (w : World) (ok : Nat → Prop) : SettersAt w ok [] [] := ⟨rfl, fun i v t h => by simp at h⟩
theorem SetAt.same {w w' : World} {ok : Nat → Prop} {v : Value} {s : S} (hs : Same ok w w') (h : SetAt w ok v s) : SetAt w' ok v s := by
  obtain ⟨c, hv, ht⟩ := h
  exact ⟨c, hv, ht.same hs⟩
theorem SettersAt.same {w w' : World} {ok : Nat → Prop} {vs : List Value} {ss : List S} (hs : Same ok w w') (h : SettersAt w ok vs ss) : SettersAt w' ok vs ss := ⟨h.1, fun i v t hv ht => (h.2 i v t hv ht).same hs⟩
theorem SettersAt.snoc {w : World} {ok : Nat → Prop} {vs : List Value} {ss : List S} {v : Value} {s : S} (h : SettersAt w ok vs ss) (ht : SetAt w ok v s) : SettersAt w ok (vs ++ [v]) (ss ++ [s]) := by
  refine ⟨by simp [h.1], fun i x y hx hy => ?_⟩
  rcases Nat.lt_or_ge i vs.length with hi | hi
  · rw [List.getElem?_append_left hi] at hx
    rw [List.getElem?_append_left (by rw [← h.1]; exact hi)] at hy
    exact h.2 i x y hx hy
  · rw [List.getElem?_append_right hi] at hx
    rw [List.getElem?_append_right (by rw [← h.1]; exact hi), ← h.1] at hy
    rcases Nat.eq_or_lt_of_le hi with rfl | hlt
    · simp at hx hy; subst hx; subst hy; exact ht
    · rw [List.getElem?_eq_none (by simp; omega)] at hx; cases hx
theorem SetAt.cells {w : World} {ok : Nat → Prop} {v : Value} {s : S} (h : SetAt w ok v s) : v.cells.size = 7 ∧ (∀ u ∈ v.cells.toList, u.oneCell' = true) := by
  obtain ⟨c, rfl, ht⟩ := h
  have h6 := ht.cells
  simp only [Value.cells] at h6
  refine ⟨by simp [Value.cells, h6.1], fun u hu => ?_⟩
  simp [Value.cells] at hu
  rcases hu with rfl | hu
  · rfl
  · exact h6.2 u (by simpa using hu)
theorem SettersAt.size {w : World} {ok : Nat → Prop} {vs : List Value} {ss : List S} (h : SettersAt w ok vs ss) : ∀ v ∈ vs, v.cells.size = 7 := by
  intro v hv
  obtain ⟨i, hi⟩ := List.mem_iff_getElem?.1 hv
  have hlt : i < ss.length := by rw [← h.1]; exact (List.getElem?_eq_some_iff.1 hi).1
  exact (h.2 i v ss[i] hi (List.getElem?_eq_getElem hlt)).cells.1

theorem sets_of_own {w : World} {ok : Nat → Prop} {base : Nat} {ss : List S} {v : Value} {vs : List Value}
    (hs : w.ownsRow base 45 7 v ss.length (cellsOf vs)) (ht : SettersAt w ok vs ss) (hok : ∀ k, v.ownBlock = some k → ok k) : SetsAt w ok v ss := by
  obtain ⟨a', cap', hvs, hna, -, hsc⟩ := World.ownsRow.form hs
  subst hvs
  refine ⟨a', cap', fun i j => (vs[i]?.getD default).cells[j]?.getD default, rfl, hna, fun i hi => ?_, fun i s hi => ?_⟩
  · have hil : i < vs.length := by rw [ht.1]; exact hi
    have hsz := ht.size
    have e : ∀ j, j < 7 → (cellsOf vs)[i * 7 + j]? = some ((vs[i]?.getD default).cells[j]?.getD default) := fun j hj => by
      rw [cellsOf_get 7 vs hsz i j vs[i] (List.getElem?_eq_getElem hil) hj]
      have h6 := hsz vs[i] (List.getElem_mem hil)
      simp [List.getElem?_eq_getElem hil, show j < vs[i].cells.size by omega]
    obtain ⟨g, rfl, hob, -, -⟩ := hsc (i * 7 + 0) _ (e 0 (by omega))
    refine ⟨g, 0, rfl, hok g hob, fun j hj => ?_⟩
    obtain ⟨g', e', -, -, hc⟩ := hsc (i * 7 + j) _ (e j hj)
    cases e'
    simpa using hc
  · have hil : i < vs.length := by rw [ht.1]; exact (List.getElem?_eq_some_iff.1 hi).1
    obtain ⟨c, hv, h1⟩ := ht.2 i vs[i] s (List.getElem?_eq_getElem hil) hi
    obtain ⟨a1, c1, a2, c2, cc, hv', -⟩ := h1.open
    rw [hv'] at h1
    simp only [Value.agg.injEq] at hv'
    subst hv'
    simpa [List.getElem?_eq_getElem hil, hv, Value.cells] using h1

end Go.Proofs.YtbcnhcpgloncdaaGreatDoor

/-
  CONTRACTS OF spec: Field, Is, Distinct, Fields, FieldNames, Back.
-/
namespace Go.Proofs.YtbcnhcpgloncdaaGreatDoor
open Go.RowKit

/-- The names that stand beside fields. -/
def besides : List ByteArray := [⟨#[98, 111, 111, 115, 116]⟩, ⟨#[116, 121, 112, 101]⟩, ⟨#[100, 105, 115, 116, 97, 110, 99, 101]⟩, ⟨#[100, 105, 115, 116, 97, 110, 99, 101, 95, 116, 121, 112, 101]⟩, ⟨#[118, 97, 108, 105, 100, 97, 116, 105, 111, 110, 95, 109, 101, 116, 104, 111, 100]⟩, ⟨#[105, 103, 110, 111, 114, 101, 95, 117, 110, 109, 97, 112, 112, 101, 100]⟩, ⟨#[109, 117, 108, 116, 105, 95, 118, 97, 108, 117, 101, 95, 109, 111, 100, 101]⟩]

def fieldB (s : ByteArray) : Bool :=
  if h : 0 < s.size then
    if ((s[0].toNat : Int) == 95) then false
    else if placeN s.data.toList 94 < s.size then false
    else !hasB besides s
  else false

theorem besides_at (w : World) : StrsAt (w.alloc (.cells #[.string ⟨#[98, 111, 111, 115, 116]⟩, .string ⟨#[116, 121, 112, 101]⟩, .string ⟨#[100, 105, 115, 116, 97, 110, 99, 101]⟩, .string ⟨#[100, 105, 115, 116, 97, 110, 99, 101, 95, 116, 121, 112, 101]⟩, .string ⟨#[118, 97, 108, 105, 100, 97, 116, 105, 111, 110, 95, 109, 101, 116, 104, 111, 100]⟩, .string ⟨#[105, 103, 110, 111, 114, 101, 95, 117, 110, 109, 97, 112, 112, 101, 100]⟩, .string ⟨#[109, 117, 108, 116, 105, 95, 118, 97, 108, 117, 101, 95, 109, 111, 100, 101]⟩] 9)) (fun _ => True) (.slice (some ⟨w.heap.size, 0, none⟩) 7 7) besides := by
  refine ⟨_, _, rfl, by decide, fun i k hi => ⟨_, _, rfl, trivial, ?_⟩⟩
  rw [World.cell?_alloc_at _ _ _ _ rfl]
  match i, hi with
  | 0, hi => cases hi; rfl
  | 1, hi => cases hi; rfl
  | 2, hi => cases hi; rfl
  | 3, hi => cases hi; rfl
  | 4, hi => cases hi; rfl
  | 5, hi => cases hi; rfl
  | 6, hi => cases hi; rfl
  | n + 7, hi => simp [besides] at hi

set_option maxHeartbeats 400000 in
theorem field_any (s : ByteArray) (w : World) (hs : s.size ≤ maxLen) : Calls Tryz.prog 30 #[.string s] w (RetBool w (fieldB s)) := by
  have key : ∀ b, fieldB s = b → Calls Tryz.prog 30 #[.string s] w (RetBool w b) := by
    intro b hb
    unfold fieldB at hb
    have HB := hide hb
    clear hb
    by_cases h0 : 0 < s.size
    · have he : s.toList.isEmpty = false := by rw [ByteArray.toList_eq]; simpa using fun h => by simp [← ByteArray.size_data, h] at h0
      cases h1 : ((s[0].toNat : Int) == 95)
      · by_cases h2 : placeN s.data.toList 94 < s.size
        · have hd : decide (placeN s.data.toList 94 < s.size) = true := by simpa using h2
          go_enter Tryz.func30, Tryz.ntmps30
          go_wp2_with (first | (go_at_call 65; refine (place_any _ _ _ hs).mono ?_; rintro e w' ⟨rfl, rfl⟩))
          go_returns
          refine ⟨ret_bool ?_, Below.refl _ _⟩
          rw [← HB.out, dif_pos h0, if_neg (by rw [h1]; simp), if_pos h2]
        · have hd : decide (placeN s.data.toList 94 < s.size) = false := by simpa using h2
          go_enter Tryz.func30, Tryz.ntmps30
          go_wp2_with (first | (go_at_call 65; refine (place_any _ _ _ hs).mono ?_; rintro e w' ⟨rfl, rfl⟩))
          refine (has_any _ besides _ s _ (besides_at _) (by decide)).mono ?_
          rintro e w1 ⟨rfl, rfl⟩
          go_wp2
          go_returns
          refine ⟨ret_bool ?_, by go_grown⟩
          rw [← HB.out, dif_pos h0, if_neg (by rw [h1]; simp), if_neg h2]
      · go_enter Tryz.func30, Tryz.ntmps30
        go_wp2_with fail
        go_returns
        refine ⟨ret_bool ?_, Below.refl _ _⟩
        rw [← HB.out, dif_pos h0, if_pos h1]
    · have he : s.toList.isEmpty = true := by rw [ByteArray.toList_eq]; have : s.data.size = 0 := by simpa using h0
                                              simp [Array.eq_empty_of_size_eq_zero this]
      go_enter Tryz.func30, Tryz.ntmps30
      go_wp2_with fail
      go_returns
      refine ⟨ret_bool ?_, Below.refl _ _⟩
      rw [← HB.out, dif_neg h0]
  exact key _ rfl


/-! ### Is -/
set_option maxHeartbeats 400000 in
theorem is_any (ok : Nat → Prop) (ss : List S) (v : Value) (nm : ByteArray) (w : World) (hv : SetsAt w ok v ss) (hl : ss.length ≤ 4611686018427387904) :
    Calls Tryz.prog 13 #[v, .string nm] w (RetBool w (lastS ss nm).isSome) := by
  go_enter Tryz.func13, Tryz.ntmps13
  go_wp2_with fail
  refine (last_any ok ss v nm _ hv hl).mono ?_
  rintro e w1 ⟨tv, t, rfl, htr, -, hb⟩
  obtain ⟨a, cap, a', cap', c, rfl, -⟩ := htr.open
  generalize (lastS ss nm).isSome = q at *
  go_wp2
  go_returns
  exact ⟨rfl, hb.alloc hb.size _⟩

/-! ### Distinct -/
theorem SetsAt.take {w : World} {ok : Nat → Prop} {a : Option Addr} {cap cap' : Nat} {ss : List S} (h : SetsAt w ok (.slice a ss.length cap) ss) (k : Nat) (hk : k ≤ ss.length) (hk' : k ≤ cap') : SetsAt w ok (.slice a k cap') (ss.take k) := by
  obtain ⟨a', cap2, c, hv, hle, hc, ht⟩ := h
  cases hv
  refine ⟨a, cap', c, by rw [List.length_take, Nat.min_eq_left hk], by rw [List.length_take]; omega, fun i hi => hc i (by rw [List.length_take] at hi; omega), fun i s hi => ?_⟩
  rw [List.getElem?_take] at hi
  split at hi
  · exact ht i s hi
  · cases hi


def distinctB (ss : List S) : Bool := (List.range ss.length).all (fun i => !(lastS (ss.take i) (ss[i]?.getD default).name).isSome)

set_option maxHeartbeats 400000 in
theorem distinct_any (ok : Nat → Prop) (ss : List S) (v : Value) (w : World) (hv : SetsAt w ok v ss) (hl : ss.length ≤ 1073741824) :
    Calls Tryz.prog 11 #[v] w (RetBool w (distinctB ss)) := by
  have HV := hide hv
  obtain ⟨a, cap, c, rfl, hcap, hc, ht⟩ := hv
  go_enter Tryz.func11, Tryz.ntmps11
  go_wp2
  go_loopw [3] (fun i wr => ∃ k : Nat, k ≤ ss.length ∧ i = .int .i64 k ∧ Below w.heap.size w wr ∧ (∀ j, j < k → (lastS (ss.take j) (ss[j]?.getD default).name).isSome = false)) (fun i _ => ss.length - (intOf i).toNat)
  case atStart => exact ⟨0, Nat.zero_le _, rfl, Below.refl _ _, fun j hj => absurd hj (by omega)⟩
  case round =>
    obtain ⟨k, hk, rfl, hbw, hno⟩ := hrel
    have HNO := hide hno
    clear hno
    have HVr := hide (HV.out.same (Same.of_below hbw))
    by_cases hlt : k < ss.length
    · obtain ⟨b, o, rfl, hb, hcell⟩ := hc k hlt
      obtain ⟨h0, htr⟩ := ht k ss[k] (by simp)
      have i1 : (0 : Int) ≤ (k : Int) := by omega
      have i2 : (k : Int) ≤ (cap : Int) := by omega
      have i3 : (k : Int) < (ss.length : Int) := by omega
      have e0 := hcell 0 (by omega)
      have hbl : b < w.heap.size := World.block_lt_of_cell? w _ e0
      rw [h0] at e0
      simp only [Nat.add_zero] at e0
      have e0' : wr.cell? ⟨b, o + k * 7, none⟩ = some (.string ss[k].name) := (hbw.cell hbl).trans e0
      have hwr : b < wr.heap.size := by have := hbw.size; omega
      have HS := hide (SetsAt.take (cap' := cap) HVr.out k hk (by omega))
      have HK := hide (show (ss[k]?.getD default).name = ss[k].name by rw [List.getElem?_eq_getElem hlt]; rfl)
      clear hc ht hcell h0 htr e0
      go_wp2_with fail
      go_region_held3 (fun w' => w'.cell? ⟨b, o + k * 7, none⟩ = some (.string ss[k].name)) (first | go_keep | exact (hb1.cell (p := ⟨b, _, none⟩) hwr).trans e0') ((go_at_call 13; refine (is_any ok (ss.take k) _ _ _ (HS.out.same (Same.of_below (by go_grown))) (by rw [List.length_take]; omega)).mono ?_; rintro e w1 ⟨rfl, hb1⟩))
      all_goals
        have hbb := hide (hbw.trans ((Below.drew (Below.refl wr.heap.size wr)).trans hb1 |>.mono hbw.size))
      all_goals cases hq : (lastS (ss.take k) ss[k].name).isSome
      all_goals go_wp2_with fail
      · go_round
        case rel =>
          refine ⟨k + 1, by omega, by go_num, hbb.out, fun j hj => ?_⟩
          rcases Nat.lt_succ_iff_lt_or_eq.1 hj with h | rfl
          · exact HNO.out j h
          · rw [HK.out]; exact hq
        case measure => simp [intOf]; omega
      · go_returns
        refine ⟨ret_bool ?_, hbb.out⟩
        symm
        unfold distinctB
        rw [List.all_eq_false]
        exact ⟨k, List.mem_range.2 hlt, by rw [HK.out, hq]; simp⟩
    · clear hc ht
      go_wp2
      go_returns
      refine ⟨ret_bool ?_, hbw⟩
      symm
      unfold distinctB
      rw [List.all_eq_true]
      intro j hj
      rw [HNO.out j (by have := List.mem_range.1 hj; omega)]
      rfl
end Go.Proofs.YtbcnhcpgloncdaaGreatDoor

/-
  CONTRACTS OF spec: Fields, FieldNames, Back.
-/
namespace Go.Proofs.YtbcnhcpgloncdaaGreatDoor
open Go.RowKit Go.Sort

/-! ### Fields -/
theorem StrsAt.take {w : World} {ok : Nat → Prop} {a : Option Addr} {cap cap' : Nat} {ks : List ByteArray} (h : StrsAt w ok (.slice a ks.length cap) ks) (k : Nat) (hk : k ≤ ks.length) (hk' : k ≤ cap') : StrsAt w ok (.slice a k cap') (ks.take k) := by
  obtain ⟨a', cap2, hv, hle, hc⟩ := h
  cases hv
  refine ⟨a, cap', by rw [List.length_take, Nat.min_eq_left hk], by rw [List.length_take]; omega, fun i s hi => ?_⟩
  rw [List.getElem?_take] at hi
  split at hi
  · exact hc i s hi
  · cases hi

def fieldsAt (ks : List ByteArray) (i : Nat) : Bool := fieldB (ks[i]?.getD default) && !hasB (ks.take i) (ks[i]?.getD default)
def fieldsB (ks : List ByteArray) : Bool := (List.range ks.length).all (fieldsAt ks)

set_option maxHeartbeats 400000 in
theorem fields_any (ok : Nat → Prop) (ks : List ByteArray) (v : Value) (w : World) (hv : StrsAt w ok v ks) (hl : ks.length ≤ 1073741824) (hsz : ∀ k ∈ ks, k.size ≤ maxLen) :
    Calls Tryz.prog 14 #[v] w (RetBool w (fieldsB ks)) := by
  have HV := hide hv
  obtain ⟨a, cap, rfl, hcap, hc⟩ := hv
  go_enter Tryz.func14, Tryz.ntmps14
  go_wp2
  have HSZ := hide hsz
  clear hsz
  go_loopw [3] (fun i wr => ∃ k : Nat, k ≤ ks.length ∧ i = .int .i64 k ∧ Below w.heap.size w wr ∧ (∀ j, j < k → fieldsAt ks j = true)) (fun i _ => ks.length - (intOf i).toNat)
  case atStart => exact ⟨0, Nat.zero_le _, rfl, Below.refl _ _, fun j hj => absurd hj (by omega)⟩
  case round =>
    obtain ⟨k, hk, rfl, hbw, hno⟩ := hrel
    have HNO := hide hno
    clear hno
    have HVr := hide (HV.out.same (Same.of_below hbw))
    by_cases hlt : k < ks.length
    · obtain ⟨b, o, rfl, hb, e0⟩ := hc k ks[k] (by simp)
      have i1 : (0 : Int) ≤ (k : Int) := by omega
      have i2 : (k : Int) ≤ (cap : Int) := by omega
      have i3 : (k : Int) < (ks.length : Int) := by omega
      have hbl : b < w.heap.size := World.block_lt_of_cell? w _ e0
      have e0' : wr.cell? ⟨b, o + k, none⟩ = some (.string ks[k]) := (hbw.cell hbl).trans e0
      have hwr : b < wr.heap.size := by have := hbw.size; omega
      have HS := hide (StrsAt.take (cap' := cap) HVr.out k hk (by omega))
      have HK : Hid (fieldsAt ks k = (fieldB ks[k] && !hasB (ks.take k) ks[k])) := hide (by unfold fieldsAt; rw [List.getElem?_eq_getElem hlt]; rfl)
      have HZ := hide (HSZ.out ks[k] (List.getElem_mem hlt))
      clear hc e0
      have k0 := cell_regrown e0'
      have cF : ∀ d os, Calls Tryz.prog 30 #[.string ks[k]] (grow (redrawn wr d) os) fun e w'' => e = .returned (.bool (fieldB ks[k])) ∧ ∃ p : Regrown, w'' = grow (redrawn wr p.d) p.os := fun d os => Calls.regrown_of (field_any _ _ HZ.out)
      have cH : ∀ d os, Calls Tryz.prog 31 #[.slice (some ⟨b, o, none⟩) k cap, .string ks[k]] (grow (redrawn wr d) os) fun e w'' => e = .returned (.bool (hasB (ks.take k) ks[k])) ∧ ∃ p : Regrown, w'' = grow (redrawn wr p.d) p.os := fun d os => (has_any ok (ks.take k) _ _ _ (HS.out.same (Same.of_below (below_regrown wr d os))) (by rw [List.length_take]; omega)).mono fun e w' ⟨h1, h2⟩ => ⟨h1, ⟨d, os⟩, h2⟩
      cases hf : fieldB ks[k]
      all_goals
        rw [hf] at cF
        go_wp2_with fail
        refine wp_region_quiet_below (by kernel_rfl) (by kernel_rfl) ?_
        repeat (first | go_big_quiet_step (first | exact cF _ _ | exact cH _ _) | quiet_step (first | exact cF _ _ | exact cH _ _))
        refine wpQuiet_nil ?_
        intro _ hw'
        obtain ⟨⟨dq, osq⟩, hw''⟩ := hw'
        subst hw''
        have hbq := hide (hbw.trans ((below_regrown wr dq osq).mono hbw.size))
        clear k0 cF cH
        generalize grow (redrawn wr dq) osq = wq at *
      · go_wp2
        go_returns
        refine ⟨ret_bool ?_, hbq.out⟩
        symm
        unfold fieldsB
        rw [List.all_eq_false]
        exact ⟨k, List.mem_range.2 hlt, by rw [HK.out, hf]; simp⟩
      · cases hh : hasB (ks.take k) ks[k]
        · go_wp2
          go_round
          case rel =>
            refine ⟨k + 1, by omega, by go_num, hbq.out, fun j hj => ?_⟩
            rcases Nat.lt_succ_iff_lt_or_eq.1 hj with h | rfl
            · exact HNO.out j h
            · rw [HK.out, hf, hh]; rfl
          case measure => simp [intOf]; omega
        · go_wp2
          go_returns
          refine ⟨ret_bool ?_, hbq.out⟩
          symm
          unfold fieldsB
          rw [List.all_eq_false]
          exact ⟨k, List.mem_range.2 hlt, by rw [HK.out, hf, hh]; simp⟩
    · clear hc
      go_wp2
      go_returns
      refine ⟨ret_bool ?_, hbw⟩
      symm
      unfold fieldsB
      rw [List.all_eq_true]
      intro j hj
      exact HNO.out j (by have := List.mem_range.1 hj; omega)

/-! ### FieldNames -/
abbrev kField : ByteArray := ⟨#[102, 105, 101, 108, 100]⟩
abbrev kFieldBoost : ByteArray := ⟨#[102, 105, 101, 108, 100, 95, 119, 105, 116, 104, 95, 98, 111, 111, 115, 116]⟩
def nameOf (s : S) : Option ByteArray := if eqB s.name kField = true ∨ eqB s.name kFieldBoost = true then some s.value.text else none
def fieldNames (fs : List ByteArray) (ss : List S) : List ByteArray := fs ++ ss.filterMap nameOf

theorem fieldNames_take {fs : List ByteArray} {ss : List S} {k : Nat} (hk : k < ss.length) : fieldNames fs (ss.take (k + 1)) = fieldNames fs (ss.take k) ++ (nameOf ss[k]).toList := by
  unfold fieldNames
  rw [List.take_succ_eq_append_getElem hk, List.filterMap_append, List.append_assoc]
  cases h : nameOf ss[k] <;> simp [h]
theorem fieldNames_length (fs : List ByteArray) (ss : List S) : (fieldNames fs ss).length ≤ fs.length + ss.length := by
  unfold fieldNames
  have := List.length_filterMap_le nameOf ss
  rw [List.length_append]; omega

set_option maxHeartbeats 800000 in
theorem fieldNames_any (ok : Nat → Prop) (fs : List ByteArray) (ss : List S) (vf vs : Value) (w : World) (hok : ∀ k, w.heap.size ≤ k → ok k) (hf : StrsAt w ok vf fs) (hv : SetsAt w ok vs ss)
    (hl : fs.length ≤ 1073741824) (hl' : ss.length ≤ 1073741824) :
    Calls Tryz.prog 15 #[vf, vs] w (RetStrs ok w (fieldNames fs ss)) := by
  obtain ⟨fa, fcap, rfl, hfcap, hfc⟩ := hf
  obtain ⟨a, cap, c, rfl, hcap, hc, ht⟩ := hv
  go_enter Tryz.func15, Tryz.ntmps15
  go_wp2_with (at_builtin; refine wpList_append_any _ rfl (.tmp 7) (.tmp 8) 23 rfl w.heap.size 9 (.string ⟨#[]⟩) 1 16 Tryz.underlying23 Tryz.info9 rfl (by decide) _ 0 [] rfl (World.ownsRow_lit w #[] 0 (Nat.le_refl _) (by unfold maxLen; omega) rfl) fa fs.length fcap (fs.map Value.string) rfl (by simp) ?c1 ?c2 ?c3 ?c4 ?c5 ?_)
  case c1 =>
    intro j u hu
    rw [List.getElem?_map] at hu
    obtain ⟨k, hk, rfl⟩ := Option.map_eq_some_iff.1 hu
    obtain ⟨b, o, rfl, hb, hcell⟩ := hfc j k hk
    refine ⟨_, rfl, ?_⟩
    rw [Addr.add_lit]
    rw [World.cell?_alloc_past _ _ _ (World.block_lt_of_cell? w _ hcell)]
    exact hcell
  case c2 => intro u hu; obtain ⟨_, _, rfl⟩ := List.mem_map.1 hu; rfl
  case c3 => omega
  case c4 => omega
  case c5 => simp
  intro v0 w0 hown0 hgrow0
  have hb0 : Below w.heap.size w w0 := (Below.alloc (Below.refl _ _) (Nat.le_refl _) _).grown hgrow0 (by simp) (fun k hk => by simp [Value.ownBlock] at hk; omega)
  clear hgrow0 hfc
  go_wp2
  go_loopw [5, 6] (fun v i wr => ∃ k : Nat, k ≤ ss.length ∧ i = .int .i64 k ∧ Below w.heap.size w wr ∧ wr.ownsRow w.heap.size 9 1 v (fieldNames fs (ss.take k)).length ((fieldNames fs (ss.take k)).map Value.string)) (fun _ i _ => ss.length - (intOf i).toNat)
  case atStart => exact ⟨0, Nat.zero_le _, rfl, hb0, by simpa [fieldNames] using hown0⟩
  case round =>
    obtain ⟨k, hk, rfl, hbw, hown⟩ := hrel
    clear hown0 hb0
    by_cases hlt : k < ss.length
    · obtain ⟨b, o, rfl, hb, hcell⟩ := hc k hlt
      obtain ⟨h0, htr⟩ := ht k ss[k] (by simp)
      have e0 := hcell 0 (by omega)
      have e2 := hcell 2 (by omega)
      obtain ⟨ka, kc, ta, tc, cc, hv6, -⟩ := htr.open
      simp only [Value.agg.injEq, Array.mk.injEq, List.cons.injEq, and_true] at hv6
      obtain ⟨v1, v2, v3, v4, v5, v6⟩ := hv6
      have hbl : b < w.heap.size := World.block_lt_of_cell? w _ e0
      rw [h0] at e0
      rw [v2] at e2
      simp only [Nat.add_zero] at e0
      have f0 : wr.cell? ⟨b, o + k * 7, none⟩ = some (.string ss[k].name) := (hbw.cell hbl).trans e0
      have f2 : wr.cell? ⟨b, o + k * 7 + 2, none⟩ = some (.string ss[k].value.text) := (hbw.cell hbl).trans e2
      have hbr : b < wr.heap.size := by have := hbw.size; omega
      have HT := hide (fieldNames_take (fs := fs) hlt)
      have HL := hide (fieldNames_length fs (ss.take k))
      clear hc ht hcell h0 htr e0 e2 v1 v2 v3 v4 v5 v6
      have HO := hide hown
      clear hown
      have step : ∀ (v' : Value) (w1 : World), nameOf ss[k] = some ss[k].value.text → w1.ownsRow w.heap.size 9 1 v' ((fieldNames fs (ss.take k)).length + 1) ((fieldNames fs (ss.take k)).map Value.string ++ [Value.string ss[k].value.text]) →
          (wr.alloc (.cells #[.string ss[k].value.text] 9)).grownBy w1 u5.ownBlock →
          Below w.heap.size w w1 ∧ w1.ownsRow w.heap.size 9 1 v' (fieldNames fs (ss.take (k + 1))).length ((fieldNames fs (ss.take (k + 1))).map Value.string) := by
        intro v' w1 hn h1 h2
        refine ⟨(hbw.alloc hbw.size _).grown h2 (by have := hbw.size; simp; omega) (fun j hj => (HO.out.lt j hj).1), ?_⟩
        rw [HT.out, hn]
        simpa using h1
      have STEP := hide step
      clear step
      cases h1 : eqB ss[k].name kField
      · have g1 : (ss[k].name.toList == [102, 105, 101, 108, 100]) = false := (eqB_mk _ _).symm.trans h1
        cases h2 : eqB ss[k].name kFieldBoost
        · have g2 : (ss[k].name.toList == [102, 105, 101, 108, 100, 95, 119, 105, 116, 104, 95, 98, 111, 111, 115, 116]) = false := (eqB_mk _ _).symm.trans h2
          have HN : Hid (nameOf ss[k] = none) := hide (if_neg (by rw [h1, h2]; simp))
          clear h1 h2
          go_wp2_with fail
          go_round
          case rel =>
            refine ⟨k + 1, by omega, by go_num, hbw, ?_⟩
            rw [HT.out, HN.out]
            simpa using HO.out
          case measure => simp [intOf]; omega
        · have g2 : (ss[k].name.toList == [102, 105, 101, 108, 100, 95, 119, 105, 116, 104, 95, 98, 111, 111, 115, 116]) = true := (eqB_mk _ _).symm.trans h2
          have HN : Hid (nameOf ss[k] = some ss[k].value.text) := hide (if_pos (.inr h2))
          clear h1 h2
          go_wp2_with (at_builtin; refine wpList_append_blk _ rfl (.tmp 30) (.tmp 37) 23 rfl w.heap.size 9 (.string ⟨#[]⟩) 1 16 Tryz.underlying23 Tryz.info9 rfl (by decide) _ _ _ rfl (HO.out.alloc _) wr.heap.size 1 1 #[.string ss[k].value.text] 9 rfl (heap_alloc_new wr _) rfl (by intro u hu; simp at hu; subst hu; rfl) (by have := HL.out; rw [List.length_take] at this; omega) (by have := HL.out; rw [List.length_take] at this; omega) (by have := hbw.size; simp; omega) ?_)
          intro v' w1 hown' hgrow
          have R := hide (STEP.out _ _ HN.out hown' hgrow)
          clear hown' hgrow
          go_wp2
          go_round
          case rel => exact ⟨k + 1, by omega, by go_num, R.out.1, R.out.2⟩
          case measure => simp [intOf]; omega
      · have g1 : (ss[k].name.toList == [102, 105, 101, 108, 100]) = true := (eqB_mk _ _).symm.trans h1
        have HN : Hid (nameOf ss[k] = some ss[k].value.text) := hide (if_pos (.inl h1))
        clear h1
        go_wp2_with (at_builtin; refine wpList_append_blk _ rfl (.tmp 30) (.tmp 37) 23 rfl w.heap.size 9 (.string ⟨#[]⟩) 1 16 Tryz.underlying23 Tryz.info9 rfl (by decide) _ _ _ rfl (HO.out.alloc _) wr.heap.size 1 1 #[.string ss[k].value.text] 9 rfl (heap_alloc_new wr _) rfl (by intro u hu; simp at hu; subst hu; rfl) (by have := HL.out; rw [List.length_take] at this; omega) (by have := HL.out; rw [List.length_take] at this; omega) (by have := hbw.size; simp; omega) ?_)
        intro v' w1 hown' hgrow
        have R := hide (STEP.out _ _ HN.out hown' hgrow)
        clear hown' hgrow
        go_wp2
        go_round
        case rel => exact ⟨k + 1, by omega, by go_num, R.out.1, R.out.2⟩
        case measure => simp [intOf]; omega
    · obtain rfl : k = ss.length := by omega
      rw [List.take_length] at hown
      have HO := hide hown
      clear hown hc ht
      go_wp2
      go_returns
      exact ⟨_, rfl, strs_of_own HO.out (fun k hk => hok k (HO.out.lt k hk).1), hbw⟩

/-! ### Back -/
theorem Same.of_below_lt {ok : Nat → Prop} {w w' : World} {B : Nat} (h : Below B w w') : Same (fun k => ok k ∧ k < B) w w' := fun k hk _ => h.block k hk.2

set_option maxHeartbeats 800000 in
theorem back_any (ok : Nat → Prop) (ss : List S) (v : Value) (w : World) (hok : ∀ k, w.heap.size ≤ k → ok k) (hv : SetsAt w ok v ss) (hl : ss.length ≤ 1073741824) :
    Calls Tryz.prog 17 #[v] w (RetSets ok w ss.reverse) := by
  have hv' : SetsAt w (fun k => ok k ∧ k < w.heap.size) v ss := hv.weaken (fun k h1 h2 => ⟨h1, h2⟩)
  clear hv
  obtain ⟨a, cap, c, rfl, hcap, hc, ht⟩ := hv'
  go_enter Tryz.func17, Tryz.ntmps17
  go_wp2
  go_loopw [3, 4] (fun v i wr => ∃ (k : Nat) (vs : List Value), k ≤ ss.length ∧ i = .int .i64 ((k : Int) - 1) ∧ Below w.heap.size w wr ∧ wr.ownsRow w.heap.size 45 7 v (ss.drop k).reverse.length (cellsOf vs) ∧ SettersAt w (fun k => ok k ∧ k < w.heap.size) vs (ss.drop k).reverse) (fun _ i _ => (intOf i + 1).toNat)
  case atStart =>
    refine ⟨ss.length, [], Nat.le_refl _, rfl, by go_grown, ?_, ?_⟩
    · rw [List.drop_length]; exact World.ownsRow_lit w #[] 0 (Nat.le_refl _) (by unfold maxLen; omega) rfl
    · rw [List.drop_length]; exact SettersAt.nil _ _
  case round =>
    obtain ⟨k, vs, hk, rfl, hbw, hown, hsa⟩ := hrel
    have HO := hide hown
    have HA := hide hsa
    clear hown hsa
    by_cases hlt : 0 < k
    · obtain ⟨k, rfl⟩ : ∃ k', k = k' + 1 := ⟨k - 1, by omega⟩
      obtain ⟨b, o, rfl, hb, hcell⟩ := hc k (by omega)
      obtain ⟨h0, htr⟩ := ht k ss[k] (by simp)
      have e0 := hcell 0 (by omega)
      have e1 := hcell 1 (by omega)
      have e2 := hcell 2 (by omega)
      have e3 := hcell 3 (by omega)
      have e4 := hcell 4 (by omega)
      have e5 := hcell 5 (by omega)
      have e6 := hcell 6 (by omega)
      obtain ⟨ka, kc, ta, tc, cc, hv6, -⟩ := htr.open
      rw [hv6] at htr
      simp only [Value.agg.injEq, Array.mk.injEq, List.cons.injEq, and_true] at hv6
      obtain ⟨v1, v2, v3, v4, v5, v6⟩ := hv6
      rw [h0] at e0
      rw [v1] at e1; rw [v2] at e2; rw [v3] at e3; rw [v4] at e4; rw [v5] at e5; rw [v6] at e6
      have hbl : b < w.heap.size := hb.2
      simp only [Nat.add_zero] at e0
      replace e0 := (hbw.cell hbl).trans e0
      replace e1 := (hbw.cell hbl).trans e1
      replace e2 := (hbw.cell hbl).trans e2
      replace e3 := (hbw.cell hbl).trans e3
      replace e4 := (hbw.cell hbl).trans e4
      replace e5 := (hbw.cell hbl).trans e5
      replace e6 := (hbw.cell hbl).trans e6
      rw [show ((k + 1 : Nat) : Int) - 1 = k by omega]
      have HT := hide htr
      have HD : Hid ((ss.drop k).reverse = (ss.drop (k + 1)).reverse ++ [ss[k]]) := hide (by rw [List.drop_eq_getElem_cons (by omega), List.reverse_cons])
      have HL : Hid ((ss.drop (k + 1)).reverse.length ≤ 1073741824) := hide (by simp; omega)
      have hwr : w.heap.size ≤ wr.heap.size := hbw.size
      clear hc ht hcell h0 htr v1 v2 v3 v4 v5 v6
      go_wp2_with (at_builtin; refine wpList_append_blk _ rfl (.tmp 13) (.tmp 18) 27 rfl w.heap.size 45 _ 7 104 Tryz.underlying27 Tryz.info45 rfl (by decide) _ _ _ rfl (HO.out.alloc _) wr.heap.size 1 1 _ 45 rfl (heap_alloc_new wr _) rfl (by intro u hu; simp at hu; rcases hu with rfl | rfl | rfl | rfl | rfl | rfl | rfl <;> rfl) (by have := HL.out; omega) (by have := HL.out; omega) (by have := hbw.size; simp; omega) ?_)
      intro v' w1 hown' hgrow
      have R : Hid (Below w.heap.size w w1 ∧ w1.ownsRow w.heap.size 45 7 v' (ss.drop k).reverse.length (cellsOf (vs ++ [.agg #[.string ss[k].name, .int .i64 ss[k].value.kind, .string ss[k].value.text, .float .f64 ss[k].value.num, .bool ss[k].value.yes, .slice ka ss[k].value.keys.length kc, .slice ta ss[k].value.kids.length tc]])) ∧
          SettersAt w (fun k => ok k ∧ k < w.heap.size) (vs ++ [.agg #[.string ss[k].name, .int .i64 ss[k].value.kind, .string ss[k].value.text, .float .f64 ss[k].value.num, .bool ss[k].value.yes, .slice ka ss[k].value.keys.length kc, .slice ta ss[k].value.kids.length tc]]) (ss.drop k).reverse) := by
        refine hide ⟨(hbw.alloc hbw.size _).grown hgrow (by simp; omega) (fun j hj => (HO.out.lt j hj).1), ?_, ?_⟩
        · rw [HD.out, List.length_append, cellsOf_append, cellsOf_one, show (ss.drop (k + 1)).reverse.length + [ss[k]].length = ss.length - (k + 1) + 1 by simp]
          exact hown'
        · rw [HD.out]
          exact HA.out.snoc ⟨_, rfl, HT.out⟩
      clear hown' hgrow e0 e1 e2 e3 e4 e5 e6
      go_wp2
      go_round
      case rel => exact ⟨k, _, by omega, rfl, R.out.1, R.out.2.1, R.out.2.2⟩
      case measure => first | (simp [intOf]; done) | (simp [intOf]; omega)
    · obtain rfl : k = 0 := by omega
      clear hc ht
      go_wp2
      go_returns
      refine ⟨_, rfl, ?_, hbw⟩
      have h1 := HO.out
      have h2 := HA.out
      rw [List.drop_zero] at h1 h2
      refine sets_of_own h1 ?_ (fun k hk => hok k (HO.out.lt k hk).1)
      exact ⟨h2.1, fun i v s hi hs => by
        obtain ⟨c, hc, htr⟩ := h2.2 i v s hi hs
        exact ⟨c, hc, (htr.same (Same.of_below_lt hbw)).weaken (fun k h _ => h.1)⟩⟩
end Go.Proofs.YtbcnhcpgloncdaaGreatDoor

/-
  CONTRACTS OF spec: Table at the four builders, Rows.
-/
namespace Go.Proofs.YtbcnhcpgloncdaaGreatDoor
open Go.RowKit Go.Sort

/-! ### Table -/
def tabMM : List UInt8 := [102, 105, 101, 108, 100, 32, 116, 44, 102, 105, 101, 108, 100, 95, 119, 105, 116, 104, 95, 98, 111, 111, 115, 116, 32, 102, 44, 97, 110, 97, 108, 121, 122, 101, 114, 32, 116, 44, 98, 111, 111, 115, 116, 32, 110, 44, 99, 117, 116, 111, 102, 102, 95, 102, 114, 101, 113, 117, 101, 110, 99, 121, 32, 110, 44, 102, 117, 122, 122, 105, 110, 101, 115, 115, 32, 116, 44, 102, 117, 122, 122, 121, 95, 114, 101, 119, 114, 105, 116, 101, 32, 116, 44, 108, 101, 110, 105, 101, 110, 116, 32, 98, 44, 109, 97, 120, 95, 101, 120, 112, 97, 110, 115, 105, 111, 110, 115, 32, 119, 44, 109, 105, 110, 105, 109, 117, 109, 95, 115, 104, 111, 117, 108, 100, 95, 109, 97, 116, 99, 104, 32, 116, 44, 111, 112, 101, 114, 97, 116, 111, 114, 32, 116, 44, 112, 114, 101, 102, 105, 120, 95, 108, 101, 110, 103, 116, 104, 32, 119, 44, 114, 101, 119, 114, 105, 116, 101, 32, 116, 44, 115, 108, 111, 112, 32, 119, 44, 116, 105, 101, 95, 98, 114, 101, 97, 107, 101, 114, 32, 110, 44, 116, 121, 112, 101, 32, 116, 44, 122, 101, 114, 111, 95, 116, 101, 114, 109, 115, 95, 113, 117, 101, 114, 121, 32, 116, 44, 95, 110, 97, 109, 101, 32, 116]
abbrev nmMM : List UInt8 := [77, 117, 108, 116, 105, 77, 97, 116, 99, 104]
def tabCF : List UInt8 := [102, 105, 101, 108, 100, 32, 116, 44, 102, 105, 101, 108, 100, 95, 119, 105, 116, 104, 95, 98, 111, 111, 115, 116, 32, 102, 44, 97, 117, 116, 111, 95, 103, 101, 110, 101, 114, 97, 116, 101, 95, 115, 121, 110, 111, 110, 121, 109, 115, 95, 112, 104, 114, 97, 115, 101, 95, 113, 117, 101, 114, 121, 32, 98, 44, 109, 105, 110, 105, 109, 117, 109, 95, 115, 104, 111, 117, 108, 100, 95, 109, 97, 116, 99, 104, 32, 116, 44, 111, 112, 101, 114, 97, 116, 111, 114, 32, 116, 44, 122, 101, 114, 111, 95, 116, 101, 114, 109, 115, 95, 113, 117, 101, 114, 121, 32, 116]
abbrev nmCF : List UInt8 := [67, 111, 109, 98, 105, 110, 101, 100, 70, 105, 101, 108, 100, 115]
def tabQS : List UInt8 := [102, 105, 101, 108, 100, 32, 116, 44, 102, 105, 101, 108, 100, 95, 119, 105, 116, 104, 95, 98, 111, 111, 115, 116, 32, 102, 44, 97, 108, 108, 111, 119, 95, 108, 101, 97, 100, 105, 110, 103, 95, 119, 105, 108, 100, 99, 97, 114, 100, 32, 98, 44, 97, 110, 97, 108, 121, 122, 101, 95, 119, 105, 108, 100, 99, 97, 114, 100, 32, 98, 44, 97, 110, 97, 108, 121, 122, 101, 114, 32, 116, 44, 98, 111, 111, 115, 116, 32, 110, 44, 100, 101, 102, 97, 117, 108, 116, 95, 102, 105, 101, 108, 100, 32, 116, 44, 100, 101, 102, 97, 117, 108, 116, 95, 111, 112, 101, 114, 97, 116, 111, 114, 32, 116, 44, 101, 110, 97, 98, 108, 101, 95, 112, 111, 115, 105, 116, 105, 111, 110, 95, 105, 110, 99, 114, 101, 109, 101, 110, 116, 115, 32, 98, 44, 101, 115, 99, 97, 112, 101, 32, 98, 44, 102, 117, 122, 122, 105, 110, 101, 115, 115, 32, 116, 44, 102, 117, 122, 122, 121, 95, 109, 97, 120, 95, 101, 120, 112, 97, 110, 115, 105, 111, 110, 115, 32, 119, 44, 102, 117, 122, 122, 121, 95, 112, 114, 101, 102, 105, 120, 95, 108, 101, 110, 103, 116, 104, 32, 119, 44, 102, 117, 122, 122, 121, 95, 114, 101, 119, 114, 105, 116, 101, 32, 116, 44, 108, 101, 110, 105, 101, 110, 116, 32, 98, 44, 109, 97, 120, 95, 100, 101, 116, 101, 114, 109, 105, 110, 105, 122, 101, 100, 95, 115, 116, 97, 116, 101, 115, 32, 119, 44, 109, 105, 110, 105, 109, 117, 109, 95, 115, 104, 111, 117, 108, 100, 95, 109, 97, 116, 99, 104, 32, 116, 44, 112, 104, 114, 97, 115, 101, 95, 115, 108, 111, 112, 32, 119, 44, 113, 117, 111, 116, 101, 95, 97, 110, 97, 108, 121, 122, 101, 114, 32, 116, 44, 113, 117, 111, 116, 101, 95, 102, 105, 101, 108, 100, 95, 115, 117, 102, 102, 105, 120, 32, 116, 44, 114, 101, 119, 114, 105, 116, 101, 32, 116, 44, 116, 105, 101, 95, 98, 114, 101, 97, 107, 101, 114, 32, 110, 44, 116, 105, 109, 101, 95, 122, 111, 110, 101, 32, 116, 44, 116, 121, 112, 101, 32, 116, 44, 95, 110, 97, 109, 101, 32, 116]
abbrev nmQS : List UInt8 := [81, 117, 101, 114, 121, 83, 116, 114, 105, 110, 103]
def tabSQ : List UInt8 := [102, 105, 101, 108, 100, 32, 116, 44, 102, 105, 101, 108, 100, 95, 119, 105, 116, 104, 95, 98, 111, 111, 115, 116, 32, 102, 44, 97, 110, 97, 108, 121, 122, 101, 95, 119, 105, 108, 100, 99, 97, 114, 100, 32, 98, 44, 97, 110, 97, 108, 121, 122, 101, 114, 32, 116, 44, 97, 117, 116, 111, 95, 103, 101, 110, 101, 114, 97, 116, 101, 95, 115, 121, 110, 111, 110, 121, 109, 115, 95, 112, 104, 114, 97, 115, 101, 95, 113, 117, 101, 114, 121, 32, 98, 44, 98, 111, 111, 115, 116, 32, 110, 44, 100, 101, 102, 97, 117, 108, 116, 95, 111, 112, 101, 114, 97, 116, 111, 114, 32, 116, 44, 102, 108, 97, 103, 115, 32, 116, 44, 102, 117, 122, 122, 121, 95, 109, 97, 120, 95, 101, 120, 112, 97, 110, 115, 105, 111, 110, 115, 32, 119, 44, 102, 117, 122, 122, 121, 95, 112, 114, 101, 102, 105, 120, 95, 108, 101, 110, 103, 116, 104, 32, 119, 44, 102, 117, 122, 122, 121, 95, 116, 114, 97, 110, 115, 112, 111, 115, 105, 116, 105, 111, 110, 115, 32, 98, 44, 108, 101, 110, 105, 101, 110, 116, 32, 98, 44, 109, 105, 110, 105, 109, 117, 109, 95, 115, 104, 111, 117, 108, 100, 95, 109, 97, 116, 99, 104, 32, 116, 44, 113, 117, 111, 116, 101, 95, 102, 105, 101, 108, 100, 95, 115, 117, 102, 102, 105, 120, 32, 116, 44, 95, 110, 97, 109, 101, 32, 116]
abbrev nmSQ : List UInt8 := [83, 105, 109, 112, 108, 101, 81, 117, 101, 114, 121, 83, 116, 114, 105, 110, 103]

theorem ret_bytes {a b : List UInt8} (h : a = b) : Ending.returned (.string ⟨a.toArray⟩) = .returned (.string ⟨b.toArray⟩) := by rw [h]

set_option maxHeartbeats 1000000 in
theorem table_MM (w : World) : Calls Tryz.prog 135 #[.string ⟨nmMM.toArray⟩] w fun e w' => e = .returned (.string ⟨tabMM.toArray⟩) ∧ w' = w := by
  go_enter Tryz.func135, Tryz.ntmps135
  go_wp2
  go_returns
  exact ⟨ret_bytes (by decide +kernel), rfl⟩

set_option maxHeartbeats 1000000 in
theorem table_CF (w : World) : Calls Tryz.prog 135 #[.string ⟨nmCF.toArray⟩] w fun e w' => e = .returned (.string ⟨tabCF.toArray⟩) ∧ w' = w := by
  go_enter Tryz.func135, Tryz.ntmps135
  go_wp2
  go_returns
  exact ⟨ret_bytes (by decide +kernel), rfl⟩

set_option maxHeartbeats 1000000 in
theorem table_QS (w : World) : Calls Tryz.prog 135 #[.string ⟨nmQS.toArray⟩] w fun e w' => e = .returned (.string ⟨tabQS.toArray⟩) ∧ w' = w := by
  go_enter Tryz.func135, Tryz.ntmps135
  go_wp2
  go_returns
  exact ⟨ret_bytes (by decide +kernel), rfl⟩

set_option maxHeartbeats 1000000 in
theorem table_SQ (w : World) : Calls Tryz.prog 135 #[.string ⟨nmSQ.toArray⟩] w fun e w' => e = .returned (.string ⟨tabSQ.toArray⟩) ∧ w' = w := by
  go_enter Tryz.func135, Tryz.ntmps135
  go_wp2
  go_returns
  exact ⟨ret_bytes (by decide +kernel), rfl⟩

end Go.Proofs.YtbcnhcpgloncdaaGreatDoor

/-
  THE CONTRACT OF spec.Rows: the settings of a table, each with its kind.
-/
namespace Go.Proofs.YtbcnhcpgloncdaaGreatDoor
open Go.RowKit Go.Sort

theorem Tryz.info103 : (Tryz.prog.info? 103).map (fun i => (i.zero, i.size, i.bytes)) = some (some (.agg #[.string ⟨#[]⟩, .string ⟨#[]⟩]), 2, 32) := by kernel_rfl

/-- The rows of a table's text, one behind the other; each has a blank. -/
def rowsF : Nat → List UInt8 → Option (List (List UInt8 × List UInt8))
  | 0, _ => none
  | n + 1, l =>
    if l = [] then some [] else
    let e := placeN l 44
    let row := l.take e
    let b := placeN row 32
    if b < row.length then
      if e = l.length then some [(row.take b, row.drop (b + 1))]
      else (rowsF n (l.drop (e + 1))).map fun r => (row.take b, row.drop (b + 1)) :: r
    else none

def bs (l : List UInt8) : ByteArray := ⟨l.toArray⟩
theorem bs_size (l : List UInt8) : (bs l).size = l.length := by simp [bs, ByteArray.size]
theorem bs_list (l : List UInt8) : (bs l).data.toList = l := rfl
theorem bs_extract (l : List UInt8) (i j : Nat) : (bs l).extract i j = bs ((l.take j).drop i) := by
  have h : ((bs l).extract i j).data.toList = (l.take j).drop i := by
    rw [ByteArray.data_extract, Array.toList_extract]
    show List.extract l i j = _
    rw [List.extract_eq_take_drop, List.drop_take]
  cases hx : (bs l).extract i j with
  | mk d => rw [hx] at h; show ByteArray.mk d = ByteArray.mk _; congr 1; exact Array.toList_inj.1 h

/-- A slice value that holds rows. -/
def RowsAt (w : World) (v : Value) (rs : List (List UInt8 × List UInt8)) : Prop :=
  ∃ a cap, v = .slice a rs.length cap ∧ rs.length ≤ cap ∧ ∀ i r, rs[i]? = some r → ∃ b o, a = some ⟨b, o, none⟩ ∧ w.cell? ⟨b, o + i * 2, none⟩ = some (.string (bs r.1)) ∧ w.cell? ⟨b, o + i * 2 + 1, none⟩ = some (.string (bs r.2))
def RetRows (w : World) (rs : List (List UInt8 × List UInt8)) (e : Ending) (w' : World) : Prop := ∃ v, e = .returned v ∧ RowsAt w' v rs ∧ Below w.heap.size w w'

theorem RowsAt.of_own {w : World} {base : Nat} {v : Value} {rs : List (List UInt8 × List UInt8)} (h : w.ownsRow base 103 2 v rs.length (rs.flatMap fun r => [.string (bs r.1), .string (bs r.2)])) : RowsAt w v rs := by
  obtain ⟨a, cap, hv, hnc, -, hc⟩ := World.ownsRow.form h
  have e : ∀ (rs : List (List UInt8 × List UInt8)) (i : Nat) (r : List UInt8 × List UInt8), rs[i]? = some r → (rs.flatMap fun r => [Value.string (bs r.1), .string (bs r.2)])[i * 2]? = some (.string (bs r.1)) ∧ (rs.flatMap fun r => [Value.string (bs r.1), .string (bs r.2)])[i * 2 + 1]? = some (.string (bs r.2)) := by
    intro rs
    induction rs with
    | nil => intro i r h; simp at h
    | cons x xs ih =>
      intro i r h
      cases i with
      | zero => simp at h; subst h; simp
      | succ i =>
        have := ih i r (by simpa using h)
        rw [show (i + 1) * 2 = i * 2 + 2 by omega, show i * 2 + 2 + 1 = i * 2 + 1 + 2 by omega]
        simpa using this
  refine ⟨a, cap, hv, hnc, fun i r hr => ?_⟩
  obtain ⟨e1, e2⟩ := e rs i r hr
  obtain ⟨g, rfl, -, -, h1⟩ := hc _ _ e1
  obtain ⟨g', e', -, -, h2⟩ := hc _ _ e2
  cases e'
  exact ⟨g, 0, rfl, by simpa using h1, by simpa using h2⟩

def rowCells (rs : List (List UInt8 × List UInt8)) : List Value := rs.flatMap fun r => [.string (bs r.1), .string (bs r.2)]

set_option maxHeartbeats 1000000 in
set_option maxRecDepth 100000 in
theorem rows_any (nm tab : List UInt8) (rs : List (List UInt8 × List UInt8)) (w : World) (ht : ∀ w, Calls Tryz.prog 135 #[.string (bs nm)] w fun e w' => e = .returned (.string (bs tab)) ∧ w' = w)
    (n : Nat) (hr : rowsF n tab = some rs) (hl : tab.length ≤ 1000) :
    Calls Tryz.prog 124 #[.string (bs nm)] w (RetRows w rs) := by
  go_enter Tryz.func124, Tryz.ntmps124
  go_wp2_with fail
  refine (ht _).mono ?_
  rintro e w1 ⟨rfl, rfl⟩
  go_wp2_with fail
  go_loopw [3, 4] (fun v tv wr => ∃ (l : List UInt8) (m : Nat) (done rest : List (List UInt8 × List UInt8)), tv = .string (bs l) ∧ l.length ≤ 1000 ∧ rowsF m l = some rest ∧ done ++ rest = rs ∧ done.length + l.length ≤ 1000 ∧ Below w.heap.size w wr ∧ wr.ownsRow w.heap.size 103 2 v done.length (rowCells done))
    (fun _ tv _ => match tv with | .string s => s.size | _ => 0)
  case atStart => exact ⟨tab, n, [], rs, rfl, hl, hr, rfl, by simpa using hl, by go_grown, World.ownsRow_lit w #[] 0 (Nat.le_refl _) (by unfold maxLen; omega) rfl⟩
  case round =>
    obtain ⟨l, m, done, rest, rfl, hll, hrest, hdone, hsum, hbw, hown⟩ := hrel
    have HO := hide hown
    have HD := hide hdone
    have hsz : (bs l).size = l.length := bs_size l
    clear hown hdone
    by_cases h0 : 0 < l.length
    · cases m with
      | zero => simp [rowsF] at hrest
      | succ m =>
        unfold rowsF at hrest
        rw [if_neg (by intro h; simp [h] at h0)] at hrest
        dsimp only at hrest
        split at hrest
        · rename_i hb
          have he := placeN_le l 44
          generalize hE : placeN l 44 = E at *
          generalize hBk : placeN (l.take E) 32 = Bk at *
          have hx1 : (bs l).extract 0 E = bs (l.take E) := by rw [bs_extract]; simp
          have HR := hide hrest
          have HE := hide hE
          have HB := hide hBk
          have hlt : (l.take E).length = E := by rw [List.length_take]; omega
          have hszr : (bs (l.take E)).size = E := by rw [bs_size, hlt]
          rw [hlt] at hb
          clear hrest hE hBk hlt
          go_wp2_with fail
          refine (place_any (bs l) 44 _ (by unfold maxLen; omega)).mono ?_
          rintro e w1 ⟨rfl, rfl⟩
          rw [show placeN (bs l).data.toList 44 = E from HE.out]
          go_wp2_with fail
          refine (place_any (bs (l.take E)) 32 _ (by unfold maxLen; omega)).mono ?_
          rintro e w2 ⟨rfl, rfl⟩
          rw [show placeN (bs (l.take E)).data.toList 32 = Bk from HB.out]
          have hx2 : (bs (l.take E)).extract 0 Bk = bs ((l.take E).take Bk) := by rw [bs_extract]; simp
          have hx3 : (bs (l.take E)).extract (Bk + 1) E = bs ((l.take E).drop (Bk + 1)) := by rw [bs_extract, List.take_take, Nat.min_self]
          obtain ⟨c1, hc1⟩ : ∃ c, c = bs ((l.take E).take Bk) := ⟨_, rfl⟩
          obtain ⟨c2, hc2⟩ : ∃ c, c = bs ((l.take E).drop (Bk + 1)) := ⟨_, rfl⟩
          rw [← hc1] at hx2
          rw [← hc2] at hx3
          have HC := hide (And.intro hc1 hc2)
          clear hc1 hc2
          generalize hrw : bs (l.take E) = row at *
          have HW := hide hrw
          clear hrw
          have j1 : (0 : Int) ≤ (Bk : Int) := by omega
          have j2 : (Bk : Int) ≤ (E : Int) := by omega
          have j3 : (Bk : Int) + 1 ≤ (E : Int) := by omega
          have j4 : IntKind.i64.wrap ((Bk : Int) + 1) = (Bk : Int) + 1 := IntWalk.i64_in _ ⟨by omega, by omega⟩
          have j5 : ((Bk : Int) + 1).toNat = Bk + 1 := by omega
          have j6 : (0 : Int) ≤ (Bk : Int) + 1 := by omega
          go_wp2_with fail
          go_region_held3 (fun _ => True) (trivial) ((refine step_append_blk _ (by rfl) (.tmp 21) (.tmp 30) 100 (by rfl) w.heap.size 103 (.agg #[.string ⟨#[]⟩, .string ⟨#[]⟩]) 2 32 Tryz.underlying100 Tryz.info103 rfl (by decide) u3 done.length (rowCells done) (by rfl) ((HO.out.alloc _).drew) w2.heap.size 1 1 #[.string c1, .string c2] 103 (by rfl) (heap_alloc_new _ _) rfl (by intro u hu; simp at hu; rcases hu with rfl | rfl <;> rfl) (by omega) (by omega) (by have := hbw.size; simp; omega) ?_; intro v' w3 hown' hgrow))
          have R : Hid (Below w.heap.size w w3 ∧ w3.ownsRow w.heap.size 103 2 v' (done ++ [((l.take E).take Bk, (l.take E).drop (Bk + 1))]).length (rowCells (done ++ [((l.take E).take Bk, (l.take E).drop (Bk + 1))]))) := by
            refine hide ⟨((hbw.alloc hbw.size _).drew).grown hgrow (by have := hbw.size; simp; omega) (fun j hj => (HO.out.lt j hj).1), ?_⟩
            have e : rowCells (done ++ [((l.take E).take Bk, (l.take E).drop (Bk + 1))]) = rowCells done ++ [.string c1, .string c2] := by
              rw [HC.out.1, HC.out.2]; simp [rowCells]
            rw [e]
            simpa using hown'
          clear hown' hgrow
          by_cases hend : E = l.length
          · have hR := HR.out
            rw [if_pos hend] at hR
            have hq : ((E : Int) == (l.length : Int)) = true := by simp [hend]
            have HEND := hide hend
            clear hend
            go_wp2
            go_returns
            have hd := HD.out
            cases hR
            rw [← hd]
            exact ⟨_, rfl, RowsAt.of_own R.out.2, R.out.1⟩
          · have hR := HR.out
            rw [if_neg hend] at hR
            have hq : ((E : Int) == (l.length : Int)) = false := by simp; omega
            have hlt : E + 1 ≤ l.length := by omega
            have hx4 : (bs l).extract (E + 1) l.length = bs (l.drop (E + 1)) := by rw [bs_extract, List.take_length]
            clear hend
            go_wp2
            go_round
            case rel =>
              obtain ⟨r, hr1, hr2⟩ := Option.map_eq_some_iff.1 hR
              refine ⟨l.drop (E + 1), m, _, r, rfl, by rw [List.length_drop]; omega, hr1, ?_, ?_, R.out.1, R.out.2⟩
              · rw [List.append_assoc, ← HD.out, ← hr2]; rfl
              · rw [List.length_append, List.length_drop]; simp; omega
            case measure =>
              show (bs (l.drop (E + 1))).size < (bs l).size
              rw [bs_size, bs_size, List.length_drop]; omega
        · cases hrest
    · obtain rfl : l = [] := List.eq_nil_of_length_eq_zero (by omega)
      have hd := HD.out
      cases m with
      | zero => simp [rowsF] at hrest
      | succ m =>
        unfold rowsF at hrest
        rw [if_pos rfl] at hrest
        cases hrest
        rw [List.append_nil] at hd
        have HD' := hide hd
        clear hd
        go_wp2
        go_returns
        rw [← HD'.out]
        exact ⟨_, rfl, RowsAt.of_own HO.out, hbw⟩
end Go.Proofs.YtbcnhcpgloncdaaGreatDoor

/-
  THE CONTRACT OF spec.kindIn at the four builders.
-/
namespace Go.Proofs.YtbcnhcpgloncdaaGreatDoor
open Go.RowKit Go.Sort

def rowsMM : List (List UInt8 × List UInt8) := (rowsF 60 tabMM).getD []
def rowsCF : List (List UInt8 × List UInt8) := (rowsF 60 tabCF).getD []
def rowsQS : List (List UInt8 × List UInt8) := (rowsF 60 tabQS).getD []
def rowsSQ : List (List UInt8 × List UInt8) := (rowsF 60 tabSQ).getD []

/-- What is known of a builder: its name, its rows, and that spec.Rows gives them. -/
structure Builder where
  nm : List UInt8
  rows : List (List UInt8 × List UInt8)
  small : rows.length ≤ 100
  calls : ∀ w, Calls Tryz.prog 124 #[.string (bs nm)] w (RetRows w rows)

def MM : Builder := { nm := nmMM, rows := rowsMM, small := by decide +kernel, calls := fun w => rows_any nmMM tabMM rowsMM w table_MM 60 (by decide +kernel) (by decide +kernel) }
def CF : Builder := { nm := nmCF, rows := rowsCF, small := by decide +kernel, calls := fun w => rows_any nmCF tabCF rowsCF w table_CF 60 (by decide +kernel) (by decide +kernel) }
def QS : Builder := { nm := nmQS, rows := rowsQS, small := by decide +kernel, calls := fun w => rows_any nmQS tabQS rowsQS w table_QS 60 (by decide +kernel) (by decide +kernel) }
def SQ : Builder := { nm := nmSQ, rows := rowsSQ, small := by decide +kernel, calls := fun w => rows_any nmSQ tabSQ rowsSQ w table_SQ 60 (by decide +kernel) (by decide +kernel) }

/-- The kind of a setting, empty if it is none. -/
def kindF (rs : List (List UInt8 × List UInt8)) (name : ByteArray) : List UInt8 := ((rs.find? (fun r => eqB (bs r.1) name)).map (·.2)).getD []

theorem kindF_hit {rs : List (List UInt8 × List UInt8)} {name : ByteArray} {k : Nat} (hk : k < rs.length) (hno : ∀ (j : Nat) r, j < k → rs[j]? = some r → eqB (bs r.1) name = false) (h : eqB (bs rs[k].1) name = true) : kindF rs name = rs[k].2 := by
  unfold kindF
  have : rs.find? (fun r => eqB (bs r.1) name) = some rs[k] := by
    have e : rs = rs.take k ++ rs[k] :: rs.drop (k + 1) := by rw [← List.drop_eq_getElem_cons hk, List.take_append_drop]
    have hd : (rs.take k).find? (fun r => eqB (bs r.1) name) = none := by
      rw [List.find?_eq_none]
      intro x hx
      obtain ⟨j, hj⟩ := List.mem_iff_getElem?.1 hx
      rw [List.getElem?_take] at hj
      split at hj
      · rename_i hjk; simpa using hno j x hjk hj
      · cases hj
    conv => lhs; rw [e]
    rw [List.find?_append, hd]
    show List.find? (fun r => eqB (bs r.1) name) (rs[k] :: rs.drop (k + 1)) = _
    rw [List.find?_cons, h]
  rw [this]; rfl
theorem kindF_miss {rs : List (List UInt8 × List UInt8)} {name : ByteArray} (hno : ∀ (j : Nat) r, rs[j]? = some r → eqB (bs r.1) name = false) : kindF rs name = [] := by
  unfold kindF
  have : rs.find? (fun r => eqB (bs r.1) name) = none := by
    rw [List.find?_eq_none]
    intro x hx
    obtain ⟨j, hj⟩ := List.mem_iff_getElem?.1 hx
    simpa using hno j x hj
  rw [this]; rfl

def RetText (w : World) (l : List UInt8) (e : Ending) (w' : World) : Prop := e = .returned (.string (bs l)) ∧ Below w.heap.size w w'

set_option maxHeartbeats 400000 in
theorem kindIn_any (B : Builder) (name : ByteArray) (w : World) : Calls Tryz.prog 28 #[.string (bs B.nm), .string name] w (RetText w (kindF B.rows name)) := by
  obtain ⟨nm, rows, small, calls⟩ := B
  show Calls Tryz.prog 28 #[.string (bs nm), .string name] w (RetText w (kindF rows name))
  have HC := hide calls
  clear calls
  go_enter Tryz.func28, Tryz.ntmps28
  go_wp2_with fail
  refine (HC.out _).mono ?_
  rintro e w1 ⟨v, rfl, ⟨a, cap, rfl, hcap, hc⟩, hb1⟩
  go_wp2_with fail
  go_loop [6] (fun i => ∃ k : Nat, k ≤ rows.length ∧ i = .int .i64 k ∧ (∀ (j : Nat) r, j < k → rows[j]? = some r → eqB (bs r.1) name = false)) (fun i => rows.length - (intOf i).toNat)
  case atStart => exact ⟨0, Nat.zero_le _, rfl, fun j x hj => absurd hj (by omega)⟩
  case round =>
    obtain ⟨k, hk, rfl, hno⟩ := hrel
    have HNO := hide hno
    clear hno
    by_cases hlt : k < rows.length
    · obtain ⟨b, o, rfl, h1, h2⟩ := hc k rows[k] (by simp)
      clear hc
      cases hn : eqB (bs rows[k].1) name
      · go_wp2
        go_round
        case rel =>
          refine ⟨k + 1, by omega, by go_num, fun j x hj hx => ?_⟩
          rcases Nat.lt_succ_iff_lt_or_eq.1 hj with h | rfl
          · exact HNO.out j x h hx
          · rw [List.getElem?_eq_getElem hlt] at hx; cases hx; exact hn
        case measure => simp [intOf]; omega
      · have HF := hide (kindF_hit hlt HNO.out hn)
        go_wp2
        go_returns
        exact ⟨ret_string (by rw [HF.out]), hb1⟩
    · have HF := hide (kindF_miss (rs := rows) (name := name) fun j x hx => HNO.out j x (by have := (List.getElem?_eq_some_iff.1 hx).1; omega) hx)
      clear hc
      go_wp2
      go_returns
      exact ⟨ret_string (by rw [HF.out]; rfl), hb1⟩
end Go.Proofs.YtbcnhcpgloncdaaGreatDoor

/-
  FLOATS AS SCALED WHOLE NUMBERS: 'sc n' is what the bits n stand for, times 2 ^ 1074; comparisons and int(x) said of it.
-/
namespace Go.Proofs.YtbcnhcpgloncdaaGreatDoor
open Go.RowKit
open Ieee (Datum)

def E0 : Nat := 1074
theorem E0_is : E0 = 1074 := rfl
/-- What 1 is. -/
def U : Int := ((2 ^ E0 : Nat) : Int)
theorem U_pos : 0 < U := by unfold U; exact Int.natCast_pos.2 (Nat.two_pow_pos _)

def sc (n : Nat) : Int := match dbl.read n with
  | .number s m i => Ieee.signed s m (i + 1074).toNat
  | _ => 0
def isNum (n : Nat) : Bool := match dbl.read n with
  | .number .. => true
  | _ => false

theorem signed_add (s : Bool) (m a k : Nat) : Ieee.signed s m (a + k) = Ieee.signed s m a * 2 ^ k := by
  have h : m <<< (a + k) = m <<< a * 2 ^ k := by rw [Nat.shiftLeft_eq, Nat.shiftLeft_eq, Nat.pow_add, Nat.mul_assoc]
  cases s <;> simp [Ieee.signed, h, Int.neg_mul]

theorem read_place {n : Nat} {s : Bool} {m : Nat} {i : Int} (h : dbl.read n = .number s m i) : -1074 ≤ i := by
  unfold Ieee.Format.read at h
  have e : dbl.leastPlace = -1074 := by decide
  rw [e] at h
  dsimp only at h
  split at h
  · cases h; omega
  · split at h
    · cases h; omega
    · split at h <;> cases h

theorem compare_mul (a b : Int) (p : Nat) (hp : 0 < p) : compare (a * p) (b * p) = compare a b := by
  rcases Int.lt_trichotomy a b with h | h | h
  · rw [(Int.compare_eq_lt).2 h, (Int.compare_eq_lt).2 (Int.mul_lt_mul_of_pos_right h (by omega))]
  · subst h; simp
  · rw [(Int.compare_eq_gt).2 h, (Int.compare_eq_gt).2 (Int.mul_lt_mul_of_pos_right h (by omega))]

theorem order_num {x y : Nat} (hx : isNum x = true) (hy : isNum y = true) : dbl.order x y = some (compare (sc x) (sc y)) := by
  unfold isNum at hx hy
  unfold Ieee.Format.order sc
  cases h1 : dbl.read x with
  | number s m i =>
    cases h2 : dbl.read y with
    | number t n j =>
      have p1 := read_place h1
      have p2 := read_place h2
      simp only [Datum.order]
      have e1 : (i + 1074).toNat = (i - min i j).toNat + (min i j + 1074).toNat := by omega
      have e2 : (j + 1074).toNat = (j - min i j).toNat + (min i j + 1074).toNat := by omega
      rw [e1, e2, signed_add, signed_add]
      have := compare_mul (Ieee.signed s m (i - min i j).toNat) (Ieee.signed t n (j - min i j).toNat) (2 ^ (min i j + 1074).toNat) (Nat.two_pow_pos _)
      rw [← this]
      simp
    | infinity _ => rw [h2] at hy; cases hy
    | nan _ _ => rw [h2] at hy; cases hy
  | infinity _ => rw [h1] at hx; cases hx
  | nan _ _ => rw [h1] at hx; cases hx

theorem fin_num (n : Nat) : fin n = isNum n := by
  unfold fin isNum Ieee.Format.sub
  cases h : dbl.read n with
  | number s m i => simp [Datum.opposite, Datum.sum]
  | infinity s => cases s <;> simp [Datum.opposite, Datum.sum]
  | nan s f => simp [Datum.sum]

theorem cut_zero (s : Bool) (n d : Nat) : Ieee.Toward.cut .zero s n d = n / 2 ^ d := by
  unfold Ieee.Toward.cut
  simp only [Bool.toNat_false, Nat.add_zero]
  rw [Nat.shiftLeft_eq, Nat.one_mul]
  rcases Nat.le_total d (n.log2 + 2) with h | h
  · rw [Nat.min_eq_left h]
  · rw [Nat.min_eq_right h]
    have hlt : n < 2 ^ (n.log2 + 2) := Nat.lt_of_lt_of_le Nat.lt_log2_self (Nat.pow_le_pow_right (by omega) (by omega))
    rw [Nat.div_eq_of_lt hlt, Nat.div_eq_of_lt (Nat.lt_of_lt_of_le hlt (Nat.pow_le_pow_right (by omega) h))]

theorem toInt_sc {n : Nat} (hn : isNum n = true) (h0 : 0 ≤ sc n) : (FloatKind.f64.decode n).toInt .zero = some (sc n / U) := by
  unfold U
  show (dbl.read n).toInt .zero = _
  unfold isNum at hn
  unfold sc at *
  cases h : dbl.read n with
  | number s m i =>
    rw [h] at h0
    have p := read_place h
    simp only at h0
    simp only [Datum.toInt, Datum.integral, cut_zero, Option.some.injEq]
    have key : ∀ m' : Nat, (m' <<< i.toNat / 2 ^ (-i).toNat : Nat) = (m' <<< (i + 1074).toNat) / 2 ^ E0 := by
      intro m'
      have hE := E0_is
      rw [Nat.shiftLeft_eq, Nat.shiftLeft_eq]
      rcases Int.le_total 0 i with hi | hi
      · have e1 : (-i).toNat = 0 := by omega
        have e2 : (i + 1074).toNat = i.toNat + E0 := by omega
        rw [e1, e2, Nat.pow_zero, Nat.div_one, Nat.pow_add, ← Nat.mul_assoc, Nat.mul_div_cancel _ (Nat.two_pow_pos _)]
      · have e1 : i.toNat = 0 := by omega
        have e2 : E0 = (i + 1074).toNat + (-i).toNat := by omega
        rw [e1, Nat.pow_zero, Nat.mul_one]
        rw [show (2 : Nat) ^ E0 = 2 ^ (i + 1074).toNat * 2 ^ (-i).toNat by rw [← Nat.pow_add]; exact congrArg _ e2]
        rw [Nat.mul_comm m', Nat.mul_div_mul_left _ _ (Nat.two_pow_pos _)]
    cases s with
    | false =>
      simp only [Ieee.signed]
      rw [key]
      simp
    | true =>
      simp only [Ieee.signed, if_true] at h0 ⊢
      have hz : m = 0 := by
        rcases Nat.eq_zero_or_pos m with h | h
        · exact h
        · have : 0 < m <<< (i + 1074).toNat := by rw [Nat.shiftLeft_eq]; exact Nat.mul_pos h (Nat.two_pow_pos _)
          omega
      subst hz
      simp
  | infinity _ => rw [h] at hn; cases hn
  | nan _ _ => rw [h] at hn; cases hn

/-- A number from 0 to 1000000: what int(x) is. -/
theorem int_small {n : Nat} (hn : isNum n = true) (h0 : 0 ≤ sc n) (h1 : sc n ≤ 1000000 * U) : floatToIntVal .f64 n .i64 = some (sc n / U) ∧ 0 ≤ sc n / U ∧ sc n / U ≤ 1000000 := by
  have a0 : 0 ≤ sc n / U := Int.ediv_nonneg h0 (Int.le_of_lt U_pos)
  have a1 : sc n / U ≤ 1000000 := Int.ediv_le_of_le_mul U_pos h1
  refine ⟨?_, a0, a1⟩
  unfold floatToIntVal
  rw [toInt_sc hn h0]
  simp only
  rw [if_pos]
  exact ⟨Int.le_trans (by decide) a0, Int.le_trans a1 (by decide)⟩
end Go.Proofs.YtbcnhcpgloncdaaGreatDoor

/-
  THE CONTRACT OF spec.fit at the kinds that the four builders have.
-/
namespace Go.Proofs.YtbcnhcpgloncdaaGreatDoor
open Go.RowKit Go.Sort
open Ieee (Datum)

abbrev geB (x c : Nat) : Bool := FloatKind.f64.format.order x c == some .gt || FloatKind.f64.format.order x c == some .eq
abbrev leB (x c : Nat) : Bool := FloatKind.f64.format.order x c == some .lt || FloatKind.f64.format.order x c == some .eq
/-- float64(int(x)) == x -/
def intEq (n : Nat) : Bool := match floatToIntVal .f64 n .i64 with
  | some m => FloatKind.f64.format.order (floatOfInt .f64 m) n == some .eq
  | none => false
abbrev f1e6 : Nat := 4696837146684686336
abbrev f64k : Nat := 4679028906605412352
abbrev f1 : Nat := 4607182418800017408
abbrev f64 : Nat := 4634204016564240384
def wholeB (n : Nat) : Bool := geB n 0 && (leB n f1e6 && intEq n)
def boostB (n : Nat) : Bool := match dbl.mul n f64 with
  | some p => geB p f1 && (leB p f64k && intEq p)
  | none => false

def fitB (kind : List UInt8) (t : T) : Bool :=
  if kind = [116] then t.kind == 1 && scalarT t
  else if kind = [110] then t.kind == 2 && scalarT t
  else if kind = [119] then t.kind == 2 && (scalarT t && wholeB t.num)
  else if kind = [98] then t.kind == 3 && scalarT t
  else if kind = [102] then t.kind == 1 && (scalarT t && (fieldB t.text && boostB t.num))
  else false

theorem geB_sc {x c : Nat} (hx : isNum x = true) (hc : isNum c = true) : geB x c = true ↔ sc c ≤ sc x := by
  unfold geB
  show (dbl.order x c == some .gt || dbl.order x c == some .eq) = true ↔ _
  rw [order_num hx hc]
  rcases Int.lt_trichotomy (sc x) (sc c) with h | h | h
  · rw [Int.compare_eq_lt.2 h]; simp; omega
  · rw [h]; simp
  · rw [Int.compare_eq_gt.2 h]; simp; omega
theorem leB_sc {x c : Nat} (hx : isNum x = true) (hc : isNum c = true) : leB x c = true ↔ sc x ≤ sc c := by
  unfold leB
  show (dbl.order x c == some .lt || dbl.order x c == some .eq) = true ↔ _
  rw [order_num hx hc]
  rcases Int.lt_trichotomy (sc x) (sc c) with h | h | h
  · rw [Int.compare_eq_lt.2 h]; simp; omega
  · rw [h]; simp
  · rw [Int.compare_eq_gt.2 h]; simp; omega
theorem sc_0 : sc 0 = 0 := by decide +kernel
theorem sc_1 : sc f1 = U := by decide +kernel
theorem sc_1e6 : sc f1e6 = 1000000 * U := by decide +kernel
theorem sc_64k : sc f64k = 64000 * U := by decide +kernel
theorem num_between {x a b : Nat} (ha : isNum a = true) (hb : isNum b = true) (h1 : geB x a = true) (h2 : leB x b = true) : isNum x = true := by
  unfold isNum at *
  unfold geB at h1
  unfold leB at h2
  simp only [show FloatKind.f64.format.order x a = (dbl.read x).order (dbl.read a) from rfl, show FloatKind.f64.format.order x b = (dbl.read x).order (dbl.read b) from rfl] at h1 h2
  cases hx : dbl.read x with
  | number s m i => rfl
  | infinity s =>
    rw [hx] at h1 h2
    cases ha' : dbl.read a <;> rw [ha'] at ha h1 <;> simp_all
    cases hb' : dbl.read b <;> rw [hb'] at hb h2 <;> simp_all
    cases s <;> simp_all [Datum.order]
  | nan s f =>
    rw [hx] at h1
    cases ha' : dbl.read a <;> rw [ha'] at ha h1 <;> simp_all [Datum.order]

/-- At a whole number in range the conversion is determined. -/
theorem whole_int {n : Nat} (hn : isNum n = true) (h0 : geB n 0 = true) (h1 : leB n f1e6 = true) : ∃ m, floatToIntVal .f64 n .i64 = some m ∧ 0 ≤ m ∧ m ≤ 1000000 := by
  have e0 := (geB_sc hn (by decide)).1 h0
  have e1 := (leB_sc hn (by decide)).1 h1
  rw [sc_0] at e0
  rw [sc_1e6] at e1
  exact ⟨_, int_small hn e0 e1⟩


set_option maxHeartbeats 1000000 in
set_option maxRecDepth 100000 in
theorem fit_t (ok : Nat → Prop) (t : T) (v : Value) (w : World) (hv : TreeAt w ok v t) : Calls Tryz.prog 27 #[.string (bs [116]), v] w (RetBool w (fitB [116] t)) := by
  obtain ⟨ka, kc, ta, tc, cc, rfl, -, -, -, -, -⟩ := hv.open
  have HV := hide (fun w' (hb : Below w.heap.size w w') => hv.same (Same.of_below hb))
  clear hv
  have hL : (bs [116]).toList = [116] := by rw [ByteArray.toList_eq]; rfl
  have key : ∀ b, fitB [116] t = b → Calls Tryz.prog 27 #[.string (bs [116]), .agg #[.int .i64 t.kind, .string t.text, .float .f64 t.num, .bool t.yes, .slice ka t.keys.length kc, .slice ta t.kids.length tc]] w (RetBool w b) := by
    intro b hb
    have HB := hide hb
    clear hb
    cases h1 : (t.kind == 1)
    · have HF : Hid (fitB [116] t = false) := hide (by simp [fitB, h1])
      go_enter Tryz.func27, Tryz.ntmps27
      go_wp2_with fail
      go_returns
      exact ⟨ret_bool (by rw [← HB.out, HF.out]), by go_grown⟩
    · have HF : Hid (fitB [116] t = scalarT t) := hide (by simp [fitB, h1])
      go_enter Tryz.func27, Tryz.ntmps27
      go_wp2_with fail
      refine (scalar_any ok t _ _ (HV.out _ (by go_grown))).mono ?_
      rintro e w1 ⟨rfl, hb1⟩
      go_wp2_with fail
      go_returns
      exact ⟨ret_bool (by rw [← HB.out, HF.out]), (Below.alloc (Below.refl _ _) (Nat.le_refl _) _).trans (hb1.mono (by simp))⟩

  exact key _ rfl

set_option maxHeartbeats 1000000 in
set_option maxRecDepth 100000 in
theorem fit_n (ok : Nat → Prop) (t : T) (v : Value) (w : World) (hv : TreeAt w ok v t) : Calls Tryz.prog 27 #[.string (bs [110]), v] w (RetBool w (fitB [110] t)) := by
  obtain ⟨ka, kc, ta, tc, cc, rfl, -, -, -, -, -⟩ := hv.open
  have HV := hide (fun w' (hb : Below w.heap.size w w') => hv.same (Same.of_below hb))
  clear hv
  have hL : (bs [110]).toList = [110] := by rw [ByteArray.toList_eq]; rfl
  have key : ∀ b, fitB [110] t = b → Calls Tryz.prog 27 #[.string (bs [110]), .agg #[.int .i64 t.kind, .string t.text, .float .f64 t.num, .bool t.yes, .slice ka t.keys.length kc, .slice ta t.kids.length tc]] w (RetBool w b) := by
    intro b hb
    have HB := hide hb
    clear hb
    cases h1 : (t.kind == 2)
    · have HF : Hid (fitB [110] t = false) := hide (by simp [fitB, h1])
      go_enter Tryz.func27, Tryz.ntmps27
      go_wp2_with fail
      go_returns
      exact ⟨ret_bool (by rw [← HB.out, HF.out]), by go_grown⟩
    · have HF : Hid (fitB [110] t = scalarT t) := hide (by simp [fitB, h1])
      go_enter Tryz.func27, Tryz.ntmps27
      go_wp2_with fail
      refine (scalar_any ok t _ _ (HV.out _ (by go_grown))).mono ?_
      rintro e w1 ⟨rfl, hb1⟩
      go_wp2_with fail
      go_returns
      exact ⟨ret_bool (by rw [← HB.out, HF.out]), (Below.alloc (Below.refl _ _) (Nat.le_refl _) _).trans (hb1.mono (by simp))⟩

  exact key _ rfl

set_option maxHeartbeats 1000000 in
set_option maxRecDepth 100000 in
theorem fit_b (ok : Nat → Prop) (t : T) (v : Value) (w : World) (hv : TreeAt w ok v t) : Calls Tryz.prog 27 #[.string (bs [98]), v] w (RetBool w (fitB [98] t)) := by
  obtain ⟨ka, kc, ta, tc, cc, rfl, -, -, -, -, -⟩ := hv.open
  have HV := hide (fun w' (hb : Below w.heap.size w w') => hv.same (Same.of_below hb))
  clear hv
  have hL : (bs [98]).toList = [98] := by rw [ByteArray.toList_eq]; rfl
  have key : ∀ b, fitB [98] t = b → Calls Tryz.prog 27 #[.string (bs [98]), .agg #[.int .i64 t.kind, .string t.text, .float .f64 t.num, .bool t.yes, .slice ka t.keys.length kc, .slice ta t.kids.length tc]] w (RetBool w b) := by
    intro b hb
    have HB := hide hb
    clear hb
    cases h1 : (t.kind == 3)
    · have HF : Hid (fitB [98] t = false) := hide (by simp [fitB, h1])
      go_enter Tryz.func27, Tryz.ntmps27
      go_wp2_with fail
      go_returns
      exact ⟨ret_bool (by rw [← HB.out, HF.out]), by go_grown⟩
    · have HF : Hid (fitB [98] t = scalarT t) := hide (by simp [fitB, h1])
      go_enter Tryz.func27, Tryz.ntmps27
      go_wp2_with fail
      refine (scalar_any ok t _ _ (HV.out _ (by go_grown))).mono ?_
      rintro e w1 ⟨rfl, hb1⟩
      go_wp2_with fail
      go_returns
      exact ⟨ret_bool (by rw [← HB.out, HF.out]), (Below.alloc (Below.refl _ _) (Nat.le_refl _) _).trans (hb1.mono (by simp))⟩

  exact key _ rfl

set_option maxHeartbeats 1000000 in
set_option maxRecDepth 100000 in
theorem fit_none (ok : Nat → Prop) (t : T) (v : Value) (w : World) (hv : TreeAt w ok v t) : Calls Tryz.prog 27 #[.string (bs []), v] w (RetBool w (fitB [] t)) := by
  obtain ⟨ka, kc, ta, tc, cc, rfl, -, -, -, -, -⟩ := hv.open
  have HV := hide (fun w' (hb : Below w.heap.size w w') => hv.same (Same.of_below hb))
  clear hv
  have hL : (bs []).toList = [] := by rw [ByteArray.toList_eq]; rfl
  have key : ∀ b, fitB [] t = b → Calls Tryz.prog 27 #[.string (bs []), .agg #[.int .i64 t.kind, .string t.text, .float .f64 t.num, .bool t.yes, .slice ka t.keys.length kc, .slice ta t.kids.length tc]] w (RetBool w b) := by
    intro b hb
    have HB := hide hb
    clear hb
    have HF : Hid (fitB [] t = false) := hide rfl
    go_enter Tryz.func27, Tryz.ntmps27
    go_wp2_with fail
    go_returns
    exact ⟨ret_bool (by rw [← HB.out, HF.out]), by go_grown⟩

  exact key _ rfl

set_option maxHeartbeats 1000000 in
set_option maxRecDepth 100000 in
theorem fit_w (ok : Nat → Prop) (t : T) (v : Value) (w : World) (hv : TreeAt w ok v t) : Calls Tryz.prog 27 #[.string (bs [119]), v] w (RetBool w (fitB [119] t)) := by
  obtain ⟨ka, kc, ta, tc, cc, rfl, -, -, -, -, -⟩ := hv.open
  have HV := hide (fun w' (hb : Below w.heap.size w w') => hv.same (Same.of_below hb))
  clear hv
  have hL : (bs [119]).toList = [119] := by rw [ByteArray.toList_eq]; rfl
  have key : ∀ b, fitB [119] t = b → Calls Tryz.prog 27 #[.string (bs [119]), .agg #[.int .i64 t.kind, .string t.text, .float .f64 t.num, .bool t.yes, .slice ka t.keys.length kc, .slice ta t.kids.length tc]] w (RetBool w b) := by
    intro b hb
    have HB := hide hb
    clear hb
    cases h1 : (t.kind == 2)
    · have HF : Hid (fitB [119] t = false) := hide (by simp [fitB, h1])
      go_enter Tryz.func27, Tryz.ntmps27
      go_wp2_with fail
      go_returns
      exact ⟨ret_bool (by rw [← HB.out, HF.out]), by go_grown⟩
    · have HF : Hid (fitB [119] t = (scalarT t && wholeB t.num)) := hide (by simp [fitB, h1])
      have hz : (Below w.heap.size w (w.alloc (.cells #[.int .i64 t.kind, .string t.text, .float .f64 t.num, .bool t.yes, .slice ka t.keys.length kc, .slice ta t.kids.length tc] 26))) := by go_grown
      cases hs : scalarT t
      · go_enter Tryz.func27, Tryz.ntmps27
        go_wp2_with fail
        refine (scalar_any ok t _ _ (HV.out _ (by go_grown))).mono ?_
        rw [hs]
        rintro e w1 ⟨rfl, hb1⟩
        go_wp2_with fail
        go_returns
        exact ⟨ret_bool (by rw [← HB.out, HF.out, hs]; rfl), hz.trans (hb1.mono (by simp))⟩
      · have hnum : Hid (isNum t.num = true) := hide (by
          have hs' := hs
          unfold scalarT at hs'
          split at hs'
          · cases hs'
          · have hk : t.kind = 2 := by simpa using h1
            rw [if_neg (by rw [hk]; decide), if_pos hk] at hs'
            rw [← fin_num]; exact hs')
        have hcell := fun (w1 : World) (hb1 : Below (w.alloc (.cells #[.int .i64 t.kind, .string t.text, .float .f64 t.num, .bool t.yes, .slice ka t.keys.length kc, .slice ta t.kids.length tc] 26)).heap.size (w.alloc (.cells #[.int .i64 t.kind, .string t.text, .float .f64 t.num, .bool t.yes, .slice ka t.keys.length kc, .slice ta t.kids.length tc] 26)) w1) =>
          show w1.cell? ⟨w.heap.size, 2, none⟩ = some (.float .f64 t.num) from (hb1.cell (p := ⟨w.heap.size, 2, none⟩) (by simp)).trans (by rw [World.cell?_alloc_at _ _ _ _ rfl]; rfl)
        have HC := hide hcell
        clear hcell
        cases hge : geB t.num 0
        · have HW : Hid (wholeB t.num = false) := hide (by unfold wholeB; rw [hge]; rfl)
          go_enter Tryz.func27, Tryz.ntmps27
          go_wp2_with fail
          refine (scalar_any ok t _ _ (HV.out _ (by go_grown))).mono ?_
          rw [hs]
          rintro e w1 ⟨rfl, hb1⟩
          have c2 := HC.out _ hb1
          go_wp2_with fail
          go_returns
          exact ⟨ret_bool (by rw [← HB.out, HF.out, hs, HW.out]; rfl), hz.trans (hb1.mono (by simp))⟩
        · cases hle : leB t.num f1e6
          · have HW : Hid (wholeB t.num = false) := hide (by unfold wholeB; rw [hge, hle]; rfl)
            go_enter Tryz.func27, Tryz.ntmps27
            go_wp2_with fail
            refine (scalar_any ok t _ _ (HV.out _ (by go_grown))).mono ?_
            rw [hs]
            rintro e w1 ⟨rfl, hb1⟩
            have c2 := HC.out _ hb1
            go_wp2_with fail
            go_returns
            exact ⟨ret_bool (by rw [← HB.out, HF.out, hs, HW.out]; rfl), hz.trans (hb1.mono (by simp))⟩
          · obtain ⟨m, hm, hm0, hm1⟩ := whole_int hnum.out hge hle
            have HW : Hid (wholeB t.num = (FloatKind.f64.format.order (floatOfInt .f64 m) t.num == some .eq)) := hide (by unfold wholeB intEq; rw [hge, hle, hm]; rfl)
            have hcv : ∀ w1 : World, (convert 22 3 (.float .f64 t.num)).run Tryz.prog w1 = .ok (.int .i64 m) w1 := fun w1 => run_convert_float_int (P := Tryz.prog) w1 22 3 .f64 .i64 t.num m (by kernel_rfl) Tryz.underlying3 hm
            have hcv2 : ∀ w1 : World, (convert 3 22 (.int .i64 m)).run Tryz.prog w1 = .ok (.float .f64 (floatOfInt .f64 m)) w1 := fun w1 => run_convert_int_float (P := Tryz.prog) w1 3 22 .i64 .f64 m (by kernel_rfl) Tryz.underlying22
            clear hm
            go_enter Tryz.func27, Tryz.ntmps27
            go_wp2_with fail
            refine (scalar_any ok t _ _ (HV.out _ (by go_grown))).mono ?_
            rw [hs]
            rintro e w1 ⟨rfl, hb1⟩
            have c2 := HC.out _ hb1
            go_wp2_with fail
            go_returns
            exact ⟨ret_bool (by rw [← HB.out, HF.out, hs, HW.out]; rfl), hz.trans (hb1.mono (by simp))⟩
  exact key _ rfl

/-- x * 64: some number, in this world or behind a draw. -/
theorem mul64_any (n : Nat) (w0 : World) : ∃ p wq, (binOp .mul 22 (.float .f64 n) (.float .f64 f64)).run Tryz.prog w0 = .ok (.float .f64 p) wq ∧ Below w0.heap.size w0 wq ∧ wq.heap.size = w0.heap.size ∧ boostB n = (geB p f1 && (leB p f64k && intEq p)) := by
  cases h : dbl.mul n f64 with
  | some p => exact ⟨p, w0, run_float_arith (P := Tryz.prog) w0 .mul 22 .f64 n f64 p h, Below.refl _ _, rfl, by unfold boostB; rw [h]⟩
  | none =>
    refine ⟨_, _, run_float_nan (P := Tryz.prog) w0 .mul 22 n f64 (by simp) h, (Below.refl _ _).drew, rfl, ?_⟩
    have hn : FloatKind.f64.format.order (nanOf (w0.tape w0.drawn (.nanBits .f64 n f64))) f1 = none := order_nan_left (read_nanOf _)
    unfold boostB geB
    rw [h, hn]
    rfl

theorem boost_int {p : Nat} (h0 : geB p f1 = true) (h1 : leB p f64k = true) : ∃ m, floatToIntVal .f64 p .i64 = some m ∧ 1 ≤ m ∧ m ≤ 64000 ∧ isNum p = true ∧ m = sc p / U := by
  have hn := num_between (by decide) (by decide) h0 h1
  have e0 := (geB_sc hn (by decide)).1 h0
  have e1 := (leB_sc hn (by decide)).1 h1
  rw [sc_1] at e0
  rw [sc_64k] at e1
  have hU := U_pos
  obtain ⟨a, b, c⟩ := int_small hn (by omega) (by omega)
  refine ⟨_, a, ?_, ?_, hn, rfl⟩
  · exact (Int.le_ediv_iff_mul_le hU).2 (by omega)
  · exact Int.ediv_le_of_le_mul hU (by omega)

set_option maxHeartbeats 2000000 in
set_option maxRecDepth 100000 in
theorem fit_f (ok : Nat → Prop) (t : T) (v : Value) (w : World) (hv : TreeAt w ok v t) (hsz : t.text.size ≤ maxLen) : Calls Tryz.prog 27 #[.string (bs [102]), v] w (RetBool w (fitB [102] t)) := by
  obtain ⟨ka, kc, ta, tc, cc, rfl, -, -, -, -, -⟩ := hv.open
  have HV := hide (fun w' (hb : Below w.heap.size w w') => hv.same (Same.of_below hb))
  clear hv
  have hL : (bs [102]).toList = [102] := by rw [ByteArray.toList_eq]; rfl
  have key : ∀ b, fitB [102] t = b → Calls Tryz.prog 27 #[.string (bs [102]), .agg #[.int .i64 t.kind, .string t.text, .float .f64 t.num, .bool t.yes, .slice ka t.keys.length kc, .slice ta t.kids.length tc]] w (RetBool w b) := by
    intro b hb
    have HB := hide hb
    clear hb
    have hz : Below w.heap.size w (w.alloc (.cells #[.int .i64 t.kind, .string t.text, .float .f64 t.num, .bool t.yes, .slice ka t.keys.length kc, .slice ta t.kids.length tc] 26)) := by go_grown
    have HZ := hide hz
    have hc0 : ∀ j u, (#[.int .i64 t.kind, .string t.text, .float .f64 t.num, .bool t.yes, .slice ka t.keys.length kc, .slice ta t.kids.length tc] : Array Value)[j]? = some u →
        (w.alloc (.cells #[.int .i64 t.kind, .string t.text, .float .f64 t.num, .bool t.yes, .slice ka t.keys.length kc, .slice ta t.kids.length tc] 26)).cell? ⟨w.heap.size, j, none⟩ = some u := fun j u hu => by
      rw [World.cell?_alloc_at _ _ _ _ rfl]; exact hu
    have hhs : (w.alloc (.cells #[.int .i64 t.kind, .string t.text, .float .f64 t.num, .bool t.yes, .slice ka t.keys.length kc, .slice ta t.kids.length tc] 26)).heap.size = w.heap.size + 1 := by simp
    obtain ⟨p, wq, hrun, hbq, hsq, hbo⟩ := mul64_any t.num (w.alloc (.cells #[.int .i64 t.kind, .string t.text, .float .f64 t.num, .bool t.yes, .slice ka t.keys.length kc, .slice ta t.kids.length tc] 26))
    have g0 := (hbq.cell (p := ⟨w.heap.size, 0, none⟩) (by simp)).trans (hc0 0 _ rfl)
    have g1 := (hbq.cell (p := ⟨w.heap.size, 1, none⟩) (by simp)).trans (hc0 1 _ rfl)
    have g2 := (hbq.cell (p := ⟨w.heap.size, 2, none⟩) (by simp)).trans (hc0 2 _ rfl)
    have g3 := (hbq.cell (p := ⟨w.heap.size, 3, none⟩) (by simp)).trans (hc0 3 _ rfl)
    have g4 := (hbq.cell (p := ⟨w.heap.size, 4, none⟩) (by simp)).trans (hc0 4 _ rfl)
    have g5 := (hbq.cell (p := ⟨w.heap.size, 5, none⟩) (by simp)).trans (hc0 5 _ rfl)
    have hq1 : wq.heap.size = w.heap.size + 1 := by rw [hsq, hhs]
    have HQ := hide (hz.trans (hbq.mono (by simp)))
    have HBO := hide hbo
    clear hz hc0 hhs hbq hsq hbo
    cases h1 : (t.kind == 1)
    · have HF : Hid (fitB [102] t = false) := hide (by simp [fitB, h1])
      go_enter Tryz.func27, Tryz.ntmps27
      go_wp2_with fail
      go_returns
      exact ⟨ret_bool (by rw [← HB.out, HF.out]), HQ.out⟩
    · have HF : Hid (fitB [102] t = (scalarT t && (fieldB t.text && boostB t.num))) := hide (by simp [fitB, h1])
      cases hs : scalarT t
      · go_enter Tryz.func27, Tryz.ntmps27
        go_wp2_with fail
        refine (scalar_any ok t _ _ (HV.out _ HQ.out)).mono ?_
        rw [hs]
        rintro e w1 ⟨rfl, hb1⟩
        go_wp2_with fail
        go_returns
        exact ⟨ret_bool (by rw [← HB.out, HF.out, hs]; rfl), HQ.out.trans (hb1.mono (by omega))⟩
      · have G1 := hide (fun (w1 : World) (hb1 : Below wq.heap.size wq w1) => (hb1.cell (p := ⟨w.heap.size, 1, none⟩) (by show w.heap.size < wq.heap.size; omega)).trans g1)
        have tail : Hid (∀ c, (fieldB t.text = c) → True) := hide (fun _ _ => trivial)
        cases hf : fieldB t.text
        · go_enter Tryz.func27, Tryz.ntmps27
          go_wp2_with fail
          refine (scalar_any ok t _ _ (HV.out _ HQ.out)).mono ?_
          rw [hs]
          rintro e w1 ⟨rfl, hb1⟩
          have k1 := G1.out w1 hb1
          go_wp2_with fail
          refine (field_any _ _ hsz).mono ?_
          rw [hf]
          rintro e w2 ⟨rfl, hb2⟩
          go_wp2_with fail
          go_returns
          exact ⟨ret_bool (by rw [← HB.out, HF.out, hs, hf]; rfl), HQ.out.trans ((hb1.mono (by omega)).trans (hb2.mono (by have := hb1.size; omega)))⟩
        · cases hge : geB p f1
          · have HW : Hid (boostB t.num = false) := hide (by rw [HBO.out, hge]; rfl)
            go_enter Tryz.func27, Tryz.ntmps27
            go_wp2_with fail
            refine (scalar_any ok t _ _ (HV.out _ HQ.out)).mono ?_
            rw [hs]
            rintro e w1 ⟨rfl, hb1⟩
            have k1 := G1.out w1 hb1
            go_wp2_with fail
            refine (field_any _ _ hsz).mono ?_
            rw [hf]
            rintro e w2 ⟨rfl, hb2⟩
            go_wp2_with fail
            go_returns
            exact ⟨ret_bool (by rw [← HB.out, HF.out, hs, hf, HW.out]; rfl), HQ.out.trans ((hb1.mono (by omega)).trans (hb2.mono (by have := hb1.size; omega)))⟩
          · cases hle : leB p f64k
            · have HW : Hid (boostB t.num = false) := hide (by rw [HBO.out, hge, hle]; rfl)
              go_enter Tryz.func27, Tryz.ntmps27
              go_wp2_with fail
              refine (scalar_any ok t _ _ (HV.out _ HQ.out)).mono ?_
              rw [hs]
              rintro e w1 ⟨rfl, hb1⟩
              have k1 := G1.out w1 hb1
              go_wp2_with fail
              refine (field_any _ _ hsz).mono ?_
              rw [hf]
              rintro e w2 ⟨rfl, hb2⟩
              go_wp2_with fail
              go_returns
              exact ⟨ret_bool (by rw [← HB.out, HF.out, hs, hf, HW.out]; rfl), HQ.out.trans ((hb1.mono (by omega)).trans (hb2.mono (by have := hb1.size; omega)))⟩
            · obtain ⟨m, hm, -⟩ := boost_int hge hle
              have HW : Hid (boostB t.num = (FloatKind.f64.format.order (floatOfInt .f64 m) p == some .eq)) := hide (by rw [HBO.out, hge, hle]; unfold intEq; rw [hm]; rfl)
              have hcv : ∀ w1 : World, (convert 22 3 (.float .f64 p)).run Tryz.prog w1 = .ok (.int .i64 m) w1 := fun w1 => run_convert_float_int (P := Tryz.prog) w1 22 3 .f64 .i64 p m (by kernel_rfl) Tryz.underlying3 hm
              have hcv2 : ∀ w1 : World, (convert 3 22 (.int .i64 m)).run Tryz.prog w1 = .ok (.float .f64 (floatOfInt .f64 m)) w1 := fun w1 => run_convert_int_float (P := Tryz.prog) w1 3 22 .i64 .f64 m (by kernel_rfl) Tryz.underlying22
              clear hm
              go_enter Tryz.func27, Tryz.ntmps27
              go_wp2_with fail
              refine (scalar_any ok t _ _ (HV.out _ HQ.out)).mono ?_
              rw [hs]
              rintro e w1 ⟨rfl, hb1⟩
              have k1 := G1.out w1 hb1
              go_wp2_with fail
              refine (field_any _ _ hsz).mono ?_
              rw [hf]
              rintro e w2 ⟨rfl, hb2⟩
              go_wp2_with fail
              go_returns
              exact ⟨ret_bool (by rw [← HB.out, HF.out, hs, hf, HW.out]; rfl), HQ.out.trans ((hb1.mono (by omega)).trans (hb2.mono (by have := hb1.size; omega)))⟩
  exact key _ rfl

end Go.Proofs.YtbcnhcpgloncdaaGreatDoor

/-
  THE CONTRACT OF spec.Fits at the four builders.
-/
namespace Go.Proofs.YtbcnhcpgloncdaaGreatDoor
open Go.RowKit Go.Sort

/-- The kinds that the four builders have. -/
def okKind (k : List UInt8) : Bool := k == [116] || (k == [110] || (k == [119] || (k == [98] || (k == [102] || k == []))))

theorem fit_any (ok : Nat → Prop) (k : List UInt8) (hk : okKind k = true) (t : T) (v : Value) (w : World) (hv : TreeAt w ok v t) (hsz : t.text.size ≤ maxLen) :
    Calls Tryz.prog 27 #[.string (bs k), v] w (RetBool w (fitB k t)) := by
  unfold okKind at hk
  simp only [Bool.or_eq_true, beq_iff_eq] at hk
  rcases hk with rfl | rfl | rfl | rfl | rfl | rfl
  · exact fit_t ok t v w hv
  · exact fit_n ok t v w hv
  · exact fit_w ok t v w hv
  · exact fit_b ok t v w hv
  · exact fit_f ok t v w hv hsz
  · exact fit_none ok t v w hv

theorem kindF_ok {rs : List (List UInt8 × List UInt8)} (h : rs.all (fun r => okKind r.2) = true) (name : ByteArray) : okKind (kindF rs name) = true := by
  unfold kindF
  cases hf : rs.find? (fun r => eqB (bs r.1) name) with
  | none => rfl
  | some r => exact List.all_eq_true.1 h r (List.mem_of_find?_eq_some hf)

def fitsAt (B : Builder) (s : S) : Bool := fitB (kindF B.rows s.name) s.value
def fitsB (B : Builder) (ss : List S) : Bool := ss.all (fitsAt B)

/-- A region's class of worlds, met by a contract of the kind RetBool. -/
theorem Calls.regrown_bool {P : Program} {f : FuncId} {args : Array Value} {w : World} {d : Nat} {os : Array Obj} {b : Bool} (h : Calls P f args (grow (redrawn w d) os) (RetBool (grow (redrawn w d) os) b)) :
    Calls P f args (grow (redrawn w d) os) fun e w'' => e = .returned (.bool b) ∧ ∃ p : Regrown, w'' = grow (redrawn w p.d) p.os := Calls.regrown_of h

set_option maxHeartbeats 1000000 in
set_option maxRecDepth 100000 in
theorem fits_any (B : Builder) (hB : B.rows.all (fun r => okKind r.2) = true) (ok : Nat → Prop) (ss : List S) (v : Value) (w : World) (hv : SetsAt w ok v ss) (hl : ss.length ≤ 1073741824)
    (hsz : ∀ s ∈ ss, s.value.text.size ≤ maxLen) : Calls Tryz.prog 12 #[.string (bs B.nm), v] w (RetBool w (fitsB B ss)) := by
  have HV := hide hv
  obtain ⟨a, cap, c, rfl, hcap, hc, ht⟩ := hv
  have HSZ := hide hsz
  clear hsz
  have HK := hide (fun w => kindIn_any B (w := w))
  have HOK := hide (kindF_ok hB)
  clear hB
  have HFA : Hid (∀ s, fitsAt B s = fitB (kindF B.rows s.name) s.value) := hide (fun _ => rfl)
  have HFB : Hid (fitsB B ss = ss.all (fitsAt B)) := hide rfl
  generalize B.nm = nm at *
  go_enter Tryz.func12, Tryz.ntmps12
  go_wp2
  go_loopw [5] (fun i wr => ∃ k : Nat, k ≤ ss.length ∧ i = .int .i64 k ∧ Below w.heap.size w wr ∧ (∀ (j : Nat) s, j < k → ss[j]? = some s → fitsAt B s = true)) (fun i _ => ss.length - (intOf i).toNat)
  case atStart => exact ⟨0, Nat.zero_le _, rfl, Below.refl _ _, fun j s hj => absurd hj (by omega)⟩
  case round =>
    obtain ⟨k, hk, rfl, hbw, hno⟩ := hrel
    have HNO := hide hno
    clear hno
    have HVr := hide (HV.out.same (Same.of_below hbw))
    by_cases hlt : k < ss.length
    · obtain ⟨b, o, rfl, hb, hcell⟩ := hc k hlt
      obtain ⟨h0, htr⟩ := ht k ss[k] (by simp)
      have i1 : (0 : Int) ≤ (k : Int) := by omega
      have i3 : (k : Int) < (ss.length : Int) := by omega
      obtain ⟨ka, kc, ta, tc, cc, hv6, -⟩ := htr.open
      rw [hv6] at htr
      simp only [Value.agg.injEq, Array.mk.injEq, List.cons.injEq, and_true] at hv6
      obtain ⟨v1, v2, v3, v4, v5, v6⟩ := hv6
      have e0 := hcell 0 (by omega)
      have e1 := hcell 1 (by omega)
      have e2 := hcell 2 (by omega)
      have e3 := hcell 3 (by omega)
      have e4 := hcell 4 (by omega)
      have e5 := hcell 5 (by omega)
      have e6 := hcell 6 (by omega)
      rw [h0] at e0
      rw [v1] at e1; rw [v2] at e2; rw [v3] at e3; rw [v4] at e4; rw [v5] at e5; rw [v6] at e6
      simp only [Nat.add_zero] at e0
      have hbl : b < w.heap.size := World.block_lt_of_cell? w _ e0
      have k0 := cell_regrown ((hbw.cell hbl).trans e0)
      have k1 := cell_regrown ((hbw.cell hbl).trans e1)
      have k2 := cell_regrown ((hbw.cell hbl).trans e2)
      have k3 := cell_regrown ((hbw.cell hbl).trans e3)
      have k4 := cell_regrown ((hbw.cell hbl).trans e4)
      have k5 := cell_regrown ((hbw.cell hbl).trans e5)
      have k6 := cell_regrown ((hbw.cell hbl).trans e6)
      have htr' := htr.same (Same.of_below hbw)
      have hkd := HOK.out ss[k].name
      have hfa := HFA.out ss[k]
      have cK : ∀ d os, Calls Tryz.prog 28 #[.string (bs nm), .string ss[k].name] (grow (redrawn wr d) os) fun e w'' => e = .returned (.string (bs (kindF B.rows ss[k].name))) ∧ ∃ p : Regrown, w'' = grow (redrawn wr p.d) p.os := fun d os => Calls.regrown_of (HK.out _ _)
      generalize kindF B.rows ss[k].name = kd at *
      have cF : ∀ d os, Calls Tryz.prog 27 #[.string (bs kd), .agg #[.int .i64 ss[k].value.kind, .string ss[k].value.text, .float .f64 ss[k].value.num, .bool ss[k].value.yes, .slice ka ss[k].value.keys.length kc, .slice ta ss[k].value.kids.length tc]] (grow (redrawn wr d) os) fun e w'' => e = .returned (.bool (fitB kd ss[k].value)) ∧ ∃ p : Regrown, w'' = grow (redrawn wr p.d) p.os :=
        fun d os => Calls.regrown_bool (fit_any ok kd hkd _ _ _ (htr'.same (Same.of_below (below_regrown wr d os))) (HSZ.out _ (List.getElem_mem hlt)))
      have HFIN := hide hfa
      clear hc ht hcell h0 htr htr' e0 e1 e2 e3 e4 e5 e6 v1 v2 v3 v4 v5 v6 hkd hfa
      cases hq : fitB kd ss[k].value
      all_goals
        rw [hq] at cF
        have HQ := hide (HFIN.out.trans hq)
        go_wp2_with fail
        refine wp_region_quiet_below (by kernel_rfl) (by kernel_rfl) ?_
        repeat (first | go_big_quiet_step (first | exact cK _ _ | exact cF _ _) | quiet_step (first | exact cK _ _ | exact cF _ _))
        refine wpQuiet_nil ?_
        intro _ hw'
        obtain ⟨⟨dq, osq⟩, hw''⟩ := hw'
        subst hw''
        have hbq := hide (hbw.trans ((below_regrown wr dq osq).mono hbw.size))
        clear k0 k1 k2 k3 k4 k5 k6 cK cF
        generalize grow (redrawn wr dq) osq = wq at *
      · go_wp2
        go_returns
        refine ⟨ret_bool ?_, hbq.out⟩
        rw [HFB.out]
        symm
        rw [List.all_eq_false]
        exact ⟨ss[k], List.getElem_mem hlt, by rw [HQ.out]; simp⟩
      · go_wp2
        go_round
        case rel =>
          refine ⟨k + 1, by omega, by go_num, hbq.out, fun j s hj hs => ?_⟩
          rcases Nat.lt_succ_iff_lt_or_eq.1 hj with h | rfl
          · exact HNO.out j s h hs
          · rw [List.getElem?_eq_getElem hlt] at hs; cases hs; exact HQ.out
        case measure => simp [intOf]; omega
    · clear hc ht
      go_wp2
      go_returns
      refine ⟨ret_bool ?_, hbw⟩
      rw [HFB.out]
      symm
      rw [List.all_eq_true]
      intro s hs
      obtain ⟨j, hj⟩ := List.mem_iff_getElem?.1 hs
      exact HNO.out j s (by have := (List.getElem?_eq_some_iff.1 hj).1; omega) hj

theorem MM_ok : MM.rows.all (fun r => okKind r.2) = true := by decide +kernel
theorem CF_ok : CF.rows.all (fun r => okKind r.2) = true := by decide +kernel
theorem QS_ok : QS.rows.all (fun r => okKind r.2) = true := by decide +kernel
theorem SQ_ok : SQ.rows.all (fun r => okKind r.2) = true := by decide +kernel
end Go.Proofs.YtbcnhcpgloncdaaGreatDoor
