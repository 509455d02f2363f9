/-
  WHAT A BUILDER's SETTINGS COME TO.
-/
import Derived.Test.YtbcnhcpgloncdaaGreatDoorQe
namespace Go.Proofs.YtbcnhcpgloncdaaGreatDoor
open Go.RowKit Go.Sort Go.ChangeMaps Go.MapKept Go.Lib

/-- int(x) of a number that is whole. -/
def wholeOf (n : Nat) : Int := (floatToIntVal .f64 n .i64).getD 0
/-- What a setting makes of a field. -/
def fvK (k : Nat) (t : T) : FV := match k with
  | 0 => .val (.string t.text)
  | 1 => .opt 22 (.float .f64 t.num)
  | 2 => .opt 3 (.int .i64 (wholeOf t.num))
  | 3 => .opt 4 (.bool t.yes)
  | 4 => .val (.string (typeOf (lowerB t.text)))
  | _ => .val (.int .i64 (wholeOf t.num))
def nField : List UInt8 := [102, 105, 101, 108, 100]
def nBoost : List UInt8 := [102, 105, 101, 108, 100, 95, 119, 105, 116, 104, 95, 98, 111, 111, 115, 116]
abbrev QTab := List (List UInt8 × Nat × Nat)
/-- What a setting does. -/
def stepQ (tab : QTab) (q : Q) (s : S) : Q :=
  if s.name.data.toList = nField then { q with fields := q.fields ++ [s.value.text] }
  else if s.name.data.toList = nBoost then { q with fields := q.fields ++ [s.value.text], boosts := q.boosts ++ [(s.value.text, s.value.num)] }
  else match tab.find? (fun r => r.1 == s.name.data.toList) with
    | some r => { q with f := upd q.f r.2.1 (fvK r.2.2 s.value) }
    | none => q
def runQ (tab : QTab) (q : Q) (ss : List S) : Q := ss.foldl (stepQ tab) q
theorem runQ_snoc (tab : QTab) (q : Q) (ss : List S) (s : S) : runQ tab q (ss ++ [s]) = stepQ tab (runQ tab q ss) s := by simp [runQ, List.foldl_append]
theorem runQ_take (tab : QTab) (q : Q) (ss : List S) (k : Nat) (h : k < ss.length) : runQ tab q (ss.take (k + 1)) = stepQ tab (runQ tab q (ss.take k)) ss[k] := by
  rw [List.take_succ_eq_append_getElem h, runQ_snoc]
theorem stepQ_len (tab : QTab) (q : Q) (s : S) : (stepQ tab q s).fields.length ≤ q.fields.length + 1 ∧ (stepQ tab q s).boosts.length ≤ q.boosts.length + 1 := by
  unfold stepQ
  split
  · simp
  · split
    · simp
    · split <;> simp <;> omega
theorem runQ_len (tab : QTab) : ∀ (ss : List S) (q : Q), (runQ tab q ss).fields.length ≤ q.fields.length + ss.length ∧ (runQ tab q ss).boosts.length ≤ q.boosts.length + ss.length
  | [], q => ⟨Nat.le_refl _, Nat.le_refl _⟩
  | s :: ss, q => by
    have h1 := stepQ_len tab q s
    have h2 := runQ_len tab ss (stepQ tab q s)
    simp only [runQ, List.foldl_cons, List.length_cons] at *
    omega

theorem bs_toList (l : List UInt8) : (bs l).toList = l := ByteArray.toList_mk l
/-- A setting of a builder bears one of its names. -/
theorem name_of_kind {rs : List (List UInt8 × List UInt8)} {name : ByteArray} (h : kindF rs name ≠ []) : ∃ r ∈ rs, name = bs r.1 ∧ kindF rs name = r.2 := by
  unfold kindF at *
  cases hf : rs.find? (fun r => eqB (bs r.1) name) with
  | none => rw [hf] at h; exact absurd rfl h
  | some r =>
    have h1 := List.find?_some hf
    exact ⟨r, List.mem_of_find?_eq_some hf, ((eqB_iff _ _).1 h1).symm, rfl⟩

def qtMM : QTab := [([97, 110, 97, 108, 121, 122, 101, 114], 5, 0), ([98, 111, 111, 115, 116], 6, 1), ([99, 117, 116, 111, 102, 102, 95, 102, 114, 101, 113, 117, 101, 110, 99, 121], 16, 1), ([102, 117, 122, 122, 105, 110, 101, 115, 115], 8, 0), ([102, 117, 122, 122, 121, 95, 114, 101, 119, 114, 105, 116, 101], 13, 0), ([108, 101, 110, 105, 101, 110, 116], 15, 3), ([109, 97, 120, 95, 101, 120, 112, 97, 110, 115, 105, 111, 110, 115], 10, 2), ([109, 105, 110, 105, 109, 117, 109, 95, 115, 104, 111, 117, 108, 100, 95, 109, 97, 116, 99, 104], 11, 0), ([111, 112, 101, 114, 97, 116, 111, 114], 4, 0), ([112, 114, 101, 102, 105, 120, 95, 108, 101, 110, 103, 116, 104], 9, 2), ([114, 101, 119, 114, 105, 116, 101], 12, 0), ([115, 108, 111, 112], 7, 2), ([116, 105, 101, 95, 98, 114, 101, 97, 107, 101, 114], 14, 1), ([116, 121, 112, 101], 3, 4), ([122, 101, 114, 111, 95, 116, 101, 114, 109, 115, 95, 113, 117, 101, 114, 121], 17, 0), ([95, 110, 97, 109, 101], 18, 0)]
theorem rowsMM_is : MM.rows = [([102, 105, 101, 108, 100], [116]), ([102, 105, 101, 108, 100, 95, 119, 105, 116, 104, 95, 98, 111, 111, 115, 116], [102]), ([97, 110, 97, 108, 121, 122, 101, 114], [116]), ([98, 111, 111, 115, 116], [110]), ([99, 117, 116, 111, 102, 102, 95, 102, 114, 101, 113, 117, 101, 110, 99, 121], [110]), ([102, 117, 122, 122, 105, 110, 101, 115, 115], [116]), ([102, 117, 122, 122, 121, 95, 114, 101, 119, 114, 105, 116, 101], [116]), ([108, 101, 110, 105, 101, 110, 116], [98]), ([109, 97, 120, 95, 101, 120, 112, 97, 110, 115, 105, 111, 110, 115], [119]), ([109, 105, 110, 105, 109, 117, 109, 95, 115, 104, 111, 117, 108, 100, 95, 109, 97, 116, 99, 104], [116]), ([111, 112, 101, 114, 97, 116, 111, 114], [116]), ([112, 114, 101, 102, 105, 120, 95, 108, 101, 110, 103, 116, 104], [119]), ([114, 101, 119, 114, 105, 116, 101], [116]), ([115, 108, 111, 112], [119]), ([116, 105, 101, 95, 98, 114, 101, 97, 107, 101, 114], [110]), ([116, 121, 112, 101], [116]), ([122, 101, 114, 111, 95, 116, 101, 114, 109, 115, 95, 113, 117, 101, 114, 121], [116]), ([95, 110, 97, 109, 101], [116])] := by decide +kernel
def qtCF : QTab := [([97, 117, 116, 111, 95, 103, 101, 110, 101, 114, 97, 116, 101, 95, 115, 121, 110, 111, 110, 121, 109, 115, 95, 112, 104, 114, 97, 115, 101, 95, 113, 117, 101, 114, 121], 3, 3), ([109, 105, 110, 105, 109, 117, 109, 95, 115, 104, 111, 117, 108, 100, 95, 109, 97, 116, 99, 104], 5, 0), ([111, 112, 101, 114, 97, 116, 111, 114], 4, 0), ([122, 101, 114, 111, 95, 116, 101, 114, 109, 115, 95, 113, 117, 101, 114, 121], 6, 0)]
theorem rowsCF_is : CF.rows = [([102, 105, 101, 108, 100], [116]), ([102, 105, 101, 108, 100, 95, 119, 105, 116, 104, 95, 98, 111, 111, 115, 116], [102]), ([97, 117, 116, 111, 95, 103, 101, 110, 101, 114, 97, 116, 101, 95, 115, 121, 110, 111, 110, 121, 109, 115, 95, 112, 104, 114, 97, 115, 101, 95, 113, 117, 101, 114, 121], [98]), ([109, 105, 110, 105, 109, 117, 109, 95, 115, 104, 111, 117, 108, 100, 95, 109, 97, 116, 99, 104], [116]), ([111, 112, 101, 114, 97, 116, 111, 114], [116]), ([122, 101, 114, 111, 95, 116, 101, 114, 109, 115, 95, 113, 117, 101, 114, 121], [116])] := by decide +kernel
def qtSQ : QTab := [([97, 110, 97, 108, 121, 122, 101, 95, 119, 105, 108, 100, 99, 97, 114, 100], 11, 3), ([97, 110, 97, 108, 121, 122, 101, 114], 1, 0), ([97, 117, 116, 111, 95, 103, 101, 110, 101, 114, 97, 116, 101, 95, 115, 121, 110, 111, 110, 121, 109, 115, 95, 112, 104, 114, 97, 115, 101, 95, 113, 117, 101, 114, 121], 14, 3), ([98, 111, 111, 115, 116], 8, 1), ([100, 101, 102, 97, 117, 108, 116, 95, 111, 112, 101, 114, 97, 116, 111, 114], 3, 0), ([102, 108, 97, 103, 115], 7, 0), ([102, 117, 122, 122, 121, 95, 109, 97, 120, 95, 101, 120, 112, 97, 110, 115, 105, 111, 110, 115], 16, 5), ([102, 117, 122, 122, 121, 95, 112, 114, 101, 102, 105, 120, 95, 108, 101, 110, 103, 116, 104], 15, 5), ([102, 117, 122, 122, 121, 95, 116, 114, 97, 110, 115, 112, 111, 115, 105, 116, 105, 111, 110, 115], 17, 3), ([108, 101, 110, 105, 101, 110, 116], 10, 3), ([109, 105, 110, 105, 109, 117, 109, 95, 115, 104, 111, 117, 108, 100, 95, 109, 97, 116, 99, 104], 6, 0), ([113, 117, 111, 116, 101, 95, 102, 105, 101, 108, 100, 95, 115, 117, 102, 102, 105, 120], 2, 0), ([95, 110, 97, 109, 101], 13, 0)]
theorem rowsSQ_is : SQ.rows = [([102, 105, 101, 108, 100], [116]), ([102, 105, 101, 108, 100, 95, 119, 105, 116, 104, 95, 98, 111, 111, 115, 116], [102]), ([97, 110, 97, 108, 121, 122, 101, 95, 119, 105, 108, 100, 99, 97, 114, 100], [98]), ([97, 110, 97, 108, 121, 122, 101, 114], [116]), ([97, 117, 116, 111, 95, 103, 101, 110, 101, 114, 97, 116, 101, 95, 115, 121, 110, 111, 110, 121, 109, 115, 95, 112, 104, 114, 97, 115, 101, 95, 113, 117, 101, 114, 121], [98]), ([98, 111, 111, 115, 116], [110]), ([100, 101, 102, 97, 117, 108, 116, 95, 111, 112, 101, 114, 97, 116, 111, 114], [116]), ([102, 108, 97, 103, 115], [116]), ([102, 117, 122, 122, 121, 95, 109, 97, 120, 95, 101, 120, 112, 97, 110, 115, 105, 111, 110, 115], [119]), ([102, 117, 122, 122, 121, 95, 112, 114, 101, 102, 105, 120, 95, 108, 101, 110, 103, 116, 104], [119]), ([102, 117, 122, 122, 121, 95, 116, 114, 97, 110, 115, 112, 111, 115, 105, 116, 105, 111, 110, 115], [98]), ([108, 101, 110, 105, 101, 110, 116], [98]), ([109, 105, 110, 105, 109, 117, 109, 95, 115, 104, 111, 117, 108, 100, 95, 109, 97, 116, 99, 104], [116]), ([113, 117, 111, 116, 101, 95, 102, 105, 101, 108, 100, 95, 115, 117, 102, 102, 105, 120], [116]), ([95, 110, 97, 109, 101], [116])] := by decide +kernel
def qtQS : QTab := [([97, 108, 108, 111, 119, 95, 108, 101, 97, 100, 105, 110, 103, 95, 119, 105, 108, 100, 99, 97, 114, 100], 6, 3), ([97, 110, 97, 108, 121, 122, 101, 95, 119, 105, 108, 100, 99, 97, 114, 100], 9, 3), ([97, 110, 97, 108, 121, 122, 101, 114], 3, 0), ([98, 111, 111, 115, 116], 11, 1), ([100, 101, 102, 97, 117, 108, 116, 95, 102, 105, 101, 108, 100], 1, 0), ([100, 101, 102, 97, 117, 108, 116, 95, 111, 112, 101, 114, 97, 116, 111, 114], 2, 0), ([101, 110, 97, 98, 108, 101, 95, 112, 111, 115, 105, 116, 105, 111, 110, 95, 105, 110, 99, 114, 101, 109, 101, 110, 116, 115], 8, 3), ([101, 115, 99, 97, 112, 101], 26, 3), ([102, 117, 122, 122, 105, 110, 101, 115, 115], 12, 0), ([102, 117, 122, 122, 121, 95, 109, 97, 120, 95, 101, 120, 112, 97, 110, 115, 105, 111, 110, 115], 14, 2), ([102, 117, 122, 122, 121, 95, 112, 114, 101, 102, 105, 120, 95, 108, 101, 110, 103, 116, 104], 13, 2), ([102, 117, 122, 122, 121, 95, 114, 101, 119, 114, 105, 116, 101], 15, 0), ([108, 101, 110, 105, 101, 110, 116], 22, 3), ([109, 97, 120, 95, 100, 101, 116, 101, 114, 109, 105, 110, 105, 122, 101, 100, 95, 115, 116, 97, 116, 101, 115], 25, 2), ([109, 105, 110, 105, 109, 117, 109, 95, 115, 104, 111, 117, 108, 100, 95, 109, 97, 116, 99, 104], 21, 0), ([112, 104, 114, 97, 115, 101, 95, 115, 108, 111, 112], 16, 2), ([113, 117, 111, 116, 101, 95, 97, 110, 97, 108, 121, 122, 101, 114], 4, 0), ([113, 117, 111, 116, 101, 95, 102, 105, 101, 108, 100, 95, 115, 117, 102, 102, 105, 120], 5, 0), ([114, 101, 119, 114, 105, 116, 101], 20, 0), ([116, 105, 101, 95, 98, 114, 101, 97, 107, 101, 114], 19, 1), ([116, 105, 109, 101, 95, 122, 111, 110, 101], 24, 0), ([116, 121, 112, 101], 27, 0), ([95, 110, 97, 109, 101], 23, 0)]
theorem rowsQS_is : QS.rows = [([102, 105, 101, 108, 100], [116]), ([102, 105, 101, 108, 100, 95, 119, 105, 116, 104, 95, 98, 111, 111, 115, 116], [102]), ([97, 108, 108, 111, 119, 95, 108, 101, 97, 100, 105, 110, 103, 95, 119, 105, 108, 100, 99, 97, 114, 100], [98]), ([97, 110, 97, 108, 121, 122, 101, 95, 119, 105, 108, 100, 99, 97, 114, 100], [98]), ([97, 110, 97, 108, 121, 122, 101, 114], [116]), ([98, 111, 111, 115, 116], [110]), ([100, 101, 102, 97, 117, 108, 116, 95, 102, 105, 101, 108, 100], [116]), ([100, 101, 102, 97, 117, 108, 116, 95, 111, 112, 101, 114, 97, 116, 111, 114], [116]), ([101, 110, 97, 98, 108, 101, 95, 112, 111, 115, 105, 116, 105, 111, 110, 95, 105, 110, 99, 114, 101, 109, 101, 110, 116, 115], [98]), ([101, 115, 99, 97, 112, 101], [98]), ([102, 117, 122, 122, 105, 110, 101, 115, 115], [116]), ([102, 117, 122, 122, 121, 95, 109, 97, 120, 95, 101, 120, 112, 97, 110, 115, 105, 111, 110, 115], [119]), ([102, 117, 122, 122, 121, 95, 112, 114, 101, 102, 105, 120, 95, 108, 101, 110, 103, 116, 104], [119]), ([102, 117, 122, 122, 121, 95, 114, 101, 119, 114, 105, 116, 101], [116]), ([108, 101, 110, 105, 101, 110, 116], [98]), ([109, 97, 120, 95, 100, 101, 116, 101, 114, 109, 105, 110, 105, 122, 101, 100, 95, 115, 116, 97, 116, 101, 115], [119]), ([109, 105, 110, 105, 109, 117, 109, 95, 115, 104, 111, 117, 108, 100, 95, 109, 97, 116, 99, 104], [116]), ([112, 104, 114, 97, 115, 101, 95, 115, 108, 111, 112], [119]), ([113, 117, 111, 116, 101, 95, 97, 110, 97, 108, 121, 122, 101, 114], [116]), ([113, 117, 111, 116, 101, 95, 102, 105, 101, 108, 100, 95, 115, 117, 102, 102, 105, 120], [116]), ([114, 101, 119, 114, 105, 116, 101], [116]), ([116, 105, 101, 95, 98, 114, 101, 97, 107, 101, 114], [110]), ([116, 105, 109, 101, 95, 122, 111, 110, 101], [116]), ([116, 121, 112, 101], [116]), ([95, 110, 97, 109, 101], [116])] := by decide +kernel

/-- The value of a setting, told by its kind. -/
theorem fits_kind {B : Builder} {s : S} (h : fitsAt B s = true) : ∃ r ∈ B.rows, s.name = bs r.1 ∧ fitB r.2 s.value = true := by
  unfold fitsAt at h
  have hne : kindF B.rows s.name ≠ [] := by intro e; rw [e] at h; simp [fitB] at h
  obtain ⟨r, hr, hn, hk⟩ := name_of_kind hne
  exact ⟨r, hr, hn, by rw [← hk]; exact h⟩


theorem whole_of {t : T} (h : fitB [119] t = true) : ∃ m, floatToIntVal .f64 t.num .i64 = some m ∧ wholeOf t.num = m ∧ 0 ≤ m ∧ m ≤ 1000000 := by
  simp [fitB, scalarT] at h
  obtain ⟨hk, hs, hw⟩ := h
  have hnum : isNum t.num = true := by
    rw [← fin_num]
    rw [hk] at hs
    simpa using hs.2
  unfold wholeB at hw
  simp only [Bool.and_eq_true] at hw
  obtain ⟨m, hm, h0, h1⟩ := whole_int hnum hw.1 hw.2.1
  exact ⟨m, hm, by unfold wholeOf; rw [hm]; rfl, h0, h1⟩

theorem round_start {tab : QTab} {q0 : Q} {ss : List S} {k : Nat} (hlt : k < ss.length) (h1 : q0.fields.length + ss.length ≤ 4194304) (h2 : q0.boosts.length + ss.length ≤ 4194304) :
    (runQ tab q0 (ss.take k)).fields.length ≤ 4194304 ∧ (runQ tab q0 (ss.take k)).boosts.length ≤ 4194304 ∧ runQ tab q0 (ss.take (k + 1)) = stepQ tab (runQ tab q0 (ss.take k)) ss[k] := by
  have h := runQ_len tab (ss.take k) q0
  rw [List.length_take] at h
  exact ⟨by omega, by omega, runQ_take tab q0 ss k hlt⟩

def newB (n : Nat) : Nat → Prop := fun k => n ≤ k
/-- What treeOf makes of a value, now and later. -/
def Tells (w : World) (u : Value) (R : T → Prop) : Prop :=
  ∀ w', Below w.heap.size w w' → Calls Tryz.prog 127 #[u] w' fun e w'' => ∃ v t, e = .returned v ∧ TreeAt w'' (newB w'.heap.size) v t ∧ R t ∧ Below w'.heap.size w' w''
def RetSrc (w : World) (R : T → Prop) (e : Ending) (w' : World) : Prop := ∃ u, e = .returned (.tuple #[u, .nilIface]) ∧ Tells w' u R ∧ Below w.heap.size w w'
def RetTold (w : World) (R : T → Prop) (e : Ending) (w' : World) : Prop := ∃ v t, e = .returned (.tuple #[v, .bool true]) ∧ TreeAt w' (newB w.heap.size) v t ∧ R t ∧ Below w.heap.size w w'

theorem same_setCell {ok : Nat → Prop} {w w' : World} {b i : Nat} (u : Value) (h : Same ok w w') (hb : ¬ ok b) : Same ok w (w'.setCell ⟨b, i, none⟩ u) := fun k hk hlt => by
  rw [heap_setCell_other _ _ _ _ (fun e => hb (by rw [← show k = b from e]; exact hk))]
  exact h k hk hlt

/-- The cells of a block that stands. -/
theorem old_cells {w w1 : World} {c : Array Value} {t : TypeId} (hb : Below (w.alloc (.cells c t (0, 0))).heap.size (w.alloc (.cells c t (0, 0))) w1) :
    (∀ j u, c[j]? = some u → w1.cell? ⟨w.heap.size, j, none⟩ = some u) ∧ ∀ j, w1.frozen? ⟨w.heap.size, j, none⟩ = false := by
  have h : w1.heap[w.heap.size]? = some (.cells c t (0, 0)) := (hb.block _ (by simp)).trans (heap_alloc_new _ _)
  exact ⟨fun j u hu => by rw [cell_of_row w1 _ j c t (0, 0) h]; exact hu, fun j => frozen_of_row w1 _ j c t h⟩

/-- A tree's value laid into a block of six cells. -/
theorem set6 {w1 : World} {b : Nat} {z0 z1 z2 z3 z4 z5 : Value} (h : w1.heap[b]? = some (.cells #[z0, z1, z2, z3, z4, z5] 26 (0, 0))) (v0 v1 v2 v3 v4 v5 : Value) :
    ((((((w1.setCell ⟨b, 0, none⟩ v0).setCell ⟨b, 1, none⟩ v1).setCell ⟨b, 2, none⟩ v2).setCell ⟨b, 3, none⟩ v3).setCell ⟨b, 4, none⟩ v4).setCell ⟨b, 5, none⟩ v5).heap[b]? = some (.cells #[v0, v1, v2, v3, v4, v5] 26 (0, 0)) :=
  heap_setCell_same _ _ _ _ _ _ (heap_setCell_same _ _ _ _ _ _ (heap_setCell_same _ _ _ _ _ _ (heap_setCell_same _ _ _ _ _ _ (heap_setCell_same _ _ _ _ _ _ (heap_setCell_same _ _ _ _ _ _ h)))))
theorem below6 {w1 : World} {b n : Nat} (hn : n ≤ b) (v0 v1 v2 v3 v4 v5 : Value) : Below n w1 ((((((w1.setCell ⟨b, 0, none⟩ v0).setCell ⟨b, 1, none⟩ v1).setCell ⟨b, 2, none⟩ v2).setCell ⟨b, 3, none⟩ v3).setCell ⟨b, 4, none⟩ v4).setCell ⟨b, 5, none⟩ v5) :=
  Below.setCell (Below.setCell (Below.setCell (Below.setCell (Below.setCell (Below.setCell (Below.refl _ _) hn _) hn _) hn _) hn _) hn _) hn _
theorem same6 {ok : Nat → Prop} {w1 : World} {b : Nat} (hn : ¬ ok b) (v0 v1 v2 v3 v4 v5 : Value) : Same ok w1 ((((((w1.setCell ⟨b, 0, none⟩ v0).setCell ⟨b, 1, none⟩ v1).setCell ⟨b, 2, none⟩ v2).setCell ⟨b, 3, none⟩ v3).setCell ⟨b, 4, none⟩ v4).setCell ⟨b, 5, none⟩ v5) :=
  same_setCell _ (same_setCell _ (same_setCell _ (same_setCell _ (same_setCell _ (same_setCell _ (fun _ _ _ => rfl) hn) hn) hn) hn) hn) hn

set_option maxHeartbeats 400000 in
theorem told_any {w : World} {u : Value} {R : T → Prop} (h : Tells w u R) : Calls Tryz.prog 52 #[u, .nilIface] w (RetTold w R) := by
  have H := hide h
  clear h
  go_enter Tryz.func52, Tryz.ntmps52
  go_wp2_with fail
  refine (H.out _ (by go_grown)).mono ?_
  rintro e w1 ⟨v, t, rfl, ht, hr, hb⟩
  obtain ⟨a, cap, a', cap', c, rfl, -⟩ := ht.open
  have HT := hide ht
  have HB := hide hb
  have hblk : w1.heap[w.heap.size]? = some (.cells #[.int .i64 0, .string ⟨#[]⟩, .float .f64 0, .bool false, .slice none 0 0, .slice none 0 0] 26 (0, 0)) := (hb.block _ (by simp)).trans (heap_alloc_new _ _)
  obtain ⟨hc, hf⟩ := old_cells hb
  have c0 : w1.cell? ⟨w.heap.size, 0, none⟩ = some (.int .i64 0) := hc 0 _ rfl
  have c1 : w1.cell? ⟨w.heap.size, 1, none⟩ = some (.string ⟨#[]⟩) := hc 1 _ rfl
  have c2 : w1.cell? ⟨w.heap.size, 2, none⟩ = some (.float .f64 0) := hc 2 _ rfl
  have c3 : w1.cell? ⟨w.heap.size, 3, none⟩ = some (.bool false) := hc 3 _ rfl
  have c4 : w1.cell? ⟨w.heap.size, 4, none⟩ = some (.slice none 0 0) := hc 4 _ rfl
  have c5 : w1.cell? ⟨w.heap.size, 5, none⟩ = some (.slice none 0 0) := hc 5 _ rfl
  have HZ := hide (set6 hblk (.int .i64 t.kind) (.string t.text) (.float .f64 t.num) (.bool t.yes) (.slice a t.keys.length cap) (.slice a' t.kids.length cap'))
  have HS := hide (same6 (ok := newB (w.heap.size + 1)) (w1 := w1) (b := w.heap.size) (by simp [newB]) (.int .i64 t.kind) (.string t.text) (.float .f64 t.num) (.bool t.yes) (.slice a t.keys.length cap) (.slice a' t.kids.length cap'))
  have HL := hide (below6 (w1 := w1) (Nat.le_refl w.heap.size) (.int .i64 t.kind) (.string t.text) (.float .f64 t.num) (.bool t.yes) (.slice a t.keys.length cap) (.slice a' t.kids.length cap'))
  clear ht hb hc hblk
  go_wp2_with fail
  generalize ((((((w1.setCell ⟨w.heap.size, 0, none⟩ (.int .i64 t.kind)).setCell ⟨w.heap.size, 1, none⟩ (.string t.text)).setCell ⟨w.heap.size, 2, none⟩ (.float .f64 t.num)).setCell ⟨w.heap.size, 3, none⟩ (.bool t.yes)).setCell ⟨w.heap.size, 4, none⟩ (.slice a t.keys.length cap)).setCell ⟨w.heap.size, 5, none⟩ (.slice a' t.kids.length cap')) = wz at *
  have e0 : wz.cell? ⟨w.heap.size, 0, none⟩ = some (.int .i64 t.kind) := by rw [cell_of_row wz _ 0 _ _ _ HZ.out]; rfl
  have e1 : wz.cell? ⟨w.heap.size, 1, none⟩ = some (.string t.text) := by rw [cell_of_row wz _ 1 _ _ _ HZ.out]; rfl
  have e2 : wz.cell? ⟨w.heap.size, 2, none⟩ = some (.float .f64 t.num) := by rw [cell_of_row wz _ 2 _ _ _ HZ.out]; rfl
  have e3 : wz.cell? ⟨w.heap.size, 3, none⟩ = some (.bool t.yes) := by rw [cell_of_row wz _ 3 _ _ _ HZ.out]; rfl
  have e4 : wz.cell? ⟨w.heap.size, 4, none⟩ = some (.slice a t.keys.length cap) := by rw [cell_of_row wz _ 4 _ _ _ HZ.out]; rfl
  have e5 : wz.cell? ⟨w.heap.size, 5, none⟩ = some (.slice a' t.kids.length cap') := by rw [cell_of_row wz _ 5 _ _ _ HZ.out]; rfl
  refine bodyPost_ret (by simp [results, Tryz.results52, go_sem, e0, e1, e2, e3, e4, e5]; try rfl) rfl ?_
  refine ⟨_, t, rfl, ?_, hr, ?_⟩
  · refine TreeAt.weaken (fun k hk _ => ?_) ((HT.out.weaken (ok' := newB (w.heap.size + 1)) (fun k hk _ => by simpa [newB] using hk)).same HS.out)
    unfold newB at *; omega
  · exact (Below.trans (by go_grown) (HB.out.mono (by simp))).trans HL.out
end Go.Proofs.YtbcnhcpgloncdaaGreatDoor
