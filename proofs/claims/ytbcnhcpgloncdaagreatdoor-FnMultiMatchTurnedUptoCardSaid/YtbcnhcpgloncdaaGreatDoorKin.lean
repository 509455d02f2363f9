/-
  THE CONTRACT OF spec.kindIn at the four builders.
-/
import Derived.Test.YtbcnhcpgloncdaaGreatDoorRow
namespace Go.Proofs.YtbcnhcpgloncdaaGreatDoor
open Go.RowKit Go.Sort

def rowsMM : List (List UInt8 × List UInt8) := (rowsF 60 tabMM).getD []
def rowsCF : List (List UInt8 × List UInt8) := (rowsF 60 tabCF).getD []
def rowsQS : List (List UInt8 × List UInt8) := (rowsF 60 tabQS).getD []
def rowsSQ : List (List UInt8 × List UInt8) := (rowsF 60 tabSQ).getD []

/-- What is known of a builder: its name, its rows, and that spec.Rows gives them. -/
structure Builder where
  nm : List UInt8
  rows : List (List UInt8 × List UInt8)
  small : rows.length ≤ 100
  calls : ∀ w, Calls Tryz.prog 124 #[.string (bs nm)] w (RetRows w rows)

def MM : Builder := { nm := nmMM, rows := rowsMM, small := by decide +kernel, calls := fun w => rows_any nmMM tabMM rowsMM w table_MM 60 (by decide +kernel) (by decide +kernel) }
def CF : Builder := { nm := nmCF, rows := rowsCF, small := by decide +kernel, calls := fun w => rows_any nmCF tabCF rowsCF w table_CF 60 (by decide +kernel) (by decide +kernel) }
def QS : Builder := { nm := nmQS, rows := rowsQS, small := by decide +kernel, calls := fun w => rows_any nmQS tabQS rowsQS w table_QS 60 (by decide +kernel) (by decide +kernel) }
def SQ : Builder := { nm := nmSQ, rows := rowsSQ, small := by decide +kernel, calls := fun w => rows_any nmSQ tabSQ rowsSQ w table_SQ 60 (by decide +kernel) (by decide +kernel) }

/-- The kind of a setting, empty if it is none. -/
def kindF (rs : List (List UInt8 × List UInt8)) (name : ByteArray) : List UInt8 := ((rs.find? (fun r => eqB (bs r.1) name)).map (·.2)).getD []

theorem kindF_hit {rs : List (List UInt8 × List UInt8)} {name : ByteArray} {k : Nat} (hk : k < rs.length) (hno : ∀ (j : Nat) r, j < k → rs[j]? = some r → eqB (bs r.1) name = false) (h : eqB (bs rs[k].1) name = true) : kindF rs name = rs[k].2 := by
  unfold kindF
  have : rs.find? (fun r => eqB (bs r.1) name) = some rs[k] := by
    have e : rs = rs.take k ++ rs[k] :: rs.drop (k + 1) := by rw [← List.drop_eq_getElem_cons hk, List.take_append_drop]
    have hd : (rs.take k).find? (fun r => eqB (bs r.1) name) = none := by
      rw [List.find?_eq_none]
      intro x hx
      obtain ⟨j, hj⟩ := List.mem_iff_getElem?.1 hx
      rw [List.getElem?_take] at hj
      split at hj
      · rename_i hjk; simpa using hno j x hjk hj
      · cases hj
    conv => lhs; rw [e]
    rw [List.find?_append, hd]
    show List.find? (fun r => eqB (bs r.1) name) (rs[k] :: rs.drop (k + 1)) = _
    rw [List.find?_cons, h]
  rw [this]; rfl
theorem kindF_miss {rs : List (List UInt8 × List UInt8)} {name : ByteArray} (hno : ∀ (j : Nat) r, rs[j]? = some r → eqB (bs r.1) name = false) : kindF rs name = [] := by
  unfold kindF
  have : rs.find? (fun r => eqB (bs r.1) name) = none := by
    rw [List.find?_eq_none]
    intro x hx
    obtain ⟨j, hj⟩ := List.mem_iff_getElem?.1 hx
    simpa using hno j x hj
  rw [this]; rfl

def RetText (w : World) (l : List UInt8) (e : Ending) (w' : World) : Prop := e = .returned (.string (bs l)) ∧ Below w.heap.size w w'

set_option maxHeartbeats 400000 in
theorem kindIn_any (B : Builder) (name : ByteArray) (w : World) : Calls Tryz.prog 28 #[.string (bs B.nm), .string name] w (RetText w (kindF B.rows name)) := by
  obtain ⟨nm, rows, small, calls⟩ := B
  show Calls Tryz.prog 28 #[.string (bs nm), .string name] w (RetText w (kindF rows name))
  have HC := hide calls
  clear calls
  go_enter Tryz.func28, Tryz.ntmps28
  go_wp2_with fail
  refine (HC.out _).mono ?_
  rintro e w1 ⟨v, rfl, ⟨a, cap, rfl, hcap, hc⟩, hb1⟩
  go_wp2_with fail
  go_loop [6] (fun i => ∃ k : Nat, k ≤ rows.length ∧ i = .int .i64 k ∧ (∀ (j : Nat) r, j < k → rows[j]? = some r → eqB (bs r.1) name = false)) (fun i => rows.length - (intOf i).toNat)
  case atStart => exact ⟨0, Nat.zero_le _, rfl, fun j x hj => absurd hj (by omega)⟩
  case round =>
    obtain ⟨k, hk, rfl, hno⟩ := hrel
    have HNO := hide hno
    clear hno
    by_cases hlt : k < rows.length
    · obtain ⟨b, o, rfl, h1, h2⟩ := hc k rows[k] (by simp)
      clear hc
      cases hn : eqB (bs rows[k].1) name
      · go_wp2
        go_round
        case rel =>
          refine ⟨k + 1, by omega, by go_num, fun j x hj hx => ?_⟩
          rcases Nat.lt_succ_iff_lt_or_eq.1 hj with h | rfl
          · exact HNO.out j x h hx
          · rw [List.getElem?_eq_getElem hlt] at hx; cases hx; exact hn
        case measure => simp [intOf]; omega
      · have HF := hide (kindF_hit hlt HNO.out hn)
        go_wp2
        go_returns
        exact ⟨ret_string (by rw [HF.out]), hb1⟩
    · have HF := hide (kindF_miss (rs := rows) (name := name) fun j x hx => HNO.out j x (by have := (List.getElem?_eq_some_iff.1 hx).1; omega) hx)
      clear hc
      go_wp2
      go_returns
      exact ⟨ret_string (by rw [HF.out]; rfl), hb1⟩
end Go.Proofs.YtbcnhcpgloncdaaGreatDoor
