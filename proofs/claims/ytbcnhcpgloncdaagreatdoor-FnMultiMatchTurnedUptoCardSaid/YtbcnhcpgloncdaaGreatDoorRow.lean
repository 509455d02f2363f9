/-
  THE CONTRACT OF spec.Rows: the settings of a table, each with its kind.
-/
import Derived.Test.YtbcnhcpgloncdaaGreatDoorTab
import Derived.Deep.RegionHeld3
namespace Go.Proofs.YtbcnhcpgloncdaaGreatDoor
open Go.RowKit Go.Sort

theorem Tryz.info103 : (Tryz.prog.info? 103).map (fun i => (i.zero, i.size, i.bytes)) = some (some (.agg #[.string ⟨#[]⟩, .string ⟨#[]⟩]), 2, 32) := by kernel_rfl

/-- The rows of a table's text, one behind the other; each has a blank. -/
def rowsF : Nat → List UInt8 → Option (List (List UInt8 × List UInt8))
  | 0, _ => none
  | n + 1, l =>
    if l = [] then some [] else
    let e := placeN l 44
    let row := l.take e
    let b := placeN row 32
    if b < row.length then
      if e = l.length then some [(row.take b, row.drop (b + 1))]
      else (rowsF n (l.drop (e + 1))).map fun r => (row.take b, row.drop (b + 1)) :: r
    else none

def bs (l : List UInt8) : ByteArray := ⟨l.toArray⟩
theorem bs_size (l : List UInt8) : (bs l).size = l.length := by simp [bs, ByteArray.size]
theorem bs_list (l : List UInt8) : (bs l).data.toList = l := rfl
theorem bs_extract (l : List UInt8) (i j : Nat) : (bs l).extract i j = bs ((l.take j).drop i) := by
  have h : ((bs l).extract i j).data.toList = (l.take j).drop i := by
    rw [ByteArray.data_extract, Array.toList_extract]
    show List.extract l i j = _
    rw [List.extract_eq_take_drop, List.drop_take]
  cases hx : (bs l).extract i j with
  | mk d => rw [hx] at h; show ByteArray.mk d = ByteArray.mk _; congr 1; exact Array.toList_inj.1 h

/-- A slice value that holds rows. -/
def RowsAt (w : World) (v : Value) (rs : List (List UInt8 × List UInt8)) : Prop :=
  ∃ a cap, v = .slice a rs.length cap ∧ rs.length ≤ cap ∧ ∀ i r, rs[i]? = some r → ∃ b o, a = some ⟨b, o, none⟩ ∧ w.cell? ⟨b, o + i * 2, none⟩ = some (.string (bs r.1)) ∧ w.cell? ⟨b, o + i * 2 + 1, none⟩ = some (.string (bs r.2))
def RetRows (w : World) (rs : List (List UInt8 × List UInt8)) (e : Ending) (w' : World) : Prop := ∃ v, e = .returned v ∧ RowsAt w' v rs ∧ Below w.heap.size w w'

theorem RowsAt.of_own {w : World} {base : Nat} {v : Value} {rs : List (List UInt8 × List UInt8)} (h : w.ownsRow base 103 2 v rs.length (rs.flatMap fun r => [.string (bs r.1), .string (bs r.2)])) : RowsAt w v rs := by
  obtain ⟨a, cap, hv, hnc, -, hc⟩ := World.ownsRow.form h
  have e : ∀ (rs : List (List UInt8 × List UInt8)) (i : Nat) (r : List UInt8 × List UInt8), rs[i]? = some r → (rs.flatMap fun r => [Value.string (bs r.1), .string (bs r.2)])[i * 2]? = some (.string (bs r.1)) ∧ (rs.flatMap fun r => [Value.string (bs r.1), .string (bs r.2)])[i * 2 + 1]? = some (.string (bs r.2)) := by
    intro rs
    induction rs with
    | nil => intro i r h; simp at h
    | cons x xs ih =>
      intro i r h
      cases i with
      | zero => simp at h; subst h; simp
      | succ i =>
        have := ih i r (by simpa using h)
        rw [show (i + 1) * 2 = i * 2 + 2 by omega, show i * 2 + 2 + 1 = i * 2 + 1 + 2 by omega]
        simpa using this
  refine ⟨a, cap, hv, hnc, fun i r hr => ?_⟩
  obtain ⟨e1, e2⟩ := e rs i r hr
  obtain ⟨g, rfl, -, -, h1⟩ := hc _ _ e1
  obtain ⟨g', e', -, -, h2⟩ := hc _ _ e2
  cases e'
  exact ⟨g, 0, rfl, by simpa using h1, by simpa using h2⟩

def rowCells (rs : List (List UInt8 × List UInt8)) : List Value := rs.flatMap fun r => [.string (bs r.1), .string (bs r.2)]

set_option maxHeartbeats 1000000 in
set_option maxRecDepth 100000 in
theorem rows_any (nm tab : List UInt8) (rs : List (List UInt8 × List UInt8)) (w : World) (ht : ∀ w, Calls Tryz.prog 135 #[.string (bs nm)] w fun e w' => e = .returned (.string (bs tab)) ∧ w' = w)
    (n : Nat) (hr : rowsF n tab = some rs) (hl : tab.length ≤ 1000) :
    Calls Tryz.prog 124 #[.string (bs nm)] w (RetRows w rs) := by
  go_enter Tryz.func124, Tryz.ntmps124
  go_wp2_with fail
  refine (ht _).mono ?_
  rintro e w1 ⟨rfl, rfl⟩
  go_wp2_with fail
  go_loopw [3, 4] (fun v tv wr => ∃ (l : List UInt8) (m : Nat) (done rest : List (List UInt8 × List UInt8)), tv = .string (bs l) ∧ l.length ≤ 1000 ∧ rowsF m l = some rest ∧ done ++ rest = rs ∧ done.length + l.length ≤ 1000 ∧ Below w.heap.size w wr ∧ wr.ownsRow w.heap.size 103 2 v done.length (rowCells done))
    (fun _ tv _ => match tv with | .string s => s.size | _ => 0)
  case atStart => exact ⟨tab, n, [], rs, rfl, hl, hr, rfl, by simpa using hl, by go_grown, World.ownsRow_lit w #[] 0 (Nat.le_refl _) (by unfold maxLen; omega) rfl⟩
  case round =>
    obtain ⟨l, m, done, rest, rfl, hll, hrest, hdone, hsum, hbw, hown⟩ := hrel
    have HO := hide hown
    have HD := hide hdone
    have hsz : (bs l).size = l.length := bs_size l
    clear hown hdone
    by_cases h0 : 0 < l.length
    · cases m with
      | zero => simp [rowsF] at hrest
      | succ m =>
        unfold rowsF at hrest
        rw [if_neg (by intro h; simp [h] at h0)] at hrest
        dsimp only at hrest
        split at hrest
        · rename_i hb
          have he := placeN_le l 44
          generalize hE : placeN l 44 = E at *
          generalize hBk : placeN (l.take E) 32 = Bk at *
          have hx1 : (bs l).extract 0 E = bs (l.take E) := by rw [bs_extract]; simp
          have HR := hide hrest
          have HE := hide hE
          have HB := hide hBk
          have hlt : (l.take E).length = E := by rw [List.length_take]; omega
          have hszr : (bs (l.take E)).size = E := by rw [bs_size, hlt]
          rw [hlt] at hb
          clear hrest hE hBk hlt
          go_wp2_with fail
          refine (place_any (bs l) 44 _ (by unfold maxLen; omega)).mono ?_
          rintro e w1 ⟨rfl, rfl⟩
          rw [show placeN (bs l).data.toList 44 = E from HE.out]
          go_wp2_with fail
          refine (place_any (bs (l.take E)) 32 _ (by unfold maxLen; omega)).mono ?_
          rintro e w2 ⟨rfl, rfl⟩
          rw [show placeN (bs (l.take E)).data.toList 32 = Bk from HB.out]
          have hx2 : (bs (l.take E)).extract 0 Bk = bs ((l.take E).take Bk) := by rw [bs_extract]; simp
          have hx3 : (bs (l.take E)).extract (Bk + 1) E = bs ((l.take E).drop (Bk + 1)) := by rw [bs_extract, List.take_take, Nat.min_self]
          obtain ⟨c1, hc1⟩ : ∃ c, c = bs ((l.take E).take Bk) := ⟨_, rfl⟩
          obtain ⟨c2, hc2⟩ : ∃ c, c = bs ((l.take E).drop (Bk + 1)) := ⟨_, rfl⟩
          rw [← hc1] at hx2
          rw [← hc2] at hx3
          have HC := hide (And.intro hc1 hc2)
          clear hc1 hc2
          generalize hrw : bs (l.take E) = row at *
          have HW := hide hrw
          clear hrw
          have j1 : (0 : Int) ≤ (Bk : Int) := by omega
          have j2 : (Bk : Int) ≤ (E : Int) := by omega
          have j3 : (Bk : Int) + 1 ≤ (E : Int) := by omega
          have j4 : IntKind.i64.wrap ((Bk : Int) + 1) = (Bk : Int) + 1 := IntWalk.i64_in _ ⟨by omega, by omega⟩
          have j5 : ((Bk : Int) + 1).toNat = Bk + 1 := by omega
          have j6 : (0 : Int) ≤ (Bk : Int) + 1 := by omega
          go_wp2_with fail
          go_region_held3 (fun _ => True) (trivial) ((refine step_append_blk _ (by rfl) (.tmp 21) (.tmp 30) 100 (by rfl) w.heap.size 103 (.agg #[.string ⟨#[]⟩, .string ⟨#[]⟩]) 2 32 Tryz.underlying100 Tryz.info103 rfl (by decide) u3 done.length (rowCells done) (by rfl) ((HO.out.alloc _).drew) w2.heap.size 1 1 #[.string c1, .string c2] 103 (by rfl) (heap_alloc_new _ _) rfl (by intro u hu; simp at hu; rcases hu with rfl | rfl <;> rfl) (by omega) (by omega) (by have := hbw.size; simp; omega) ?_; intro v' w3 hown' hgrow))
          have R : Hid (Below w.heap.size w w3 ∧ w3.ownsRow w.heap.size 103 2 v' (done ++ [((l.take E).take Bk, (l.take E).drop (Bk + 1))]).length (rowCells (done ++ [((l.take E).take Bk, (l.take E).drop (Bk + 1))]))) := by
            refine hide ⟨((hbw.alloc hbw.size _).drew).grown hgrow (by have := hbw.size; simp; omega) (fun j hj => (HO.out.lt j hj).1), ?_⟩
            have e : rowCells (done ++ [((l.take E).take Bk, (l.take E).drop (Bk + 1))]) = rowCells done ++ [.string c1, .string c2] := by
              rw [HC.out.1, HC.out.2]; simp [rowCells]
            rw [e]
            simpa using hown'
          clear hown' hgrow
          by_cases hend : E = l.length
          · have hR := HR.out
            rw [if_pos hend] at hR
            have hq : ((E : Int) == (l.length : Int)) = true := by simp [hend]
            have HEND := hide hend
            clear hend
            go_wp2
            go_returns
            have hd := HD.out
            cases hR
            rw [← hd]
            exact ⟨_, rfl, RowsAt.of_own R.out.2, R.out.1⟩
          · have hR := HR.out
            rw [if_neg hend] at hR
            have hq : ((E : Int) == (l.length : Int)) = false := by simp; omega
            have hlt : E + 1 ≤ l.length := by omega
            have hx4 : (bs l).extract (E + 1) l.length = bs (l.drop (E + 1)) := by rw [bs_extract, List.take_length]
            clear hend
            go_wp2
            go_round
            case rel =>
              obtain ⟨r, hr1, hr2⟩ := Option.map_eq_some_iff.1 hR
              refine ⟨l.drop (E + 1), m, _, r, rfl, by rw [List.length_drop]; omega, hr1, ?_, ?_, R.out.1, R.out.2⟩
              · rw [List.append_assoc, ← HD.out, ← hr2]; rfl
              · rw [List.length_append, List.length_drop]; simp; omega
            case measure =>
              show (bs (l.drop (E + 1))).size < (bs l).size
              rw [bs_size, bs_size, List.length_drop]; omega
        · cases hrest
    · obtain rfl : l = [] := List.eq_nil_of_length_eq_zero (by omega)
      have hd := HD.out
      cases m with
      | zero => simp [rowsF] at hrest
      | succ m =>
        unfold rowsF at hrest
        rw [if_pos rfl] at hrest
        cases hrest
        rw [List.append_nil] at hd
        have HD' := hide hd
        clear hd
        go_wp2
        go_returns
        rw [← HD'.out]
        exact ⟨_, rfl, RowsAt.of_own HO.out, hbw⟩
end Go.Proofs.YtbcnhcpgloncdaaGreatDoor
