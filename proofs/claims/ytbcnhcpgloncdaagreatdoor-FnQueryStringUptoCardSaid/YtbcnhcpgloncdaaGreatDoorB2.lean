/-
  fmtEFG AT 'f' WITH SIX PLACES.
-/
import Derived.Test.YtbcnhcpgloncdaaGreatDoorB1
import Derived.Test.YtbcnhcpgloncdaaGreatDoorA1
import Derived.Deep.AppendLies
import Derived.Deep.Cut
import Derived.Deep.CutRange
namespace Go.Proofs.YtbcnhcpgloncdaaGreatDoor
open Go.RowKit

/-- A byte as a value. -/
abbrev bv (c : UInt8) : Value := .int .u8 (c.toNat : Int)
/-- A row of bytes that grows, beside a row that stands. -/
def Dst (w0 w : World) (base bs : Nat) (v : Value) (l : List UInt8) : Prop :=
  w.ownsRow base 5 1 v l.length (l.map bv) ∧ v.ownBlock ≠ some bs ∧ Below base w0 w ∧ base ≤ w.heap.size ∧ bs < w.heap.size ∧ w.heap[bs]? = w0.heap[bs]?

theorem Dst.cell {w0 w : World} {base bs : Nat} {v : Value} {l : List UInt8} (h : Dst w0 w base bs v l) {i : Nat} {x : Value} (hc : w0.cell? ⟨bs, i, none⟩ = some x) : w.cell? ⟨bs, i, none⟩ = some x :=
  (World.cell?_of_block h.2.2.2.2.2).trans hc

theorem Tryz.info5 : (Tryz.prog.info? 5).map (fun i => (i.zero, i.size, i.bytes)) = some (some (.int .u8 0), 1, 1) := by kernel_rfl

theorem wpList_app {w0 w : World} {base bs : Nat} {v : Value} {l : List UInt8} (h : Dst w0 w base bs v l) (hl : l.length ≤ 1000) {te : TypeId} {z : Int} (c : UInt8) (hz : z = (c.toNat : Int)) {ops : Array Oper} {rest : List Oper} {o : Oper} {a : Act} {Q : Exit → Act → World → Prop} (hgd : o.guard = none) (s x : Operand)
    (ho : o.op = .call { callee := .builtin .append, args := #[s, x], argTypes := #[128, 128] }) (hs : a.eval s = v) (hx : a.eval x = .slice (some ⟨w.heap.size, 0, none⟩) 1 1)
    (K : ∀ v' w', Dst w0 w' base bs v' (l ++ [c]) → wpList Tryz.prog ops Q rest (a.put o.dst v') w') : wpList Tryz.prog ops Q (o :: rest) a (w.alloc (.cells #[.int .u8 z] te (0, 0))) := by
  obtain ⟨i, hi, hz0, hz1, hz2⟩ := info_parts Tryz.info5
  obtain ⟨h1, h2, h3, h4, h5, h6⟩ := h
  refine wpList_append_lies _ hgd s x 128 ho base 5 i _ 1 1 Tryz.underlying128 hi hz0 hz1 hz2 rfl (by decide) v l.length (l.map bv) hs (h1.alloc _) ⟨w.heap.size, 0, none⟩ 1 1 [.int .u8 z] hx rfl
    (fun j u hu => World.news_of_block (heap_alloc_new _ _) j u hu) (by intro u hu; simp at hu; subst hu; rfl) (by decide) (by unfold maxLen; omega) (by omega) (by simp; omega) _ rfl ?_
  intro g cap w' hown hg hat hlt
  refine K _ _ ⟨?_, ?_, ?_, ?_, ?_, ?_⟩
  · have e : (l ++ [c]).map bv = l.map bv ++ [.int .u8 z] := by rw [List.map_append, hz]; rfl
    rw [e, List.length_append]
    exact hown
  · intro e
    have e : g = bs := by simpa [Value.ownBlock] using e
    subst e
    rcases hat with hat | hat
    · exact h2 hat
    · simp at hat; omega
  · refine ⟨hg.os.trans h3.os, hg.tape.trans h3.tape, hg.output.trans h3.output, ?_, fun k hk => ?_⟩
    · have := h3.size; have := hg.size; simp at this; omega
    · have hkb : k < w.heap.size := by omega
      have hne : ¬ v.ownBlock = some k := fun e => by
        rcases h1.2 with ⟨rfl, -⟩ | ⟨gg, cap, cur, rfl, q2, -, -⟩
        · cases e
        · have e : gg = k := by simpa [Value.ownBlock] using e
          omega
      exact (hg.block k (by simp; omega) (fun e => hne e.symm)).trans ((Array.getElem?_push_lt hkb).trans ((Array.getElem?_eq_getElem hkb).symm.trans (h3.block k hk)))
  · have := hg.size; simp at this; omega
  · have := hg.size; simp at this; omega
  · exact (hg.block bs (by simp; omega) (fun e => h2 e.symm)).trans ((Array.getElem?_push_lt h5).trans ((Array.getElem?_eq_getElem h5).symm.trans h6))

/-- The text's first part, and its second. -/
def headP (ds : List UInt8) (nz : Nat) : List UInt8 := if 6 < ds.length then ds.take (min nz (ds.length - 6)) ++ List.replicate (ds.length - 6 - min nz (ds.length - 6)) 48 else [48]
def tailP (ds : List UInt8) (nz : Nat) : List UInt8 := 46 :: (List.replicate (6 - ds.length) 48 ++ ((ds.drop (ds.length - 6)).take (nz - (ds.length - 6)) ++ List.replicate (ds.length - (ds.length - 6) - (nz - (ds.length - 6))) 48))
theorem headP_len (ds : List UInt8) (nz : Nat) (h : ds.length ≤ 20) : (headP ds nz).length ≤ 30 := by
  unfold headP; split <;> simp <;> omega

set_option maxHeartbeats 4000000 in
set_option maxRecDepth 100000 in
theorem fmtEFG_any (w0 : World) (base bs : Nat) (v : Value) (h : Dst w0 w0 base bs v []) (ds : List UInt8) (hlen : ds.length ≤ 20) (hlo : 5 ≤ ds.length) (hd : ∀ (i : Nat) c, ds[i]? = some c → w0.cell? ⟨bs, i, none⟩ = some (bv c)) (nz : Nat) (hnz : nz ≤ ds.length) (dp : Int) (hdp : dp = (ds.length : Int) - 6) :
    Calls Tryz.prog 187 #[v, .bool false, .slice (some ⟨bs, 0, none⟩) 24 24, .int .i64 dp, .int .i64 nz, .int .i64 6, .int .u8 102, .bool false] w0 fun e w' => ∃ v', e = .returned v' ∧ Dst w0 w' base bs v' (headP ds nz ++ tailP ds nz) := by
  have H := hide h
  have HD := hide hd
  have HH := hide (headP_len ds nz hlen)
  have HDP := hide hdp
  clear h hd hdp
  go_enter Tryz.func187, Tryz.ntmps187
  go_upto_if 183 with fail
  generalize hbq : decide ((0 : Int) < dp) = bq
  have HBQ := hide hbq
  clear hbq
  go_cut [0] from 184 to 211 (fun t0 wx => Dst w0 wx base bs t0 (headP ds nz))
  case first =>
    cases bq
    case' false =>
      have h6 : ¬ 6 < ds.length := by have := HDP.out; have := of_decide_eq_false HBQ.out; omega
      go_wp2_with (first | (at_builtin; refine wpList_app H.out (by simp) 48 rfl rfl (.tmp 209) (.tmp 210) rfl rfl rfl ?_; intro v' w' hK; have HK := hide hK; clear hK))
      go_meet
      have := HK.out
      unfold headP
      rw [if_neg h6]
      exact this
    have h6 : 6 < ds.length := by have := HDP.out; have := of_decide_eq_true HBQ.out; omega
    obtain ⟨D, hD⟩ : ∃ D, ds.length = D + 6 := ⟨ds.length - 6, by omega⟩
    obtain rfl : dp = (D : Int) := by have := HDP.out; omega
    rcases Nat.lt_or_ge D nz with hB | hA
    rotate_left
    case inr =>
      have hAi : ¬ (D : Int) < (nz : Int) := by omega
      go_wp2_with fail
      go_loopw [0, 191] (fun v i wr => ∃ k : Nat, k ≤ nz ∧ i = .int .i64 k ∧ Dst w0 wr base bs v (ds.take k)) (fun _ i _ => nz - (intOf i).toNat)
      case atStart => exact ⟨0, Nat.zero_le _, rfl, H.out⟩
      case' round =>
        obtain ⟨k, hk, rfl, hdst⟩ := hrel
        have HDST := hide hdst
        have HTL : Hid ((ds.take k).length ≤ 1000) := hide (by simp; omega)
        by_cases hlt : k < nz
        case' pos =>
          have hkl : k < ds.length := by omega
          have c0 : wr.cell? ⟨bs, k, none⟩ = some (.int .u8 ((ds[k]'hkl).toNat : Int)) := hdst.cell (HD.out k _ (List.getElem?_eq_getElem hkl))
          have hlti : (k : Int) < (nz : Int) := by omega
          clear hdst
          go_wp2_with (first | (at_builtin; refine wpList_app HDST.out HTL.out (ds[k]'hkl) rfl rfl (.tmp 195) (.tmp 197) rfl rfl rfl ?_; intro v' w' hK; have HK := hide hK; clear hK))
          go_roundw
          case rel => exact ⟨k + 1, by omega, by go_num, by have := HK.out; rw [← List.take_succ_eq_append_getElem hkl] at this; exact this⟩
          case measure => simp [intOf]; omega
        case' neg =>
          have hke : k = nz := by omega
          subst hke
          clear hdst hlt
          go_wp2_with fail
          go_loopw [0, 203] (fun v i wr => ∃ j : Nat, j ≤ D - k ∧ i = .int .i64 j ∧ Dst w0 wr base bs v (ds.take k ++ List.replicate j 48)) (fun _ i _ => D - k - (intOf i).toNat)
          case atStart => exact ⟨0, Nat.zero_le _, rfl, by have := HDST.out; rw [List.replicate_zero, List.append_nil]; exact this⟩
          case' round =>
            obtain ⟨j, hj, rfl, hdst⟩ := hrel
            have HDST := hide hdst
            have HLL : Hid ((ds.take k ++ List.replicate j 48).length ≤ 1000) := hide (by have := HH.out; simp; omega)
            clear hdst
            by_cases hlt : j < D - k
            case' pos =>
              have hlti : (j : Int) < (D : Int) - (k : Int) := by omega
              go_wp2_with (first | (at_builtin; refine wpList_app HDST.out HLL.out 48 rfl rfl (.tmp 205) (.tmp 206) rfl rfl rfl ?_; intro v' w' hK; have HK := hide hK; clear hK))
              go_roundw
              case rel => exact ⟨j + 1, by omega, by go_num, by have := HK.out; rw [List.append_assoc, ← List.replicate_succ'] at this; exact this⟩
              case measure => simp [intOf]; omega
            case' neg =>
              have hje : j = D - k := by omega
              have hlti : ¬ (j : Int) < (D : Int) - (k : Int) := by omega
              have HZ : Hid (Dst w0 wr base bs u0 (ds.take k ++ List.replicate (D - k) 48)) := hide (by have := HDST.out; rw [hje] at this; exact this)
              clear hje HDST HLL hlt
              go_wp2_with fail
              go_meet
              have := HZ.out
              unfold headP
              rw [if_pos h6]
              rw [show min k (ds.length - 6) = k by omega, show ds.length - 6 = D by omega]
              exact this
    case inl =>
      have hBi : (D : Int) < (nz : Int) := by omega
      go_wp2_with fail
      go_loopw [0, 191] (fun v i wr => ∃ k : Nat, k ≤ D ∧ i = .int .i64 k ∧ Dst w0 wr base bs v (ds.take k)) (fun _ i _ => D - (intOf i).toNat)
      case atStart => exact ⟨0, Nat.zero_le _, rfl, H.out⟩
      case' round =>
        obtain ⟨k, hk, rfl, hdst⟩ := hrel
        have HDST := hide hdst
        have HTL : Hid ((ds.take k).length ≤ 1000) := hide (by simp; omega)
        by_cases hlt : k < D
        case' pos =>
          have hkl : k < ds.length := by omega
          have c0 : wr.cell? ⟨bs, k, none⟩ = some (.int .u8 ((ds[k]'hkl).toNat : Int)) := hdst.cell (HD.out k _ (List.getElem?_eq_getElem hkl))
          have hlti : (k : Int) < (D : Int) := by omega
          clear hdst
          go_wp2_with (first | (at_builtin; refine wpList_app HDST.out HTL.out (ds[k]'hkl) rfl rfl (.tmp 195) (.tmp 197) rfl rfl rfl ?_; intro v' w' hK; have HK := hide hK; clear hK))
          go_roundw
          case rel => exact ⟨k + 1, by omega, by go_num, by have := HK.out; rw [← List.take_succ_eq_append_getElem hkl] at this; exact this⟩
          case measure => simp [intOf]; omega
        case' neg =>
          have hke : k = D := by omega
          subst hke
          clear hdst hlt
          go_wp2_with fail
          go_loopw [0, 203] (fun v i wr => ∃ j : Nat, j ≤ 0 ∧ i = .int .i64 j ∧ Dst w0 wr base bs v (ds.take k ++ List.replicate j 48)) (fun _ i _ => 0 - (intOf i).toNat)
          case atStart => exact ⟨0, Nat.zero_le _, rfl, by have := HDST.out; rw [List.replicate_zero, List.append_nil]; exact this⟩
          case' round =>
            obtain ⟨j, hj, rfl, hdst⟩ := hrel
            have HDST := hide hdst
            have HLL : Hid ((ds.take k ++ List.replicate j 48).length ≤ 1000) := hide (by have := HH.out; simp; omega)
            clear hdst
            by_cases hlt : j < 0
            case' pos =>
              exact absurd hlt (Nat.not_lt_zero _)
            case' neg =>
              have hje : j = 0 := by omega
              have hlti : ¬ (j : Int) < 0 := by omega
              have HZ : Hid (Dst w0 wr base bs u0 (ds.take k ++ List.replicate (0) 48)) := hide (by have := HDST.out; rw [hje] at this; exact this)
              clear hje HDST HLL hlt
              go_wp2_with fail
              go_meet
              have := HZ.out
              unfold headP
              rw [if_pos h6]
              rw [show min nz (ds.length - 6) = k by omega, show ds.length - 6 - k = 0 by omega]
              exact this
  case rest =>
    have HC0 := hide hcut
    have HL0 : Hid ((headP ds nz).length ≤ 1000) := hide (by have := HH.out; omega)
    clear hcut
    rcases Nat.lt_or_ge ds.length 6 with hn | hn
    case inl =>
      obtain rfl : dp = -1 := by have := HDP.out; omega
      rcases Nat.lt_or_ge 0 nz with hz | hz
      rotate_left
      case inr =>
        obtain rfl : nz = 0 := by omega
        have HEQ : Hid (tailP ds 0 = [46] ++ (List.replicate (1) 48 ++ ((ds.drop 0).take (0) ++ List.replicate (5) 48))) := hide (by unfold tailP; rw [show 6 - ds.length = 1 by omega, show ds.length - 6 = 0 by omega, show 0 - 0 = 0 by omega, show ds.length - 0 - (0) = 5 by omega]; rfl)
        go_wp2_with (first | (at_builtin; refine wpList_app HC0.out HL0.out 46 rfl rfl (.tmp 214) (.tmp 215) rfl rfl rfl ?_; intro v' w' hK; have HK := hide hK; clear hK))
        go_loopw [0, 240] (fun v i wr => ∃ j : Nat, j ≤ 1 ∧ i = .int .i64 j ∧ Dst w0 wr base bs v ((headP ds 0 ++ [46]) ++ List.replicate j 48)) (fun _ i _ => 1 - (intOf i).toNat)
        case atStart => exact ⟨0, Nat.zero_le _, rfl, by have := HK.out; rw [List.replicate_zero, List.append_nil]; exact this⟩
        case' round =>
          obtain ⟨j, hj, rfl, hdst⟩ := hrel
          have HDST := hide hdst
          have HLL : Hid (((headP ds 0 ++ [46]) ++ List.replicate j 48).length ≤ 1000) := hide (by have := HH.out; simp; omega)
          clear hdst
          by_cases hlt : j < 1
          case' pos =>
            have hlti : (j : Int) < 1 := by omega
            go_wp2_with (first | (at_builtin; refine wpList_app HDST.out HLL.out 48 rfl rfl (.tmp 242) (.tmp 243) rfl rfl rfl ?_; intro v' w' hK; have HK := hide hK; clear hK))
            go_roundw
            case rel => exact ⟨j + 1, by omega, by go_num, by have := HK.out; rw [List.append_assoc, ← List.replicate_succ'] at this; exact this⟩
            case measure => simp [intOf]; omega
          case' neg =>
            have hje : j = 1 := by omega
            have hlti : ¬ (j : Int) < 1 := by omega
            have HZ1 : Hid (Dst w0 wr base bs u0 ((headP ds 0 ++ [46]) ++ List.replicate (1) 48)) := hide (by have := HDST.out; rw [hje] at this; exact this)
            clear hje HDST HLL hlt
            go_wp2_with fail
            go_loopw [0, 247] (fun v i wr => ∃ j : Nat, j ≤ 0 ∧ i = .int .i64 j ∧ Dst w0 wr base bs v (((headP ds 0 ++ [46]) ++ List.replicate (1) 48) ++ (ds.drop 0).take j)) (fun _ i _ => 0 - (intOf i).toNat)
            case atStart => exact ⟨0, Nat.zero_le _, rfl, by have := HZ1.out; rw [List.take_zero, List.append_nil]; exact this⟩
            case' round =>
              obtain ⟨j, hj, rfl, hdst⟩ := hrel
              have HDST := hide hdst
              have HLL : Hid ((((headP ds 0 ++ [46]) ++ List.replicate (1) 48) ++ (ds.drop 0).take j).length ≤ 1000) := hide (by have := HH.out; simp; omega)
              clear hdst
              by_cases hlt : j < 0
              case' pos =>
                exact absurd hlt (Nat.not_lt_zero _)
              case' neg =>
                have hje : j = 0 := by omega
                have hlti : ¬ (j : Int) < 0 := by omega
                have HZ2 : Hid (Dst w0 wr base bs u0 (((headP ds 0 ++ [46]) ++ List.replicate (1) 48) ++ (ds.drop 0).take (0))) := hide (by have := HDST.out; rw [hje] at this; exact this)
                clear hje HDST HLL hlt
                go_wp2_with fail
                go_loopw [0, 261] (fun v i wr => ∃ j : Nat, j ≤ 5 ∧ i = .int .i64 j ∧ Dst w0 wr base bs v ((((headP ds 0 ++ [46]) ++ List.replicate (1) 48) ++ (ds.drop 0).take (0)) ++ List.replicate j 48)) (fun _ i _ => 5 - (intOf i).toNat)
                case atStart => exact ⟨0, Nat.zero_le _, rfl, by have := HZ2.out; rw [List.replicate_zero, List.append_nil]; exact this⟩
                case' round =>
                  obtain ⟨j, hj, rfl, hdst⟩ := hrel
                  have HDST := hide hdst
                  have HLL : Hid (((((headP ds 0 ++ [46]) ++ List.replicate (1) 48) ++ (ds.drop 0).take (0)) ++ List.replicate j 48).length ≤ 1000) := hide (by have := HH.out; simp; omega)
                  clear hdst
                  by_cases hlt : j < 5
                  case' pos =>
                    have hlti : (j : Int) < 5 := by omega
                    go_wp2_with (first | (at_builtin; refine wpList_app HDST.out HLL.out 48 rfl rfl (.tmp 263) (.tmp 264) rfl rfl rfl ?_; intro v' w' hK; have HK := hide hK; clear hK))
                    go_roundw
                    case rel => exact ⟨j + 1, by omega, by go_num, by have := HK.out; rw [List.append_assoc, ← List.replicate_succ'] at this; exact this⟩
                    case measure => simp [intOf]; omega
                  case' neg =>
                    have hje : j = 5 := by omega
                    have hlti : ¬ (j : Int) < 5 := by omega
                    have HZ3 : Hid (Dst w0 wr base bs u0 ((((headP ds 0 ++ [46]) ++ List.replicate (1) 48) ++ (ds.drop 0).take (0)) ++ List.replicate (5) 48)) := hide (by have := HDST.out; rw [hje] at this; exact this)
                    clear hje HDST HLL hlt
                    go_wp2_with fail
                    go_returns
                    refine ⟨_, rfl, ?_⟩
                    have := HZ3.out
                    rw [HEQ.out]
                    simp only [List.append_assoc] at this ⊢
                    exact this
      case inl =>
        have hzi : (0 : Int) < (nz : Int) := by omega
        rcases Nat.lt_or_ge nz 5 with h5 | h5
        case inl =>
          have h5i : (nz : Int) < 5 := by omega
          have HEQ : Hid (tailP ds nz = [46] ++ (List.replicate (1) 48 ++ ((ds.drop 0).take (nz) ++ List.replicate (5 - nz) 48))) := hide (by unfold tailP; rw [show 6 - ds.length = 1 by omega, show ds.length - 6 = 0 by omega, show nz - 0 = nz by omega, show ds.length - 0 - (nz) = 5 - nz by omega]; rfl)
          go_wp2_with (first | (at_builtin; refine wpList_app HC0.out HL0.out 46 rfl rfl (.tmp 214) (.tmp 215) rfl rfl rfl ?_; intro v' w' hK; have HK := hide hK; clear hK))
          go_loopw [0, 240] (fun v i wr => ∃ j : Nat, j ≤ 1 ∧ i = .int .i64 j ∧ Dst w0 wr base bs v ((headP ds nz ++ [46]) ++ List.replicate j 48)) (fun _ i _ => 1 - (intOf i).toNat)
          case atStart => exact ⟨0, Nat.zero_le _, rfl, by have := HK.out; rw [List.replicate_zero, List.append_nil]; exact this⟩
          case' round =>
            obtain ⟨j, hj, rfl, hdst⟩ := hrel
            have HDST := hide hdst
            have HLL : Hid (((headP ds nz ++ [46]) ++ List.replicate j 48).length ≤ 1000) := hide (by have := HH.out; simp; omega)
            clear hdst
            by_cases hlt : j < 1
            case' pos =>
              have hlti : (j : Int) < 1 := by omega
              go_wp2_with (first | (at_builtin; refine wpList_app HDST.out HLL.out 48 rfl rfl (.tmp 242) (.tmp 243) rfl rfl rfl ?_; intro v' w' hK; have HK := hide hK; clear hK))
              go_roundw
              case rel => exact ⟨j + 1, by omega, by go_num, by have := HK.out; rw [List.append_assoc, ← List.replicate_succ'] at this; exact this⟩
              case measure => simp [intOf]; omega
            case' neg =>
              have hje : j = 1 := by omega
              have hlti : ¬ (j : Int) < 1 := by omega
              have HZ1 : Hid (Dst w0 wr base bs u0 ((headP ds nz ++ [46]) ++ List.replicate (1) 48)) := hide (by have := HDST.out; rw [hje] at this; exact this)
              clear hje HDST HLL hlt
              go_wp2_with fail
              go_loopw [0, 247] (fun v i wr => ∃ j : Nat, j ≤ nz ∧ i = .int .i64 j ∧ Dst w0 wr base bs v (((headP ds nz ++ [46]) ++ List.replicate (1) 48) ++ (ds.drop 0).take j)) (fun _ i _ => nz - (intOf i).toNat)
              case atStart => exact ⟨0, Nat.zero_le _, rfl, by have := HZ1.out; rw [List.take_zero, List.append_nil]; exact this⟩
              case' round =>
                obtain ⟨j, hj, rfl, hdst⟩ := hrel
                have HDST := hide hdst
                have HLL : Hid ((((headP ds nz ++ [46]) ++ List.replicate (1) 48) ++ (ds.drop 0).take j).length ≤ 1000) := hide (by have := HH.out; simp; omega)
                clear hdst
                by_cases hlt : j < nz
                case' pos =>
                  have hlti : (j : Int) < (nz : Int) := by omega
                  have hkl : j < ds.length := by omega
                  have c0 : wr.cell? ⟨bs, j, none⟩ = some (.int .u8 ((ds[j]'hkl).toNat : Int)) := HDST.out.cell (HD.out (j) _ (List.getElem?_eq_getElem hkl))
                  have hi24 : (((j : Nat) : Int)) < 24 := by omega
                  have HC : Hid ((ds.drop 0).take (j + 1) = (ds.drop 0).take j ++ [ds[j]'hkl]) := hide (by rw [List.take_succ_eq_append_getElem (by rw [List.length_drop]; omega)]; simp)
                  go_wp2_with (first | (at_builtin; refine wpList_app HDST.out HLL.out (ds[j]'hkl) rfl rfl (.tmp 250) (.tmp 257) rfl rfl rfl ?_; intro v' w' hK; have HK := hide hK; clear hK))
                  go_roundw
                  case rel => exact ⟨j + 1, by omega, by go_num, by have := HK.out; rw [List.append_assoc, ← HC.out] at this; exact this⟩
                  case measure => simp [intOf]; omega
                case' neg =>
                  have hje : j = nz := by omega
                  have hlti : ¬ (j : Int) < (nz : Int) := by omega
                  have HZ2 : Hid (Dst w0 wr base bs u0 (((headP ds nz ++ [46]) ++ List.replicate (1) 48) ++ (ds.drop 0).take (nz))) := hide (by have := HDST.out; rw [hje] at this; exact this)
                  clear hje HDST HLL hlt
                  go_wp2_with fail
                  go_loopw [0, 261] (fun v i wr => ∃ j : Nat, j ≤ 5 - nz ∧ i = .int .i64 j ∧ Dst w0 wr base bs v ((((headP ds nz ++ [46]) ++ List.replicate (1) 48) ++ (ds.drop 0).take (nz)) ++ List.replicate j 48)) (fun _ i _ => 5 - nz - (intOf i).toNat)
                  case atStart => exact ⟨0, Nat.zero_le _, rfl, by have := HZ2.out; rw [List.replicate_zero, List.append_nil]; exact this⟩
                  case' round =>
                    obtain ⟨j, hj, rfl, hdst⟩ := hrel
                    have HDST := hide hdst
                    have HLL : Hid (((((headP ds nz ++ [46]) ++ List.replicate (1) 48) ++ (ds.drop 0).take (nz)) ++ List.replicate j 48).length ≤ 1000) := hide (by have := HH.out; simp; omega)
                    clear hdst
                    by_cases hlt : j < 5 - nz
                    case' pos =>
                      have hlti : (j : Int) < 5 - (nz : Int) := by omega
                      go_wp2_with (first | (at_builtin; refine wpList_app HDST.out HLL.out 48 rfl rfl (.tmp 263) (.tmp 264) rfl rfl rfl ?_; intro v' w' hK; have HK := hide hK; clear hK))
                      go_roundw
                      case rel => exact ⟨j + 1, by omega, by go_num, by have := HK.out; rw [List.append_assoc, ← List.replicate_succ'] at this; exact this⟩
                      case measure => simp [intOf]; omega
                    case' neg =>
                      have hje : j = 5 - nz := by omega
                      have hlti : ¬ (j : Int) < 5 - (nz : Int) := by omega
                      have HZ3 : Hid (Dst w0 wr base bs u0 ((((headP ds nz ++ [46]) ++ List.replicate (1) 48) ++ (ds.drop 0).take (nz)) ++ List.replicate (5 - nz) 48)) := hide (by have := HDST.out; rw [hje] at this; exact this)
                      clear hje HDST HLL hlt
                      go_wp2_with fail
                      go_returns
                      refine ⟨_, rfl, ?_⟩
                      have := HZ3.out
                      rw [HEQ.out]
                      simp only [List.append_assoc] at this ⊢
                      exact this
        case inr =>
          obtain rfl : nz = 5 := by omega
          have HEQ : Hid (tailP ds 5 = [46] ++ (List.replicate (1) 48 ++ ((ds.drop 0).take (5) ++ List.replicate (0) 48))) := hide (by unfold tailP; rw [show 6 - ds.length = 1 by omega, show ds.length - 6 = 0 by omega, show 5 - 0 = 5 by omega, show ds.length - 0 - (5) = 0 by omega]; rfl)
          go_wp2_with (first | (at_builtin; refine wpList_app HC0.out HL0.out 46 rfl rfl (.tmp 214) (.tmp 215) rfl rfl rfl ?_; intro v' w' hK; have HK := hide hK; clear hK))
          go_loopw [0, 240] (fun v i wr => ∃ j : Nat, j ≤ 1 ∧ i = .int .i64 j ∧ Dst w0 wr base bs v ((headP ds 5 ++ [46]) ++ List.replicate j 48)) (fun _ i _ => 1 - (intOf i).toNat)
          case atStart => exact ⟨0, Nat.zero_le _, rfl, by have := HK.out; rw [List.replicate_zero, List.append_nil]; exact this⟩
          case' round =>
            obtain ⟨j, hj, rfl, hdst⟩ := hrel
            have HDST := hide hdst
            have HLL : Hid (((headP ds 5 ++ [46]) ++ List.replicate j 48).length ≤ 1000) := hide (by have := HH.out; simp; omega)
            clear hdst
            by_cases hlt : j < 1
            case' pos =>
              have hlti : (j : Int) < 1 := by omega
              go_wp2_with (first | (at_builtin; refine wpList_app HDST.out HLL.out 48 rfl rfl (.tmp 242) (.tmp 243) rfl rfl rfl ?_; intro v' w' hK; have HK := hide hK; clear hK))
              go_roundw
              case rel => exact ⟨j + 1, by omega, by go_num, by have := HK.out; rw [List.append_assoc, ← List.replicate_succ'] at this; exact this⟩
              case measure => simp [intOf]; omega
            case' neg =>
              have hje : j = 1 := by omega
              have hlti : ¬ (j : Int) < 1 := by omega
              have HZ1 : Hid (Dst w0 wr base bs u0 ((headP ds 5 ++ [46]) ++ List.replicate (1) 48)) := hide (by have := HDST.out; rw [hje] at this; exact this)
              clear hje HDST HLL hlt
              go_wp2_with fail
              go_loopw [0, 247] (fun v i wr => ∃ j : Nat, j ≤ 5 ∧ i = .int .i64 j ∧ Dst w0 wr base bs v (((headP ds 5 ++ [46]) ++ List.replicate (1) 48) ++ (ds.drop 0).take j)) (fun _ i _ => 5 - (intOf i).toNat)
              case atStart => exact ⟨0, Nat.zero_le _, rfl, by have := HZ1.out; rw [List.take_zero, List.append_nil]; exact this⟩
              case' round =>
                obtain ⟨j, hj, rfl, hdst⟩ := hrel
                have HDST := hide hdst
                have HLL : Hid ((((headP ds 5 ++ [46]) ++ List.replicate (1) 48) ++ (ds.drop 0).take j).length ≤ 1000) := hide (by have := HH.out; simp; omega)
                clear hdst
                by_cases hlt : j < 5
                case' pos =>
                  have hlti : (j : Int) < 5 := by omega
                  have hkl : j < ds.length := by omega
                  have c0 : wr.cell? ⟨bs, j, none⟩ = some (.int .u8 ((ds[j]'hkl).toNat : Int)) := HDST.out.cell (HD.out (j) _ (List.getElem?_eq_getElem hkl))
                  have hi24 : (((j : Nat) : Int)) < 24 := by omega
                  have HC : Hid ((ds.drop 0).take (j + 1) = (ds.drop 0).take j ++ [ds[j]'hkl]) := hide (by rw [List.take_succ_eq_append_getElem (by rw [List.length_drop]; omega)]; simp)
                  go_wp2_with (first | (at_builtin; refine wpList_app HDST.out HLL.out (ds[j]'hkl) rfl rfl (.tmp 250) (.tmp 257) rfl rfl rfl ?_; intro v' w' hK; have HK := hide hK; clear hK))
                  go_roundw
                  case rel => exact ⟨j + 1, by omega, by go_num, by have := HK.out; rw [List.append_assoc, ← HC.out] at this; exact this⟩
                  case measure => simp [intOf]; omega
                case' neg =>
                  have hje : j = 5 := by omega
                  have hlti : ¬ (j : Int) < 5 := by omega
                  have HZ2 : Hid (Dst w0 wr base bs u0 (((headP ds 5 ++ [46]) ++ List.replicate (1) 48) ++ (ds.drop 0).take (5))) := hide (by have := HDST.out; rw [hje] at this; exact this)
                  clear hje HDST HLL hlt
                  go_wp2_with fail
                  go_loopw [0, 261] (fun v i wr => ∃ j : Nat, j ≤ 0 ∧ i = .int .i64 j ∧ Dst w0 wr base bs v ((((headP ds 5 ++ [46]) ++ List.replicate (1) 48) ++ (ds.drop 0).take (5)) ++ List.replicate j 48)) (fun _ i _ => 0 - (intOf i).toNat)
                  case atStart => exact ⟨0, Nat.zero_le _, rfl, by have := HZ2.out; rw [List.replicate_zero, List.append_nil]; exact this⟩
                  case' round =>
                    obtain ⟨j, hj, rfl, hdst⟩ := hrel
                    have HDST := hide hdst
                    have HLL : Hid (((((headP ds 5 ++ [46]) ++ List.replicate (1) 48) ++ (ds.drop 0).take (5)) ++ List.replicate j 48).length ≤ 1000) := hide (by have := HH.out; simp; omega)
                    clear hdst
                    by_cases hlt : j < 0
                    case' pos =>
                      exact absurd hlt (Nat.not_lt_zero _)
                    case' neg =>
                      have hje : j = 0 := by omega
                      have hlti : ¬ (j : Int) < 0 := by omega
                      have HZ3 : Hid (Dst w0 wr base bs u0 ((((headP ds 5 ++ [46]) ++ List.replicate (1) 48) ++ (ds.drop 0).take (5)) ++ List.replicate (0) 48)) := hide (by have := HDST.out; rw [hje] at this; exact this)
                      clear hje HDST HLL hlt
                      go_wp2_with fail
                      go_returns
                      refine ⟨_, rfl, ?_⟩
                      have := HZ3.out
                      rw [HEQ.out]
                      simp only [List.append_assoc] at this ⊢
                      exact this
    case inr =>
      obtain ⟨D, hD⟩ : ∃ D, ds.length = D + 6 := ⟨ds.length - 6, by omega⟩
      obtain rfl : dp = (D : Int) := by have := HDP.out; omega
      have hDn : ¬ (0 : Int) < -(D : Int) := by omega
      rcases Nat.lt_or_ge D nz with hz | hz
      rotate_left
      case inr =>
        have hzi : ¬ (0 : Int) < (nz : Int) - (D : Int) := by omega
        have HEQ : Hid (tailP ds nz = [46] ++ (List.replicate (0) 48 ++ ((ds.drop D).take (0) ++ List.replicate (6) 48))) := hide (by unfold tailP; rw [show 6 - ds.length = 0 by omega, show ds.length - 6 = D by omega, show nz - D = 0 by omega, show ds.length - D - (0) = 6 by omega]; rfl)
        go_wp2_with (first | (at_builtin; refine wpList_app HC0.out HL0.out 46 rfl rfl (.tmp 214) (.tmp 215) rfl rfl rfl ?_; intro v' w' hK; have HK := hide hK; clear hK))
        go_loopw [0, 240] (fun v i wr => ∃ j : Nat, j ≤ 0 ∧ i = .int .i64 j ∧ Dst w0 wr base bs v ((headP ds nz ++ [46]) ++ List.replicate j 48)) (fun _ i _ => 0 - (intOf i).toNat)
        case atStart => exact ⟨0, Nat.zero_le _, rfl, by have := HK.out; rw [List.replicate_zero, List.append_nil]; exact this⟩
        case' round =>
          obtain ⟨j, hj, rfl, hdst⟩ := hrel
          have HDST := hide hdst
          have HLL : Hid (((headP ds nz ++ [46]) ++ List.replicate j 48).length ≤ 1000) := hide (by have := HH.out; simp; omega)
          clear hdst
          by_cases hlt : j < 0
          case' pos =>
            exact absurd hlt (Nat.not_lt_zero _)
          case' neg =>
            have hje : j = 0 := by omega
            have hlti : ¬ (j : Int) < 0 := by omega
            have HZ1 : Hid (Dst w0 wr base bs u0 ((headP ds nz ++ [46]) ++ List.replicate (0) 48)) := hide (by have := HDST.out; rw [hje] at this; exact this)
            clear hje HDST HLL hlt
            go_wp2_with fail
            go_loopw [0, 247] (fun v i wr => ∃ j : Nat, j ≤ 0 ∧ i = .int .i64 j ∧ Dst w0 wr base bs v (((headP ds nz ++ [46]) ++ List.replicate (0) 48) ++ (ds.drop D).take j)) (fun _ i _ => 0 - (intOf i).toNat)
            case atStart => exact ⟨0, Nat.zero_le _, rfl, by have := HZ1.out; rw [List.take_zero, List.append_nil]; exact this⟩
            case' round =>
              obtain ⟨j, hj, rfl, hdst⟩ := hrel
              have HDST := hide hdst
              have HLL : Hid ((((headP ds nz ++ [46]) ++ List.replicate (0) 48) ++ (ds.drop D).take j).length ≤ 1000) := hide (by have := HH.out; simp; omega)
              clear hdst
              by_cases hlt : j < 0
              case' pos =>
                exact absurd hlt (Nat.not_lt_zero _)
              case' neg =>
                have hje : j = 0 := by omega
                have hlti : ¬ (j : Int) < 0 := by omega
                have HZ2 : Hid (Dst w0 wr base bs u0 (((headP ds nz ++ [46]) ++ List.replicate (0) 48) ++ (ds.drop D).take (0))) := hide (by have := HDST.out; rw [hje] at this; exact this)
                clear hje HDST HLL hlt
                go_wp2_with fail
                go_loopw [0, 261] (fun v i wr => ∃ j : Nat, j ≤ 6 ∧ i = .int .i64 j ∧ Dst w0 wr base bs v ((((headP ds nz ++ [46]) ++ List.replicate (0) 48) ++ (ds.drop D).take (0)) ++ List.replicate j 48)) (fun _ i _ => 6 - (intOf i).toNat)
                case atStart => exact ⟨0, Nat.zero_le _, rfl, by have := HZ2.out; rw [List.replicate_zero, List.append_nil]; exact this⟩
                case' round =>
                  obtain ⟨j, hj, rfl, hdst⟩ := hrel
                  have HDST := hide hdst
                  have HLL : Hid (((((headP ds nz ++ [46]) ++ List.replicate (0) 48) ++ (ds.drop D).take (0)) ++ List.replicate j 48).length ≤ 1000) := hide (by have := HH.out; simp; omega)
                  clear hdst
                  by_cases hlt : j < 6
                  case' pos =>
                    have hlti : (j : Int) < 6 := by omega
                    go_wp2_with (first | (at_builtin; refine wpList_app HDST.out HLL.out 48 rfl rfl (.tmp 263) (.tmp 264) rfl rfl rfl ?_; intro v' w' hK; have HK := hide hK; clear hK))
                    go_roundw
                    case rel => exact ⟨j + 1, by omega, by go_num, by have := HK.out; rw [List.append_assoc, ← List.replicate_succ'] at this; exact this⟩
                    case measure => simp [intOf]; omega
                  case' neg =>
                    have hje : j = 6 := by omega
                    have hlti : ¬ (j : Int) < 6 := by omega
                    have HZ3 : Hid (Dst w0 wr base bs u0 ((((headP ds nz ++ [46]) ++ List.replicate (0) 48) ++ (ds.drop D).take (0)) ++ List.replicate (6) 48)) := hide (by have := HDST.out; rw [hje] at this; exact this)
                    clear hje HDST HLL hlt
                    go_wp2_with fail
                    go_returns
                    refine ⟨_, rfl, ?_⟩
                    have := HZ3.out
                    rw [HEQ.out]
                    simp only [List.append_assoc] at this ⊢
                    exact this
      case inl =>
        obtain ⟨M, hM⟩ : ∃ M, nz = D + M := ⟨nz - D, by omega⟩
        have hMi : (nz : Int) - (D : Int) = (M : Int) := by omega
        have hM0 : (0 : Int) < (M : Int) := by omega
        have HM := hide hM
        clear hM
        rcases Nat.lt_or_ge M 6 with h5 | h5
        case inl =>
          have h5i : (M : Int) < 6 := by omega
          have HEQ : Hid (tailP ds nz = [46] ++ (List.replicate (0) 48 ++ ((ds.drop D).take (M) ++ List.replicate (6 - M) 48))) := hide (by unfold tailP; rw [show 6 - ds.length = 0 by omega, show ds.length - 6 = D by omega, show nz - D = M by have := HM.out; omega, show ds.length - D - (M) = 6 - M by omega]; rfl)
          go_wp2_with (first | (at_builtin; refine wpList_app HC0.out HL0.out 46 rfl rfl (.tmp 214) (.tmp 215) rfl rfl rfl ?_; intro v' w' hK; have HK := hide hK; clear hK))
          go_loopw [0, 240] (fun v i wr => ∃ j : Nat, j ≤ 0 ∧ i = .int .i64 j ∧ Dst w0 wr base bs v ((headP ds nz ++ [46]) ++ List.replicate j 48)) (fun _ i _ => 0 - (intOf i).toNat)
          case atStart => exact ⟨0, Nat.zero_le _, rfl, by have := HK.out; rw [List.replicate_zero, List.append_nil]; exact this⟩
          case' round =>
            obtain ⟨j, hj, rfl, hdst⟩ := hrel
            have HDST := hide hdst
            have HLL : Hid (((headP ds nz ++ [46]) ++ List.replicate j 48).length ≤ 1000) := hide (by have := HH.out; simp; omega)
            clear hdst
            by_cases hlt : j < 0
            case' pos =>
              exact absurd hlt (Nat.not_lt_zero _)
            case' neg =>
              have hje : j = 0 := by omega
              have hlti : ¬ (j : Int) < 0 := by omega
              have HZ1 : Hid (Dst w0 wr base bs u0 ((headP ds nz ++ [46]) ++ List.replicate (0) 48)) := hide (by have := HDST.out; rw [hje] at this; exact this)
              clear hje HDST HLL hlt
              go_wp2_with fail
              go_loopw [0, 247] (fun v i wr => ∃ j : Nat, j ≤ M ∧ i = .int .i64 j ∧ Dst w0 wr base bs v (((headP ds nz ++ [46]) ++ List.replicate (0) 48) ++ (ds.drop D).take j)) (fun _ i _ => M - (intOf i).toNat)
              case atStart => exact ⟨0, Nat.zero_le _, rfl, by have := HZ1.out; rw [List.take_zero, List.append_nil]; exact this⟩
              case' round =>
                obtain ⟨j, hj, rfl, hdst⟩ := hrel
                have HDST := hide hdst
                have HLL : Hid ((((headP ds nz ++ [46]) ++ List.replicate (0) 48) ++ (ds.drop D).take j).length ≤ 1000) := hide (by have := HH.out; simp; omega)
                clear hdst
                by_cases hlt : j < M
                case' pos =>
                  have hlti : (j : Int) < (M : Int) := by omega
                  have hkl : D + j < ds.length := by omega
                  have c0 : wr.cell? ⟨bs, D + j, none⟩ = some (.int .u8 ((ds[D + j]'hkl).toNat : Int)) := HDST.out.cell (HD.out (D + j) _ (List.getElem?_eq_getElem hkl))
                  have hi24 : (((D + j : Nat) : Int)) < 24 := by omega
                  have HC : Hid ((ds.drop D).take (j + 1) = (ds.drop D).take j ++ [ds[D + j]'hkl]) := hide (by rw [List.take_succ_eq_append_getElem (by rw [List.length_drop]; omega)]; simp)
                  go_wp2_with (first | (at_builtin; refine wpList_app HDST.out HLL.out (ds[D + j]'hkl) rfl rfl (.tmp 250) (.tmp 257) rfl rfl rfl ?_; intro v' w' hK; have HK := hide hK; clear hK))
                  go_roundw
                  case rel => exact ⟨j + 1, by omega, by go_num, by have := HK.out; rw [List.append_assoc, ← HC.out] at this; exact this⟩
                  case measure => simp [intOf]; omega
                case' neg =>
                  have hje : j = M := by omega
                  have hlti : ¬ (j : Int) < (M : Int) := by omega
                  have HZ2 : Hid (Dst w0 wr base bs u0 (((headP ds nz ++ [46]) ++ List.replicate (0) 48) ++ (ds.drop D).take (M))) := hide (by have := HDST.out; rw [hje] at this; exact this)
                  clear hje HDST HLL hlt
                  go_wp2_with fail
                  go_loopw [0, 261] (fun v i wr => ∃ j : Nat, j ≤ 6 - M ∧ i = .int .i64 j ∧ Dst w0 wr base bs v ((((headP ds nz ++ [46]) ++ List.replicate (0) 48) ++ (ds.drop D).take (M)) ++ List.replicate j 48)) (fun _ i _ => 6 - M - (intOf i).toNat)
                  case atStart => exact ⟨0, Nat.zero_le _, rfl, by have := HZ2.out; rw [List.replicate_zero, List.append_nil]; exact this⟩
                  case' round =>
                    obtain ⟨j, hj, rfl, hdst⟩ := hrel
                    have HDST := hide hdst
                    have HLL : Hid (((((headP ds nz ++ [46]) ++ List.replicate (0) 48) ++ (ds.drop D).take (M)) ++ List.replicate j 48).length ≤ 1000) := hide (by have := HH.out; simp; omega)
                    clear hdst
                    by_cases hlt : j < 6 - M
                    case' pos =>
                      have hlti : (j : Int) < 6 - (M : Int) := by omega
                      go_wp2_with (first | (at_builtin; refine wpList_app HDST.out HLL.out 48 rfl rfl (.tmp 263) (.tmp 264) rfl rfl rfl ?_; intro v' w' hK; have HK := hide hK; clear hK))
                      go_roundw
                      case rel => exact ⟨j + 1, by omega, by go_num, by have := HK.out; rw [List.append_assoc, ← List.replicate_succ'] at this; exact this⟩
                      case measure => simp [intOf]; omega
                    case' neg =>
                      have hje : j = 6 - M := by omega
                      have hlti : ¬ (j : Int) < 6 - (M : Int) := by omega
                      have HZ3 : Hid (Dst w0 wr base bs u0 ((((headP ds nz ++ [46]) ++ List.replicate (0) 48) ++ (ds.drop D).take (M)) ++ List.replicate (6 - M) 48)) := hide (by have := HDST.out; rw [hje] at this; exact this)
                      clear hje HDST HLL hlt
                      go_wp2_with fail
                      go_returns
                      refine ⟨_, rfl, ?_⟩
                      have := HZ3.out
                      rw [HEQ.out]
                      simp only [List.append_assoc] at this ⊢
                      exact this
        case inr =>
          obtain rfl : M = 6 := by have := HM.out; omega
          have HEQ : Hid (tailP ds nz = [46] ++ (List.replicate (0) 48 ++ ((ds.drop D).take (6) ++ List.replicate (0) 48))) := hide (by unfold tailP; rw [show 6 - ds.length = 0 by omega, show ds.length - 6 = D by omega, show nz - D = 6 by have := HM.out; omega, show ds.length - D - (6) = 0 by omega]; rfl)
          go_wp2_with (first | (at_builtin; refine wpList_app HC0.out HL0.out 46 rfl rfl (.tmp 214) (.tmp 215) rfl rfl rfl ?_; intro v' w' hK; have HK := hide hK; clear hK))
          go_loopw [0, 240] (fun v i wr => ∃ j : Nat, j ≤ 0 ∧ i = .int .i64 j ∧ Dst w0 wr base bs v ((headP ds nz ++ [46]) ++ List.replicate j 48)) (fun _ i _ => 0 - (intOf i).toNat)
          case atStart => exact ⟨0, Nat.zero_le _, rfl, by have := HK.out; rw [List.replicate_zero, List.append_nil]; exact this⟩
          case' round =>
            obtain ⟨j, hj, rfl, hdst⟩ := hrel
            have HDST := hide hdst
            have HLL : Hid (((headP ds nz ++ [46]) ++ List.replicate j 48).length ≤ 1000) := hide (by have := HH.out; simp; omega)
            clear hdst
            by_cases hlt : j < 0
            case' pos =>
              exact absurd hlt (Nat.not_lt_zero _)
            case' neg =>
              have hje : j = 0 := by omega
              have hlti : ¬ (j : Int) < 0 := by omega
              have HZ1 : Hid (Dst w0 wr base bs u0 ((headP ds nz ++ [46]) ++ List.replicate (0) 48)) := hide (by have := HDST.out; rw [hje] at this; exact this)
              clear hje HDST HLL hlt
              go_wp2_with fail
              go_loopw [0, 247] (fun v i wr => ∃ j : Nat, j ≤ 6 ∧ i = .int .i64 j ∧ Dst w0 wr base bs v (((headP ds nz ++ [46]) ++ List.replicate (0) 48) ++ (ds.drop D).take j)) (fun _ i _ => 6 - (intOf i).toNat)
              case atStart => exact ⟨0, Nat.zero_le _, rfl, by have := HZ1.out; rw [List.take_zero, List.append_nil]; exact this⟩
              case' round =>
                obtain ⟨j, hj, rfl, hdst⟩ := hrel
                have HDST := hide hdst
                have HLL : Hid ((((headP ds nz ++ [46]) ++ List.replicate (0) 48) ++ (ds.drop D).take j).length ≤ 1000) := hide (by have := HH.out; simp; omega)
                clear hdst
                by_cases hlt : j < 6
                case' pos =>
                  have hlti : (j : Int) < 6 := by omega
                  have hkl : D + j < ds.length := by omega
                  have c0 : wr.cell? ⟨bs, D + j, none⟩ = some (.int .u8 ((ds[D + j]'hkl).toNat : Int)) := HDST.out.cell (HD.out (D + j) _ (List.getElem?_eq_getElem hkl))
                  have hi24 : (((D + j : Nat) : Int)) < 24 := by omega
                  have HC : Hid ((ds.drop D).take (j + 1) = (ds.drop D).take j ++ [ds[D + j]'hkl]) := hide (by rw [List.take_succ_eq_append_getElem (by rw [List.length_drop]; omega)]; simp)
                  go_wp2_with (first | (at_builtin; refine wpList_app HDST.out HLL.out (ds[D + j]'hkl) rfl rfl (.tmp 250) (.tmp 257) rfl rfl rfl ?_; intro v' w' hK; have HK := hide hK; clear hK))
                  go_roundw
                  case rel => exact ⟨j + 1, by omega, by go_num, by have := HK.out; rw [List.append_assoc, ← HC.out] at this; exact this⟩
                  case measure => simp [intOf]; omega
                case' neg =>
                  have hje : j = 6 := by omega
                  have hlti : ¬ (j : Int) < 6 := by omega
                  have HZ2 : Hid (Dst w0 wr base bs u0 (((headP ds nz ++ [46]) ++ List.replicate (0) 48) ++ (ds.drop D).take (6))) := hide (by have := HDST.out; rw [hje] at this; exact this)
                  clear hje HDST HLL hlt
                  go_wp2_with fail
                  go_loopw [0, 261] (fun v i wr => ∃ j : Nat, j ≤ 0 ∧ i = .int .i64 j ∧ Dst w0 wr base bs v ((((headP ds nz ++ [46]) ++ List.replicate (0) 48) ++ (ds.drop D).take (6)) ++ List.replicate j 48)) (fun _ i _ => 0 - (intOf i).toNat)
                  case atStart => exact ⟨0, Nat.zero_le _, rfl, by have := HZ2.out; rw [List.replicate_zero, List.append_nil]; exact this⟩
                  case' round =>
                    obtain ⟨j, hj, rfl, hdst⟩ := hrel
                    have HDST := hide hdst
                    have HLL : Hid (((((headP ds nz ++ [46]) ++ List.replicate (0) 48) ++ (ds.drop D).take (6)) ++ List.replicate j 48).length ≤ 1000) := hide (by have := HH.out; simp; omega)
                    clear hdst
                    by_cases hlt : j < 0
                    case' pos =>
                      exact absurd hlt (Nat.not_lt_zero _)
                    case' neg =>
                      have hje : j = 0 := by omega
                      have hlti : ¬ (j : Int) < 0 := by omega
                      have HZ3 : Hid (Dst w0 wr base bs u0 ((((headP ds nz ++ [46]) ++ List.replicate (0) 48) ++ (ds.drop D).take (6)) ++ List.replicate (0) 48)) := hide (by have := HDST.out; rw [hje] at this; exact this)
                      clear hje HDST HLL hlt
                      go_wp2_with fail
                      go_returns
                      refine ⟨_, rfl, ?_⟩
                      have := HZ3.out
                      rw [HEQ.out]
                      simp only [List.append_assoc] at this ⊢
                      exact this
end Go.Proofs.YtbcnhcpgloncdaaGreatDoor
