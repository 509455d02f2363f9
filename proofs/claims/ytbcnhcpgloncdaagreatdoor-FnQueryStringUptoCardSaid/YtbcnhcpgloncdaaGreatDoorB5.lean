/-
  strconv.FormatFloat AT A BOOST: its contract.
-/
import Derived.Test.YtbcnhcpgloncdaaGreatDoorB4
namespace Go.Proofs.YtbcnhcpgloncdaaGreatDoor
open Go.RowKit Go.Sort

theorem bText_len {x : Nat} (hb : boostB x = true) : (bText x).length ≤ 30 := by
  obtain ⟨k, L, hk1, hk2, hL, hlo, hhi, hs, hxb⟩ := boost_bits hb
  unfold bText
  rw [kOf_eq hL hlo hhi hxb]
  exact fText_length _ (dec_len _ (by omega) (by omega)).2

/-- string(b) of a row of bytes that is not empty. -/
theorem conv_row {w : World} {base : Nat} {v : Value} {l : List UInt8} (h : w.ownsRow base 5 1 v l.length (l.map bv)) (hne : l ≠ []) : (convert 128 9 v).run Tryz.prog w = .ok (.string (bs l)) w := by
  rcases h.2 with ⟨rfl, hn⟩ | ⟨g, cap, cur, rfl, q2, q3, q4⟩
  · exact absurd (List.eq_nil_of_length_eq_zero hn) hne
  · refine run_convert_bytes_back w 128 9 5 ⟨g, 0, none⟩ cap l Tryz.underlying128 Tryz.underlying5 Tryz.underlying9 (fun j hj => ?_)
    rw [Lib.add_plain, Nat.zero_add, h.cellAt j (by omega)]
    simp [List.getElem?_eq_getElem hj]
theorem fText_ne (d : Nat) : fText d ≠ [] := by unfold fText; simp

set_option maxHeartbeats 1000000 in
theorem format154 {x : Nat} (hb : boostB x = true) (hx : x < 18446744073709551616) (w0 : World) (hG : Glob w0) :
    Calls Tryz.prog 154 #[.float .f64 x, .int .u8 102, .int .i64 6, .int .i64 64] w0 (RetText w0 (bText x)) := by
  have HB := hide hb
  have HG := hide hG
  have HL := hide (bText_len hb)
  clear hb hG
  obtain ⟨i, hi, hz0, hz1, hz2⟩ := info_parts Tryz.info5
  go_enter Tryz.func154, Tryz.ntmps154
  go_wp2_with (first | (refine wpList_make_own _ rfl (.const (.int .i64 0)) (.tmp 25) 128 rfl w0.heap.size 5 i _ 1 Tryz.underlying128 hi hz0 hz1 .i64 .i64 24 24 rfl rfl rfl (by rw [hz2]; decide) (by decide) (by first | exact Nat.le_refl _ | simp) ?_; intro w1 hown hg; have HOWN := hide hown; have HGR := hide hg; clear hown hg))
  refine (ftoa64_any HB.out hx w1 (HG.out.below ⟨HGR.out.os, HGR.out.tape, HGR.out.output, HGR.out.size, fun k hk => HGR.out.block k hk (by simp)⟩) w0.heap.size _ HOWN.out HGR.out.size).mono ?_
  rintro e w2 ⟨v', rfl, hown2, hb2⟩
  have HOWN2 := hide hown2
  have HB2 := hide hb2
  have hcv := conv_row hown2 (show bText x ≠ [] from fText_ne _)
  clear hown2 hb2
  go_wp2_with fail
  go_returns
  exact ⟨rfl, Below.trans ⟨HGR.out.os, HGR.out.tape, HGR.out.output, HGR.out.size, fun k hk => HGR.out.block k hk (by simp)⟩ (HB2.out.mono (Nat.le_refl _))⟩

/-- FormatFloat's contract at a boost. -/
def okB (x : Nat) : Prop := boostB x = true ∧ x < 18446744073709551616
theorem formatFloat_any (x : Nat) (w : World) (h : okB x) (hG : Glob w) : Calls Tryz.prog 128 #[.float .f64 x, .int .u8 102, .int .i64 6, .int .i64 64] w (RetText w (bText x)) := by
  have H := hide h
  have HG := hide hG
  clear h hG
  go_enter Tryz.func128, Tryz.ntmps128
  go_wp2_with fail
  refine (format154 H.out.1 H.out.2 w HG.out).mono ?_
  rintro e w1 ⟨rfl, hb⟩
  have HB := hide hb
  clear hb
  go_wp2_with fail
  go_returns
  exact ⟨rfl, HB.out⟩
theorem bText_small (x : Nat) (h : okB x) : (bText x).length ≤ 1000 := Nat.le_trans (bText_len h.1) (by decide)
end Go.Proofs.YtbcnhcpgloncdaaGreatDoor
