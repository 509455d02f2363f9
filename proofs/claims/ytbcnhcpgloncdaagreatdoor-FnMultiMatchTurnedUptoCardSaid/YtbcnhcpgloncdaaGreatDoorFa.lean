/-
  THE SMALL FUNCTIONS UNDER FormatFloat.
-/
import Derived.Test.YtbcnhcpgloncdaaGreatDoorTab
import Derived.Laws.Bits64b
import Derived.Deep.QuietTactic
import Derived.BigQuiet
namespace Go.Proofs.YtbcnhcpgloncdaaGreatDoor
open Go.RowKit

theorem log10_any (x : Int) (h0 : -1000 ≤ x) (h1 : x ≤ 1000) (w : World) : Calls Tryz.prog 192 #[.int .i64 x] w fun e w' => e = .returned (.int .i64 (x * 78913 / 262144)) ∧ w' = w := by
  go_enter Tryz.func192, Tryz.ntmps192
  go_wp2
  go_ret
  exact ⟨rfl, rfl⟩
theorem log2_any (x : Int) (h0 : -1000 ≤ x) (h1 : x ≤ 1000) (w : World) : Calls Tryz.prog 230 #[.int .i64 x] w fun e w' => e = .returned (.int .i64 (x * 108853 / 32768)) ∧ w' = w := by
  go_enter Tryz.func230, Tryz.ntmps230
  go_wp2
  go_ret
  exact ⟨rfl, rfl⟩
theorem unmin_any (x : Nat) (h1 : x ≤ 1000000000000000000) (h0 : 1 ≤ x) (w : World) : Calls Tryz.prog 238 #[.int .u64 x] w fun e w' => e = .returned (.int .u64 ((x : Int) * 4 - 2)) ∧ w' = w := by
  go_enter Tryz.func238, Tryz.ntmps238
  go_wp2
  go_ret
  exact ⟨rfl, rfl⟩
theorem round_any (d : Nat) (h1 : d ≤ 1000000000000000000) (w : World) : Calls Tryz.prog 235 #[.int .u64 (4 * d : Int)] w fun e w' => e = .returned (.int .u64 d) ∧ w' = w := by
  have hb : bits .and .u64 (d : Int) 1 = ((d % 2 : Nat) : Int) := by
    rw [show (1 : Int) = ((1 : Nat) : Int) by rfl, bits_and_u64_nat d 1 (by omega) (by omega), Nat.and_one_is_mod]
  have hq : (4 * (d : Int) + 1 + (d : Int) % 2) / 4 = d := by omega
  go_enter Tryz.func235, Tryz.ntmps235
  go_wp2
  go_ret
  exact ⟨rfl, rfl⟩
theorem b64_any (b : Bool) (w : World) : Calls Tryz.prog 207 #[.bool b] w fun e w' => e = .returned (.int .u64 (if b then 1 else 0)) ∧ w' = w := by
  cases b
  all_goals
    go_enter Tryz.func207, Tryz.ntmps207
    go_wp2
    go_ret
    exact ⟨rfl, rfl⟩
theorem bun_any (b : Bool) (w : World) : Calls Tryz.prog 263 #[.bool b] w fun e w' => e = .returned (.int .u64 (if b then 1 else 0)) ∧ w' = w := by
  cases b
  all_goals
    go_enter Tryz.func263, Tryz.ntmps263
    go_wp2
    go_ret
    exact ⟨rfl, rfl⟩
theorem below_drewN (w : World) (n : Nat) : Below w.heap.size w (w.drewN n) :=
  ⟨rfl, rfl, rfl, Nat.le_refl _, fun _ _ => rfl⟩
/-- A multiple of 20 by 10. -/
theorem div_any (v : Nat) (h1 : v ≤ 1000000000000000000) (hv : v % 2 = 0) (w : World) : Calls Tryz.prog 239 #[.int .u64 ((v : Int) * 10), .int .u64 10] w fun e w' => e = .returned (.int .u64 v) ∧ Below w.heap.size w w' := by
  have hb : bits .and .u64 ((v : Int) * 10) 1 = 0 := by
    rw [show (v : Int) * 10 = ((v * 10 : Nat) : Int) by push_cast; rfl, show (1 : Int) = ((1 : Nat) : Int) by rfl, bits_and_u64_nat (v * 10) 1 (by omega) (by omega), Nat.and_one_is_mod]
    omega
  have ho : bits .or .u64 ((v : Nat) : Int) 0 = v := by
    rw [show (0 : Int) = ((0 : Nat) : Int) by rfl, bits_or_u64_nat v 0 (by omega) (by omega), Nat.or_zero]
  have hq : ((v : Int) * 10).tdiv 10 = (v : Int) := by rw [Int.tdiv_eq_ediv_of_nonneg (by omega)]; omega
  have hr : ((v : Int) * 10).tmod 10 = 0 := by rw [Int.tmod_eq_emod_of_nonneg (by omega)]; omega
  have hV0 : 0 ≤ (v : Int) * 10 := by omega
  have hV1 : (v : Int) * 10 < 18446744073709551616 := by omega
  generalize (v : Int) * 10 = V at *
  have hc : ∀ n, Calls Tryz.prog 263 #[.bool false] (w.drewN n) fun e w' => e = .returned (.int .u64 0) ∧ ∃ m, w' = (w.drewN m) := fun n => (bun_any false _).mono fun e w' ⟨h1, h2⟩ => ⟨h1, n, h2⟩
  go_enter Tryz.func239, Tryz.ntmps239
  go_wp2
  go_quiet (exact hc _)
  go_wp2
  go_returns
  exact ⟨rfl, below_drewN _ _⟩
def PreAt (w : World) (b : Nat) (h l : Int) (s : Int) : Prop := w.heap[b]? = some (.cells #[.int .u64 h, .int .u64 l, .int .i64 s] 255 (0, 0))
theorem set3 {w1 : World} {b : Nat} {z0 z1 z2 : Value} {t : TypeId} (h : w1.heap[b]? = some (.cells #[z0, z1, z2] t (0, 0))) (v0 v1 v2 : Value) :
    (((w1.setCell ⟨b, 0, none⟩ v0).setCell ⟨b, 1, none⟩ v1).setCell ⟨b, 2, none⟩ v2).heap[b]? = some (.cells #[v0, v1, v2] t (0, 0)) :=
  heap_setCell_same _ _ _ _ _ _ (heap_setCell_same _ _ _ _ _ _ (heap_setCell_same _ _ _ _ _ _ h))
theorem below3 {w1 : World} {b n : Nat} (hn : n ≤ b) (v0 v1 v2 : Value) : Below n w1 (((w1.setCell ⟨b, 0, none⟩ v0).setCell ⟨b, 1, none⟩ v1).setCell ⟨b, 2, none⟩ v2) :=
  Below.setCell (Below.setCell (Below.setCell (Below.refl _ _) hn _) hn _) hn _
theorem prescale_any (p e lp s hi : Int) (hp : (p = 6 ∧ hi = 17592186044416000000) ∨ (p = 7 ∧ hi = 10995116277760000000)) (he : -1000 ≤ e) (he' : e ≤ 1000) (hl : -1000 ≤ lp) (hl' : lp ≤ 1000) (hs : -(e + lp + 3) = s) (b : Nat) (w : World) (c1 : w.cell? ⟨13, 708, none⟩ = some (.int .u64 17592186044416000000)) (c2 : w.cell? ⟨13, 709, none⟩ = some (.int .u64 0))
    (c3 : w.cell? ⟨13, 710, none⟩ = some (.int .u64 10995116277760000000)) (c4 : w.cell? ⟨13, 711, none⟩ = some (.int .u64 0)) (hb : PreAt w b 0 0 0) :
    Calls Tryz.prog 229 #[.pointer (some ⟨b, 0, none⟩), .int .i64 e, .int .i64 p, .int .i64 lp] w fun r w' => r = .returned (.tuple #[]) ∧ PreAt w' b hi 0 s ∧ Below b w w' := by
  unfold PreAt at hb
  have d0 := cell_of_row w _ 0 _ _ _ hb
  have d1 := cell_of_row w _ 1 _ _ _ hb
  have d2 := cell_of_row w _ 2 _ _ _ hb
  have f0 := frozen_of_row w _ 0 _ _ hb
  have f1 := frozen_of_row w _ 1 _ _ hb
  have f2 := frozen_of_row w _ 2 _ _ hb
  have HB := hide hb
  clear hb
  rcases hp with ⟨rfl, rfl⟩ | ⟨rfl, rfl⟩
  all_goals
    go_enter Tryz.func229, Tryz.ntmps229
    go_wp2
    go_returns
    exact ⟨rfl, set3 HB.out _ _ _, below3 (Nat.le_refl _) _ _ _⟩
/-- What is scaled exactly. -/
theorem uscale_any (x h s u : Nat) (hx : x < 18446744073709551616) (hh : h < 18446744073709551616) (hs : s ≤ 63) (hu : u ≤ 1000000000000000000) (e1 : x * h / 18446744073709551616 = u * 2 ^ s) (e2 : x * h % 18446744073709551616 = 0) (b : Nat) (w : World) (hb : PreAt w b h 0 s)
    (M : ∀ y z w, y < 18446744073709551616 → z < 18446744073709551616 → Calls Tryz.prog 262 #[.int .u64 (y : Nat), .int .u64 (z : Nat)] w fun e w' => e = .returned (.tuple #[.int .u64 ((y * z / 18446744073709551616 : Nat) : Int), .int .u64 ((y * z % 18446744073709551616 : Nat) : Int)]) ∧ w' = w) :
    Calls Tryz.prog 231 #[.int .u64 x, .pointer (some ⟨b, 0, none⟩)] w fun r w' => r = .returned (.int .u64 u) ∧ Below w.heap.size w w' := by
  unfold PreAt at hb
  have d0 := cell_of_row w _ 0 _ _ _ hb
  have d1 := cell_of_row w _ 1 _ _ _ hb
  have d2 := cell_of_row w _ 2 _ _ _ hb
  have hb1 : bits .and .i64 (s : Int) 63 = s := by
    have := bits_mask .i64 63 (by decide) (fun n h0 h1 => by rw [IntKind.wrap_i64]; omega) 6 (by decide) (s : Int) (by omega) (by omega)
    rw [show (63 : Int) = 2 ^ 6 - 1 by decide, this]
    omega
  have hM := hide M
  have hp := Nat.two_pow_pos s
  have hlt : u * 2 ^ s < 18446744073709551616 := by rw [← e1]; exact Nat.div_lt_of_lt_mul (by exact Nat.mul_lt_mul'' hx hh)
  have E1 := hide e1
  have E2 := hide e2
  clear M e1 e2
  go_enter Tryz.func231, Tryz.ntmps231
  go_wp2_with fail
  refine (hM.out x h _ hx hh).mono ?_
  rintro e w1 ⟨rfl, rfl⟩
  rw [E1.out, E2.out]
  obtain ⟨H, hH⟩ : ∃ H : Nat, H = u * 2 ^ s := ⟨_, rfl⟩
  have g1 : ((H : Nat) : Int) / 2 ^ s = (u : Int) := by rw [hH]; push_cast; exact Int.mul_ediv_cancel _ (by exact_mod_cast Nat.ne_of_gt hp)
  have g2 : (u : Int) * 2 ^ s = ((H : Nat) : Int) := by rw [hH]; push_cast; rfl
  have hH1 : H < 18446744073709551616 := by omega
  rw [← hH]
  clear hH
  go_wp2_with fail
  refine (hM.out x 0 _ hx (by omega)).mono ?_
  rintro e w1 ⟨rfl, rfl⟩
  rw [Nat.mul_zero, Nat.zero_div, Nat.zero_mod]
  go_wp2_with fail
  refine (b64_any _ _).mono ?_
  rintro e w1 ⟨rfl, rfl⟩
  have hc : ∀ n, Calls Tryz.prog 207 #[.bool false] (w1.drewN n) fun e w' => e = .returned (.int .u64 0) ∧ ∃ m, w' = (w1.drewN m) := fun n => (b64_any false _).mono fun e w' ⟨h1, h2⟩ => ⟨h1, n, h2⟩
  have ho : bits .or .u64 ((u : Nat) : Int) 0 = u := by
    rw [show (0 : Int) = ((0 : Nat) : Int) by rfl, bits_or_u64_nat u 0 (by omega) (by omega), Nat.or_zero]
  go_wp2_with fail
  go_quiet (exact hc _)
  go_wp2
  go_returns
  exact ⟨rfl, below_drewN _ _⟩
end Go.Proofs.YtbcnhcpgloncdaaGreatDoor
