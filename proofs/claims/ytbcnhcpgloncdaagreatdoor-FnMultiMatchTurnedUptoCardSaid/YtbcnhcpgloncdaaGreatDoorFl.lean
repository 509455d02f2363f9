/-
  FLOATS: what the walk meets of them: x - x, x * 64, comparisons; a NaN draws its bits.
-/
import Derived.Test.YtbcnhcpgloncdaaGreatDoorBase
namespace Go.Proofs.YtbcnhcpgloncdaaGreatDoor
open Go.RowKit
open Ieee (Datum)

abbrev dbl : Ieee.Format := Ieee.double

/-- A number of JSON: no infinity and no NaN. -/
def fin (n : Nat) : Bool := (dbl.sub n n).isSome

theorem sub_self_some {n r : Nat} (h : dbl.sub n n = some r) : r = 0 := by
  unfold Ieee.Format.sub at h
  cases hr : dbl.read n with
  | number s m i =>
    rw [hr] at h
    have e : Ieee.signed s m (i - i).toNat + Ieee.signed (!s) m (i - i).toNat = 0 := by
      cases s <;> simp [Ieee.signed] <;> omega
    simp only [Datum.opposite, Datum.sum, Int.min_self, e, if_true, Option.map_some, Int.natAbs_zero, Ieee.Format.write, Ieee.Format.nearest] at h
    cases s <;> simp [Ieee.Format.word] at h <;> exact h.symm
  | infinity s => rw [hr] at h; cases s <;> simp [Datum.opposite, Datum.sum] at h
  | nan s f => rw [hr] at h; simp [Datum.sum] at h

/-- The bits of a NaN that a draw gives. -/
def nanOf (t : Nat) : Nat := (t % 2) * 2 ^ 63 + 0x7ff0000000000000 + 1 + (t / 2) % (2 ^ 52 - 1)

theorem read_nanOf (t : Nat) : (dbl.read (nanOf t)).isNaN = true := by
  have h1 : t % 2 < 2 := Nat.mod_lt _ (by omega)
  have h2 : (t / 2) % (2 ^ 52 - 1) < 2 ^ 52 - 1 := Nat.mod_lt _ (by omega)
  unfold nanOf Ieee.Format.read
  generalize (t / 2) % (2 ^ 52 - 1) = q at *
  generalize t % 2 = s at *
  have e1 : dbl.signWeight = 2 ^ 63 := rfl
  have e2 : dbl.binade = 2 ^ 52 := rfl
  have e3 : dbl.infRung = 0x7ff0000000000000 := rfl
  rw [e1, e2, e3]
  have e4 : (s * 2 ^ 63 + 0x7ff0000000000000 + 1 + q) % 2 ^ 63 = 0x7ff0000000000000 + 1 + q := by omega
  rw [e4]
  dsimp only
  rw [if_neg (by omega), if_neg (by omega), if_neg (by omega)]
  rfl

theorem order_nan_left {x y : Nat} (h : (dbl.read x).isNaN = true) : dbl.order x y = none := by
  unfold Ieee.Format.order
  cases hr : dbl.read x <;> rw [hr] at h <;> simp_all [Datum.isNaN, Datum.order]

section
variable {P : Program} (w : World)
theorem run_float_nan (op : BinOp) (t : TypeId) (x y : Nat) (hop : op = .add ∨ op = .sub ∨ op = .mul ∨ op = .quo) (h : floatBits op .f64 x y = none) :
    (binOp op t (.float .f64 x) (.float .f64 y)).run P w = .ok (.float .f64 (nanOf (w.tape w.drawn (.nanBits .f64 x y)))) w.drew := by
  rcases hop with rfl | rfl | rfl | rfl
  all_goals
    unfold floatBits at h
    simp only at h
    simp [binOp, Op.floatArith, h, choose, Sem.run, Question.forced]
    rfl
end

set_option maxHeartbeats 400000 in
theorem finite_any (n : Nat) (w : World) : Calls Tryz.prog 26 #[.float .f64 n] w (RetBool w (fin n)) := by
  unfold fin
  cases h : dbl.sub n n with
  | some r =>
    obtain rfl := sub_self_some h
    have hr : ∀ (t : TypeId) (w : World), (binOp .sub t (.float .f64 n) (.float .f64 n)).run Tryz.prog w = .ok (.float .f64 0) w := fun t w => run_float_arith (P := Tryz.prog) w .sub t .f64 n n 0 h
    have h00 : FloatKind.f64.format.order 0 0 = some .eq := rfl
    clear h
    go_enter Tryz.func26, Tryz.ntmps26
    go_wp2
    go_returns
    exact ⟨rfl, by go_grown⟩
  | none =>
    have hr : ∀ (t : TypeId), (binOp .sub t (.float .f64 n) (.float .f64 n)).run Tryz.prog w = .ok (.float .f64 (nanOf (w.tape w.drawn (.nanBits .f64 n n)))) w.drew := fun t => run_float_nan (P := Tryz.prog) w .sub t n n (by simp) h
    clear h
    generalize w.tape w.drawn (.nanBits .f64 n n) = q at hr
    have hn := order_nan_left (y := 0) (read_nanOf q)
    generalize nanOf q = z at *
    have hn' : FloatKind.f64.format.order z 0 = none := hn
    clear hn
    go_enter Tryz.func26, Tryz.ntmps26
    go_wp2
    go_returns
    exact ⟨rfl, by go_grown⟩
end Go.Proofs.YtbcnhcpgloncdaaGreatDoor
