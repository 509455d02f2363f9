/-
  THE SETTERS OF THE FOUR BUILDERS. (Printed by gen/setters.py.)
-/
import Derived.Test.YtbcnhcpgloncdaaGreatDoorQa
namespace Go.Proofs.YtbcnhcpgloncdaaGreatDoor
open Go.RowKit Go.Sort Go.ChangeMaps Go.MapKept

def gMM : Geo := { T := 109, N := 19, iF := 1, iB := 2, big := by decide, ne := by decide, ltF := by decide, ltB := by decide }
def gCF : Geo := { T := 118, N := 7, iF := 1, iB := 2, big := by decide, ne := by decide, ltF := by decide, ltB := by decide }
def gSQ : Geo := { T := 123, N := 18, iF := 4, iB := 5, big := by decide, ne := by decide, ltF := by decide, ltB := by decide }
def gQS : Geo := { T := 125, N := 28, iF := 17, iB := 18, big := by decide, ne := by decide, ltF := by decide, ltB := by decide }

theorem ptr_ok {w : World} {lo bq : Nat} {g : Geo} {q : Q} (h : QAt w lo bq g q) (hlo : lo ≤ w.heap.size) (i : Nat) (t : Nat) (ht : t ≤ 22) (h9 : t ≠ 9) (v : Value) (hF : i ≠ g.iF) (hB : i ≠ g.iB) :
    QAt ((w.setCell ⟨bq, i, none⟩ (.pointer (some ⟨w.heap.size, 0, none⟩))).alloc (.cells #[v] t (0, 0))) lo bq g { q with f := upd q.f i (.opt t v) } ∧
    Below lo w ((w.setCell ⟨bq, i, none⟩ (.pointer (some ⟨w.heap.size, 0, none⟩))).alloc (.cells #[v] t (0, 0))) := by
  rw [← World.setCell_alloc_past _ _ _ _ h.lt]
  have hb : Below w.heap.size w (w.alloc (.cells #[v] t (0, 0))) := by go_grown
  have hq := (h.kept hb).set hF hB (u := .pointer (some ⟨w.heap.size, 0, none⟩)) (fv := .opt t v) ⟨_, hlo, ht, h9, rfl, heap_alloc_new _ _⟩
  exact ⟨hq, (hb.mono hlo).trans (Below.setCell_lo _ h.lo_le)⟩

set_option maxHeartbeats 400000 in
theorem set_36 {w : World} {lo bq : Nat} {q : Q} (h : QAt w lo bq gMM q) (_hlo : lo ≤ w.heap.size) (s : ByteArray) :
    Calls Tryz.prog 36 #[.pointer (some ⟨bq, 0, none⟩), .string s] w (RetQ w lo bq gMM { q with f := upd q.f 5 (.val (.string s)) }) := by
  have H := hide h
  obtain ⟨⟨u, h1⟩, h2⟩ := h.cell 5 (by decide)
  clear h
  go_enter Tryz.func36, Tryz.ntmps36
  go_wp2
  go_returns
  exact ⟨rfl, H.out.set (by decide) (by decide) rfl, Below.setCell_lo _ H.out.lo_le⟩

set_option maxHeartbeats 400000 in
theorem set_37 {w : World} {lo bq : Nat} {q : Q} (h : QAt w lo bq gMM q) (hlo : lo ≤ w.heap.size) (x : Nat) :
    Calls Tryz.prog 37 #[.pointer (some ⟨bq, 0, none⟩), .float .f64 x] w (RetQ w lo bq gMM { q with f := upd q.f 6 (.opt 22 (.float .f64 x)) }) := by
  have H := hide h
  obtain ⟨⟨u, h1⟩, h2⟩ := h.cell 6 (by decide)
  have h3 := h.lt
  clear h
  go_enter Tryz.func37, Tryz.ntmps37
  go_wp2
  go_returns
  exact ⟨rfl, ptr_ok H.out hlo 6 22 (by decide) (by decide) _ (by decide) (by decide)⟩

set_option maxHeartbeats 400000 in
theorem set_38 {w : World} {lo bq : Nat} {q : Q} (h : QAt w lo bq gMM q) (hlo : lo ≤ w.heap.size) (x : Nat) :
    Calls Tryz.prog 38 #[.pointer (some ⟨bq, 0, none⟩), .float .f64 x] w (RetQ w lo bq gMM { q with f := upd q.f 16 (.opt 22 (.float .f64 x)) }) := by
  have H := hide h
  obtain ⟨⟨u, h1⟩, h2⟩ := h.cell 16 (by decide)
  have h3 := h.lt
  clear h
  go_enter Tryz.func38, Tryz.ntmps38
  go_wp2
  go_returns
  exact ⟨rfl, ptr_ok H.out hlo 16 22 (by decide) (by decide) _ (by decide) (by decide)⟩

set_option maxHeartbeats 400000 in
theorem set_39 {w : World} {lo bq : Nat} {q : Q} (h : QAt w lo bq gMM q) (_hlo : lo ≤ w.heap.size) (s : ByteArray) :
    Calls Tryz.prog 39 #[.pointer (some ⟨bq, 0, none⟩), .string s] w (RetQ w lo bq gMM { q with f := upd q.f 8 (.val (.string s)) }) := by
  have H := hide h
  obtain ⟨⟨u, h1⟩, h2⟩ := h.cell 8 (by decide)
  clear h
  go_enter Tryz.func39, Tryz.ntmps39
  go_wp2
  go_returns
  exact ⟨rfl, H.out.set (by decide) (by decide) rfl, Below.setCell_lo _ H.out.lo_le⟩

set_option maxHeartbeats 400000 in
theorem set_40 {w : World} {lo bq : Nat} {q : Q} (h : QAt w lo bq gMM q) (_hlo : lo ≤ w.heap.size) (s : ByteArray) :
    Calls Tryz.prog 40 #[.pointer (some ⟨bq, 0, none⟩), .string s] w (RetQ w lo bq gMM { q with f := upd q.f 13 (.val (.string s)) }) := by
  have H := hide h
  obtain ⟨⟨u, h1⟩, h2⟩ := h.cell 13 (by decide)
  clear h
  go_enter Tryz.func40, Tryz.ntmps40
  go_wp2
  go_returns
  exact ⟨rfl, H.out.set (by decide) (by decide) rfl, Below.setCell_lo _ H.out.lo_le⟩

set_option maxHeartbeats 400000 in
theorem set_41 {w : World} {lo bq : Nat} {q : Q} (h : QAt w lo bq gMM q) (hlo : lo ≤ w.heap.size) (y : Bool) :
    Calls Tryz.prog 41 #[.pointer (some ⟨bq, 0, none⟩), .bool y] w (RetQ w lo bq gMM { q with f := upd q.f 15 (.opt 4 (.bool y)) }) := by
  have H := hide h
  obtain ⟨⟨u, h1⟩, h2⟩ := h.cell 15 (by decide)
  have h3 := h.lt
  clear h
  go_enter Tryz.func41, Tryz.ntmps41
  go_wp2
  go_returns
  exact ⟨rfl, ptr_ok H.out hlo 15 4 (by decide) (by decide) _ (by decide) (by decide)⟩

set_option maxHeartbeats 400000 in
theorem set_42 {w : World} {lo bq : Nat} {q : Q} (h : QAt w lo bq gMM q) (hlo : lo ≤ w.heap.size) (n : Int) :
    Calls Tryz.prog 42 #[.pointer (some ⟨bq, 0, none⟩), .int .i64 n] w (RetQ w lo bq gMM { q with f := upd q.f 10 (.opt 3 (.int .i64 n)) }) := by
  have H := hide h
  obtain ⟨⟨u, h1⟩, h2⟩ := h.cell 10 (by decide)
  have h3 := h.lt
  clear h
  go_enter Tryz.func42, Tryz.ntmps42
  go_wp2
  go_returns
  exact ⟨rfl, ptr_ok H.out hlo 10 3 (by decide) (by decide) _ (by decide) (by decide)⟩

set_option maxHeartbeats 400000 in
theorem set_43 {w : World} {lo bq : Nat} {q : Q} (h : QAt w lo bq gMM q) (_hlo : lo ≤ w.heap.size) (s : ByteArray) :
    Calls Tryz.prog 43 #[.pointer (some ⟨bq, 0, none⟩), .string s] w (RetQ w lo bq gMM { q with f := upd q.f 11 (.val (.string s)) }) := by
  have H := hide h
  obtain ⟨⟨u, h1⟩, h2⟩ := h.cell 11 (by decide)
  clear h
  go_enter Tryz.func43, Tryz.ntmps43
  go_wp2
  go_returns
  exact ⟨rfl, H.out.set (by decide) (by decide) rfl, Below.setCell_lo _ H.out.lo_le⟩

set_option maxHeartbeats 400000 in
theorem set_44 {w : World} {lo bq : Nat} {q : Q} (h : QAt w lo bq gMM q) (_hlo : lo ≤ w.heap.size) (s : ByteArray) :
    Calls Tryz.prog 44 #[.pointer (some ⟨bq, 0, none⟩), .string s] w (RetQ w lo bq gMM { q with f := upd q.f 4 (.val (.string s)) }) := by
  have H := hide h
  obtain ⟨⟨u, h1⟩, h2⟩ := h.cell 4 (by decide)
  clear h
  go_enter Tryz.func44, Tryz.ntmps44
  go_wp2
  go_returns
  exact ⟨rfl, H.out.set (by decide) (by decide) rfl, Below.setCell_lo _ H.out.lo_le⟩

set_option maxHeartbeats 400000 in
theorem set_45 {w : World} {lo bq : Nat} {q : Q} (h : QAt w lo bq gMM q) (hlo : lo ≤ w.heap.size) (n : Int) :
    Calls Tryz.prog 45 #[.pointer (some ⟨bq, 0, none⟩), .int .i64 n] w (RetQ w lo bq gMM { q with f := upd q.f 9 (.opt 3 (.int .i64 n)) }) := by
  have H := hide h
  obtain ⟨⟨u, h1⟩, h2⟩ := h.cell 9 (by decide)
  have h3 := h.lt
  clear h
  go_enter Tryz.func45, Tryz.ntmps45
  go_wp2
  go_returns
  exact ⟨rfl, ptr_ok H.out hlo 9 3 (by decide) (by decide) _ (by decide) (by decide)⟩

set_option maxHeartbeats 400000 in
theorem set_46 {w : World} {lo bq : Nat} {q : Q} (h : QAt w lo bq gMM q) (_hlo : lo ≤ w.heap.size) (s : ByteArray) :
    Calls Tryz.prog 46 #[.pointer (some ⟨bq, 0, none⟩), .string s] w (RetQ w lo bq gMM { q with f := upd q.f 12 (.val (.string s)) }) := by
  have H := hide h
  obtain ⟨⟨u, h1⟩, h2⟩ := h.cell 12 (by decide)
  clear h
  go_enter Tryz.func46, Tryz.ntmps46
  go_wp2
  go_returns
  exact ⟨rfl, H.out.set (by decide) (by decide) rfl, Below.setCell_lo _ H.out.lo_le⟩

set_option maxHeartbeats 400000 in
theorem set_47 {w : World} {lo bq : Nat} {q : Q} (h : QAt w lo bq gMM q) (hlo : lo ≤ w.heap.size) (n : Int) :
    Calls Tryz.prog 47 #[.pointer (some ⟨bq, 0, none⟩), .int .i64 n] w (RetQ w lo bq gMM { q with f := upd q.f 7 (.opt 3 (.int .i64 n)) }) := by
  have H := hide h
  obtain ⟨⟨u, h1⟩, h2⟩ := h.cell 7 (by decide)
  have h3 := h.lt
  clear h
  go_enter Tryz.func47, Tryz.ntmps47
  go_wp2
  go_returns
  exact ⟨rfl, ptr_ok H.out hlo 7 3 (by decide) (by decide) _ (by decide) (by decide)⟩

set_option maxHeartbeats 400000 in
theorem set_48 {w : World} {lo bq : Nat} {q : Q} (h : QAt w lo bq gMM q) (hlo : lo ≤ w.heap.size) (x : Nat) :
    Calls Tryz.prog 48 #[.pointer (some ⟨bq, 0, none⟩), .float .f64 x] w (RetQ w lo bq gMM { q with f := upd q.f 14 (.opt 22 (.float .f64 x)) }) := by
  have H := hide h
  obtain ⟨⟨u, h1⟩, h2⟩ := h.cell 14 (by decide)
  have h3 := h.lt
  clear h
  go_enter Tryz.func48, Tryz.ntmps48
  go_wp2
  go_returns
  exact ⟨rfl, ptr_ok H.out hlo 14 22 (by decide) (by decide) _ (by decide) (by decide)⟩

set_option maxHeartbeats 400000 in
theorem set_50 {w : World} {lo bq : Nat} {q : Q} (h : QAt w lo bq gMM q) (_hlo : lo ≤ w.heap.size) (s : ByteArray) :
    Calls Tryz.prog 50 #[.pointer (some ⟨bq, 0, none⟩), .string s] w (RetQ w lo bq gMM { q with f := upd q.f 17 (.val (.string s)) }) := by
  have H := hide h
  obtain ⟨⟨u, h1⟩, h2⟩ := h.cell 17 (by decide)
  clear h
  go_enter Tryz.func50, Tryz.ntmps50
  go_wp2
  go_returns
  exact ⟨rfl, H.out.set (by decide) (by decide) rfl, Below.setCell_lo _ H.out.lo_le⟩

set_option maxHeartbeats 400000 in
theorem set_51 {w : World} {lo bq : Nat} {q : Q} (h : QAt w lo bq gMM q) (_hlo : lo ≤ w.heap.size) (s : ByteArray) :
    Calls Tryz.prog 51 #[.pointer (some ⟨bq, 0, none⟩), .string s] w (RetQ w lo bq gMM { q with f := upd q.f 18 (.val (.string s)) }) := by
  have H := hide h
  obtain ⟨⟨u, h1⟩, h2⟩ := h.cell 18 (by decide)
  clear h
  go_enter Tryz.func51, Tryz.ntmps51
  go_wp2
  go_returns
  exact ⟨rfl, H.out.set (by decide) (by decide) rfl, Below.setCell_lo _ H.out.lo_le⟩

set_option maxHeartbeats 400000 in
theorem set_57 {w : World} {lo bq : Nat} {q : Q} (h : QAt w lo bq gCF q) (hlo : lo ≤ w.heap.size) (y : Bool) :
    Calls Tryz.prog 57 #[.pointer (some ⟨bq, 0, none⟩), .bool y] w (RetQ w lo bq gCF { q with f := upd q.f 3 (.opt 4 (.bool y)) }) := by
  have H := hide h
  obtain ⟨⟨u, h1⟩, h2⟩ := h.cell 3 (by decide)
  have h3 := h.lt
  clear h
  go_enter Tryz.func57, Tryz.ntmps57
  go_wp2
  go_returns
  exact ⟨rfl, ptr_ok H.out hlo 3 4 (by decide) (by decide) _ (by decide) (by decide)⟩

set_option maxHeartbeats 400000 in
theorem set_58 {w : World} {lo bq : Nat} {q : Q} (h : QAt w lo bq gCF q) (_hlo : lo ≤ w.heap.size) (s : ByteArray) :
    Calls Tryz.prog 58 #[.pointer (some ⟨bq, 0, none⟩), .string s] w (RetQ w lo bq gCF { q with f := upd q.f 5 (.val (.string s)) }) := by
  have H := hide h
  obtain ⟨⟨u, h1⟩, h2⟩ := h.cell 5 (by decide)
  clear h
  go_enter Tryz.func58, Tryz.ntmps58
  go_wp2
  go_returns
  exact ⟨rfl, H.out.set (by decide) (by decide) rfl, Below.setCell_lo _ H.out.lo_le⟩

set_option maxHeartbeats 400000 in
theorem set_59 {w : World} {lo bq : Nat} {q : Q} (h : QAt w lo bq gCF q) (_hlo : lo ≤ w.heap.size) (s : ByteArray) :
    Calls Tryz.prog 59 #[.pointer (some ⟨bq, 0, none⟩), .string s] w (RetQ w lo bq gCF { q with f := upd q.f 4 (.val (.string s)) }) := by
  have H := hide h
  obtain ⟨⟨u, h1⟩, h2⟩ := h.cell 4 (by decide)
  clear h
  go_enter Tryz.func59, Tryz.ntmps59
  go_wp2
  go_returns
  exact ⟨rfl, H.out.set (by decide) (by decide) rfl, Below.setCell_lo _ H.out.lo_le⟩

set_option maxHeartbeats 400000 in
theorem set_60 {w : World} {lo bq : Nat} {q : Q} (h : QAt w lo bq gCF q) (_hlo : lo ≤ w.heap.size) (s : ByteArray) :
    Calls Tryz.prog 60 #[.pointer (some ⟨bq, 0, none⟩), .string s] w (RetQ w lo bq gCF { q with f := upd q.f 6 (.val (.string s)) }) := by
  have H := hide h
  obtain ⟨⟨u, h1⟩, h2⟩ := h.cell 6 (by decide)
  clear h
  go_enter Tryz.func60, Tryz.ntmps60
  go_wp2
  go_returns
  exact ⟨rfl, H.out.set (by decide) (by decide) rfl, Below.setCell_lo _ H.out.lo_le⟩

set_option maxHeartbeats 400000 in
theorem set_79 {w : World} {lo bq : Nat} {q : Q} (h : QAt w lo bq gSQ q) (hlo : lo ≤ w.heap.size) (y : Bool) :
    Calls Tryz.prog 79 #[.pointer (some ⟨bq, 0, none⟩), .bool y] w (RetQ w lo bq gSQ { q with f := upd q.f 11 (.opt 4 (.bool y)) }) := by
  have H := hide h
  obtain ⟨⟨u, h1⟩, h2⟩ := h.cell 11 (by decide)
  have h3 := h.lt
  clear h
  go_enter Tryz.func79, Tryz.ntmps79
  go_wp2
  go_returns
  exact ⟨rfl, ptr_ok H.out hlo 11 4 (by decide) (by decide) _ (by decide) (by decide)⟩

set_option maxHeartbeats 400000 in
theorem set_80 {w : World} {lo bq : Nat} {q : Q} (h : QAt w lo bq gSQ q) (_hlo : lo ≤ w.heap.size) (s : ByteArray) :
    Calls Tryz.prog 80 #[.pointer (some ⟨bq, 0, none⟩), .string s] w (RetQ w lo bq gSQ { q with f := upd q.f 1 (.val (.string s)) }) := by
  have H := hide h
  obtain ⟨⟨u, h1⟩, h2⟩ := h.cell 1 (by decide)
  clear h
  go_enter Tryz.func80, Tryz.ntmps80
  go_wp2
  go_returns
  exact ⟨rfl, H.out.set (by decide) (by decide) rfl, Below.setCell_lo _ H.out.lo_le⟩

set_option maxHeartbeats 400000 in
theorem set_81 {w : World} {lo bq : Nat} {q : Q} (h : QAt w lo bq gSQ q) (hlo : lo ≤ w.heap.size) (y : Bool) :
    Calls Tryz.prog 81 #[.pointer (some ⟨bq, 0, none⟩), .bool y] w (RetQ w lo bq gSQ { q with f := upd q.f 14 (.opt 4 (.bool y)) }) := by
  have H := hide h
  obtain ⟨⟨u, h1⟩, h2⟩ := h.cell 14 (by decide)
  have h3 := h.lt
  clear h
  go_enter Tryz.func81, Tryz.ntmps81
  go_wp2
  go_returns
  exact ⟨rfl, ptr_ok H.out hlo 14 4 (by decide) (by decide) _ (by decide) (by decide)⟩

set_option maxHeartbeats 400000 in
theorem set_82 {w : World} {lo bq : Nat} {q : Q} (h : QAt w lo bq gSQ q) (hlo : lo ≤ w.heap.size) (x : Nat) :
    Calls Tryz.prog 82 #[.pointer (some ⟨bq, 0, none⟩), .float .f64 x] w (RetQ w lo bq gSQ { q with f := upd q.f 8 (.opt 22 (.float .f64 x)) }) := by
  have H := hide h
  obtain ⟨⟨u, h1⟩, h2⟩ := h.cell 8 (by decide)
  have h3 := h.lt
  clear h
  go_enter Tryz.func82, Tryz.ntmps82
  go_wp2
  go_returns
  exact ⟨rfl, ptr_ok H.out hlo 8 22 (by decide) (by decide) _ (by decide) (by decide)⟩

set_option maxHeartbeats 400000 in
theorem set_83 {w : World} {lo bq : Nat} {q : Q} (h : QAt w lo bq gSQ q) (_hlo : lo ≤ w.heap.size) (s : ByteArray) :
    Calls Tryz.prog 83 #[.pointer (some ⟨bq, 0, none⟩), .string s] w (RetQ w lo bq gSQ { q with f := upd q.f 3 (.val (.string s)) }) := by
  have H := hide h
  obtain ⟨⟨u, h1⟩, h2⟩ := h.cell 3 (by decide)
  clear h
  go_enter Tryz.func83, Tryz.ntmps83
  go_wp2
  go_returns
  exact ⟨rfl, H.out.set (by decide) (by decide) rfl, Below.setCell_lo _ H.out.lo_le⟩

set_option maxHeartbeats 400000 in
theorem set_84 {w : World} {lo bq : Nat} {q : Q} (h : QAt w lo bq gSQ q) (_hlo : lo ≤ w.heap.size) (s : ByteArray) :
    Calls Tryz.prog 84 #[.pointer (some ⟨bq, 0, none⟩), .string s] w (RetQ w lo bq gSQ { q with f := upd q.f 7 (.val (.string s)) }) := by
  have H := hide h
  obtain ⟨⟨u, h1⟩, h2⟩ := h.cell 7 (by decide)
  clear h
  go_enter Tryz.func84, Tryz.ntmps84
  go_wp2
  go_returns
  exact ⟨rfl, H.out.set (by decide) (by decide) rfl, Below.setCell_lo _ H.out.lo_le⟩

set_option maxHeartbeats 400000 in
theorem set_85 {w : World} {lo bq : Nat} {q : Q} (h : QAt w lo bq gSQ q) (_hlo : lo ≤ w.heap.size) (n : Int) :
    Calls Tryz.prog 85 #[.pointer (some ⟨bq, 0, none⟩), .int .i64 n] w (RetQ w lo bq gSQ { q with f := upd q.f 16 (.val (.int .i64 n)) }) := by
  have H := hide h
  obtain ⟨⟨u, h1⟩, h2⟩ := h.cell 16 (by decide)
  clear h
  go_enter Tryz.func85, Tryz.ntmps85
  go_wp2
  go_returns
  exact ⟨rfl, H.out.set (by decide) (by decide) rfl, Below.setCell_lo _ H.out.lo_le⟩

set_option maxHeartbeats 400000 in
theorem set_86 {w : World} {lo bq : Nat} {q : Q} (h : QAt w lo bq gSQ q) (_hlo : lo ≤ w.heap.size) (n : Int) :
    Calls Tryz.prog 86 #[.pointer (some ⟨bq, 0, none⟩), .int .i64 n] w (RetQ w lo bq gSQ { q with f := upd q.f 15 (.val (.int .i64 n)) }) := by
  have H := hide h
  obtain ⟨⟨u, h1⟩, h2⟩ := h.cell 15 (by decide)
  clear h
  go_enter Tryz.func86, Tryz.ntmps86
  go_wp2
  go_returns
  exact ⟨rfl, H.out.set (by decide) (by decide) rfl, Below.setCell_lo _ H.out.lo_le⟩

set_option maxHeartbeats 400000 in
theorem set_87 {w : World} {lo bq : Nat} {q : Q} (h : QAt w lo bq gSQ q) (hlo : lo ≤ w.heap.size) (y : Bool) :
    Calls Tryz.prog 87 #[.pointer (some ⟨bq, 0, none⟩), .bool y] w (RetQ w lo bq gSQ { q with f := upd q.f 17 (.opt 4 (.bool y)) }) := by
  have H := hide h
  obtain ⟨⟨u, h1⟩, h2⟩ := h.cell 17 (by decide)
  have h3 := h.lt
  clear h
  go_enter Tryz.func87, Tryz.ntmps87
  go_wp2
  go_returns
  exact ⟨rfl, ptr_ok H.out hlo 17 4 (by decide) (by decide) _ (by decide) (by decide)⟩

set_option maxHeartbeats 400000 in
theorem set_88 {w : World} {lo bq : Nat} {q : Q} (h : QAt w lo bq gSQ q) (hlo : lo ≤ w.heap.size) (y : Bool) :
    Calls Tryz.prog 88 #[.pointer (some ⟨bq, 0, none⟩), .bool y] w (RetQ w lo bq gSQ { q with f := upd q.f 10 (.opt 4 (.bool y)) }) := by
  have H := hide h
  obtain ⟨⟨u, h1⟩, h2⟩ := h.cell 10 (by decide)
  have h3 := h.lt
  clear h
  go_enter Tryz.func88, Tryz.ntmps88
  go_wp2
  go_returns
  exact ⟨rfl, ptr_ok H.out hlo 10 4 (by decide) (by decide) _ (by decide) (by decide)⟩

set_option maxHeartbeats 400000 in
theorem set_89 {w : World} {lo bq : Nat} {q : Q} (h : QAt w lo bq gSQ q) (_hlo : lo ≤ w.heap.size) (s : ByteArray) :
    Calls Tryz.prog 89 #[.pointer (some ⟨bq, 0, none⟩), .string s] w (RetQ w lo bq gSQ { q with f := upd q.f 6 (.val (.string s)) }) := by
  have H := hide h
  obtain ⟨⟨u, h1⟩, h2⟩ := h.cell 6 (by decide)
  clear h
  go_enter Tryz.func89, Tryz.ntmps89
  go_wp2
  go_returns
  exact ⟨rfl, H.out.set (by decide) (by decide) rfl, Below.setCell_lo _ H.out.lo_le⟩

set_option maxHeartbeats 400000 in
theorem set_90 {w : World} {lo bq : Nat} {q : Q} (h : QAt w lo bq gSQ q) (_hlo : lo ≤ w.heap.size) (s : ByteArray) :
    Calls Tryz.prog 90 #[.pointer (some ⟨bq, 0, none⟩), .string s] w (RetQ w lo bq gSQ { q with f := upd q.f 2 (.val (.string s)) }) := by
  have H := hide h
  obtain ⟨⟨u, h1⟩, h2⟩ := h.cell 2 (by decide)
  clear h
  go_enter Tryz.func90, Tryz.ntmps90
  go_wp2
  go_returns
  exact ⟨rfl, H.out.set (by decide) (by decide) rfl, Below.setCell_lo _ H.out.lo_le⟩

set_option maxHeartbeats 400000 in
theorem set_91 {w : World} {lo bq : Nat} {q : Q} (h : QAt w lo bq gSQ q) (_hlo : lo ≤ w.heap.size) (s : ByteArray) :
    Calls Tryz.prog 91 #[.pointer (some ⟨bq, 0, none⟩), .string s] w (RetQ w lo bq gSQ { q with f := upd q.f 13 (.val (.string s)) }) := by
  have H := hide h
  obtain ⟨⟨u, h1⟩, h2⟩ := h.cell 13 (by decide)
  clear h
  go_enter Tryz.func91, Tryz.ntmps91
  go_wp2
  go_returns
  exact ⟨rfl, H.out.set (by decide) (by decide) rfl, Below.setCell_lo _ H.out.lo_le⟩

set_option maxHeartbeats 400000 in
theorem set_97 {w : World} {lo bq : Nat} {q : Q} (h : QAt w lo bq gQS q) (hlo : lo ≤ w.heap.size) (y : Bool) :
    Calls Tryz.prog 97 #[.pointer (some ⟨bq, 0, none⟩), .bool y] w (RetQ w lo bq gQS { q with f := upd q.f 6 (.opt 4 (.bool y)) }) := by
  have H := hide h
  obtain ⟨⟨u, h1⟩, h2⟩ := h.cell 6 (by decide)
  have h3 := h.lt
  clear h
  go_enter Tryz.func97, Tryz.ntmps97
  go_wp2
  go_returns
  exact ⟨rfl, ptr_ok H.out hlo 6 4 (by decide) (by decide) _ (by decide) (by decide)⟩

set_option maxHeartbeats 400000 in
theorem set_98 {w : World} {lo bq : Nat} {q : Q} (h : QAt w lo bq gQS q) (hlo : lo ≤ w.heap.size) (y : Bool) :
    Calls Tryz.prog 98 #[.pointer (some ⟨bq, 0, none⟩), .bool y] w (RetQ w lo bq gQS { q with f := upd q.f 9 (.opt 4 (.bool y)) }) := by
  have H := hide h
  obtain ⟨⟨u, h1⟩, h2⟩ := h.cell 9 (by decide)
  have h3 := h.lt
  clear h
  go_enter Tryz.func98, Tryz.ntmps98
  go_wp2
  go_returns
  exact ⟨rfl, ptr_ok H.out hlo 9 4 (by decide) (by decide) _ (by decide) (by decide)⟩

set_option maxHeartbeats 400000 in
theorem set_99 {w : World} {lo bq : Nat} {q : Q} (h : QAt w lo bq gQS q) (_hlo : lo ≤ w.heap.size) (s : ByteArray) :
    Calls Tryz.prog 99 #[.pointer (some ⟨bq, 0, none⟩), .string s] w (RetQ w lo bq gQS { q with f := upd q.f 3 (.val (.string s)) }) := by
  have H := hide h
  obtain ⟨⟨u, h1⟩, h2⟩ := h.cell 3 (by decide)
  clear h
  go_enter Tryz.func99, Tryz.ntmps99
  go_wp2
  go_returns
  exact ⟨rfl, H.out.set (by decide) (by decide) rfl, Below.setCell_lo _ H.out.lo_le⟩

set_option maxHeartbeats 400000 in
theorem set_100 {w : World} {lo bq : Nat} {q : Q} (h : QAt w lo bq gQS q) (hlo : lo ≤ w.heap.size) (x : Nat) :
    Calls Tryz.prog 100 #[.pointer (some ⟨bq, 0, none⟩), .float .f64 x] w (RetQ w lo bq gQS { q with f := upd q.f 11 (.opt 22 (.float .f64 x)) }) := by
  have H := hide h
  obtain ⟨⟨u, h1⟩, h2⟩ := h.cell 11 (by decide)
  have h3 := h.lt
  clear h
  go_enter Tryz.func100, Tryz.ntmps100
  go_wp2
  go_returns
  exact ⟨rfl, ptr_ok H.out hlo 11 22 (by decide) (by decide) _ (by decide) (by decide)⟩

set_option maxHeartbeats 400000 in
theorem set_101 {w : World} {lo bq : Nat} {q : Q} (h : QAt w lo bq gQS q) (_hlo : lo ≤ w.heap.size) (s : ByteArray) :
    Calls Tryz.prog 101 #[.pointer (some ⟨bq, 0, none⟩), .string s] w (RetQ w lo bq gQS { q with f := upd q.f 1 (.val (.string s)) }) := by
  have H := hide h
  obtain ⟨⟨u, h1⟩, h2⟩ := h.cell 1 (by decide)
  clear h
  go_enter Tryz.func101, Tryz.ntmps101
  go_wp2
  go_returns
  exact ⟨rfl, H.out.set (by decide) (by decide) rfl, Below.setCell_lo _ H.out.lo_le⟩

set_option maxHeartbeats 400000 in
theorem set_102 {w : World} {lo bq : Nat} {q : Q} (h : QAt w lo bq gQS q) (_hlo : lo ≤ w.heap.size) (s : ByteArray) :
    Calls Tryz.prog 102 #[.pointer (some ⟨bq, 0, none⟩), .string s] w (RetQ w lo bq gQS { q with f := upd q.f 2 (.val (.string s)) }) := by
  have H := hide h
  obtain ⟨⟨u, h1⟩, h2⟩ := h.cell 2 (by decide)
  clear h
  go_enter Tryz.func102, Tryz.ntmps102
  go_wp2
  go_returns
  exact ⟨rfl, H.out.set (by decide) (by decide) rfl, Below.setCell_lo _ H.out.lo_le⟩

set_option maxHeartbeats 400000 in
theorem set_103 {w : World} {lo bq : Nat} {q : Q} (h : QAt w lo bq gQS q) (hlo : lo ≤ w.heap.size) (y : Bool) :
    Calls Tryz.prog 103 #[.pointer (some ⟨bq, 0, none⟩), .bool y] w (RetQ w lo bq gQS { q with f := upd q.f 8 (.opt 4 (.bool y)) }) := by
  have H := hide h
  obtain ⟨⟨u, h1⟩, h2⟩ := h.cell 8 (by decide)
  have h3 := h.lt
  clear h
  go_enter Tryz.func103, Tryz.ntmps103
  go_wp2
  go_returns
  exact ⟨rfl, ptr_ok H.out hlo 8 4 (by decide) (by decide) _ (by decide) (by decide)⟩

set_option maxHeartbeats 400000 in
theorem set_104 {w : World} {lo bq : Nat} {q : Q} (h : QAt w lo bq gQS q) (hlo : lo ≤ w.heap.size) (y : Bool) :
    Calls Tryz.prog 104 #[.pointer (some ⟨bq, 0, none⟩), .bool y] w (RetQ w lo bq gQS { q with f := upd q.f 26 (.opt 4 (.bool y)) }) := by
  have H := hide h
  obtain ⟨⟨u, h1⟩, h2⟩ := h.cell 26 (by decide)
  have h3 := h.lt
  clear h
  go_enter Tryz.func104, Tryz.ntmps104
  go_wp2
  go_returns
  exact ⟨rfl, ptr_ok H.out hlo 26 4 (by decide) (by decide) _ (by decide) (by decide)⟩

set_option maxHeartbeats 400000 in
theorem set_105 {w : World} {lo bq : Nat} {q : Q} (h : QAt w lo bq gQS q) (_hlo : lo ≤ w.heap.size) (s : ByteArray) :
    Calls Tryz.prog 105 #[.pointer (some ⟨bq, 0, none⟩), .string s] w (RetQ w lo bq gQS { q with f := upd q.f 12 (.val (.string s)) }) := by
  have H := hide h
  obtain ⟨⟨u, h1⟩, h2⟩ := h.cell 12 (by decide)
  clear h
  go_enter Tryz.func105, Tryz.ntmps105
  go_wp2
  go_returns
  exact ⟨rfl, H.out.set (by decide) (by decide) rfl, Below.setCell_lo _ H.out.lo_le⟩

set_option maxHeartbeats 400000 in
theorem set_106 {w : World} {lo bq : Nat} {q : Q} (h : QAt w lo bq gQS q) (hlo : lo ≤ w.heap.size) (n : Int) :
    Calls Tryz.prog 106 #[.pointer (some ⟨bq, 0, none⟩), .int .i64 n] w (RetQ w lo bq gQS { q with f := upd q.f 14 (.opt 3 (.int .i64 n)) }) := by
  have H := hide h
  obtain ⟨⟨u, h1⟩, h2⟩ := h.cell 14 (by decide)
  have h3 := h.lt
  clear h
  go_enter Tryz.func106, Tryz.ntmps106
  go_wp2
  go_returns
  exact ⟨rfl, ptr_ok H.out hlo 14 3 (by decide) (by decide) _ (by decide) (by decide)⟩

set_option maxHeartbeats 400000 in
theorem set_107 {w : World} {lo bq : Nat} {q : Q} (h : QAt w lo bq gQS q) (hlo : lo ≤ w.heap.size) (n : Int) :
    Calls Tryz.prog 107 #[.pointer (some ⟨bq, 0, none⟩), .int .i64 n] w (RetQ w lo bq gQS { q with f := upd q.f 13 (.opt 3 (.int .i64 n)) }) := by
  have H := hide h
  obtain ⟨⟨u, h1⟩, h2⟩ := h.cell 13 (by decide)
  have h3 := h.lt
  clear h
  go_enter Tryz.func107, Tryz.ntmps107
  go_wp2
  go_returns
  exact ⟨rfl, ptr_ok H.out hlo 13 3 (by decide) (by decide) _ (by decide) (by decide)⟩

set_option maxHeartbeats 400000 in
theorem set_108 {w : World} {lo bq : Nat} {q : Q} (h : QAt w lo bq gQS q) (_hlo : lo ≤ w.heap.size) (s : ByteArray) :
    Calls Tryz.prog 108 #[.pointer (some ⟨bq, 0, none⟩), .string s] w (RetQ w lo bq gQS { q with f := upd q.f 15 (.val (.string s)) }) := by
  have H := hide h
  obtain ⟨⟨u, h1⟩, h2⟩ := h.cell 15 (by decide)
  clear h
  go_enter Tryz.func108, Tryz.ntmps108
  go_wp2
  go_returns
  exact ⟨rfl, H.out.set (by decide) (by decide) rfl, Below.setCell_lo _ H.out.lo_le⟩

set_option maxHeartbeats 400000 in
theorem set_109 {w : World} {lo bq : Nat} {q : Q} (h : QAt w lo bq gQS q) (hlo : lo ≤ w.heap.size) (y : Bool) :
    Calls Tryz.prog 109 #[.pointer (some ⟨bq, 0, none⟩), .bool y] w (RetQ w lo bq gQS { q with f := upd q.f 22 (.opt 4 (.bool y)) }) := by
  have H := hide h
  obtain ⟨⟨u, h1⟩, h2⟩ := h.cell 22 (by decide)
  have h3 := h.lt
  clear h
  go_enter Tryz.func109, Tryz.ntmps109
  go_wp2
  go_returns
  exact ⟨rfl, ptr_ok H.out hlo 22 4 (by decide) (by decide) _ (by decide) (by decide)⟩

set_option maxHeartbeats 400000 in
theorem set_110 {w : World} {lo bq : Nat} {q : Q} (h : QAt w lo bq gQS q) (hlo : lo ≤ w.heap.size) (n : Int) :
    Calls Tryz.prog 110 #[.pointer (some ⟨bq, 0, none⟩), .int .i64 n] w (RetQ w lo bq gQS { q with f := upd q.f 25 (.opt 3 (.int .i64 n)) }) := by
  have H := hide h
  obtain ⟨⟨u, h1⟩, h2⟩ := h.cell 25 (by decide)
  have h3 := h.lt
  clear h
  go_enter Tryz.func110, Tryz.ntmps110
  go_wp2
  go_returns
  exact ⟨rfl, ptr_ok H.out hlo 25 3 (by decide) (by decide) _ (by decide) (by decide)⟩

set_option maxHeartbeats 400000 in
theorem set_111 {w : World} {lo bq : Nat} {q : Q} (h : QAt w lo bq gQS q) (_hlo : lo ≤ w.heap.size) (s : ByteArray) :
    Calls Tryz.prog 111 #[.pointer (some ⟨bq, 0, none⟩), .string s] w (RetQ w lo bq gQS { q with f := upd q.f 21 (.val (.string s)) }) := by
  have H := hide h
  obtain ⟨⟨u, h1⟩, h2⟩ := h.cell 21 (by decide)
  clear h
  go_enter Tryz.func111, Tryz.ntmps111
  go_wp2
  go_returns
  exact ⟨rfl, H.out.set (by decide) (by decide) rfl, Below.setCell_lo _ H.out.lo_le⟩

set_option maxHeartbeats 400000 in
theorem set_112 {w : World} {lo bq : Nat} {q : Q} (h : QAt w lo bq gQS q) (hlo : lo ≤ w.heap.size) (n : Int) :
    Calls Tryz.prog 112 #[.pointer (some ⟨bq, 0, none⟩), .int .i64 n] w (RetQ w lo bq gQS { q with f := upd q.f 16 (.opt 3 (.int .i64 n)) }) := by
  have H := hide h
  obtain ⟨⟨u, h1⟩, h2⟩ := h.cell 16 (by decide)
  have h3 := h.lt
  clear h
  go_enter Tryz.func112, Tryz.ntmps112
  go_wp2
  go_returns
  exact ⟨rfl, ptr_ok H.out hlo 16 3 (by decide) (by decide) _ (by decide) (by decide)⟩

set_option maxHeartbeats 400000 in
theorem set_113 {w : World} {lo bq : Nat} {q : Q} (h : QAt w lo bq gQS q) (_hlo : lo ≤ w.heap.size) (s : ByteArray) :
    Calls Tryz.prog 113 #[.pointer (some ⟨bq, 0, none⟩), .string s] w (RetQ w lo bq gQS { q with f := upd q.f 4 (.val (.string s)) }) := by
  have H := hide h
  obtain ⟨⟨u, h1⟩, h2⟩ := h.cell 4 (by decide)
  clear h
  go_enter Tryz.func113, Tryz.ntmps113
  go_wp2
  go_returns
  exact ⟨rfl, H.out.set (by decide) (by decide) rfl, Below.setCell_lo _ H.out.lo_le⟩

set_option maxHeartbeats 400000 in
theorem set_114 {w : World} {lo bq : Nat} {q : Q} (h : QAt w lo bq gQS q) (_hlo : lo ≤ w.heap.size) (s : ByteArray) :
    Calls Tryz.prog 114 #[.pointer (some ⟨bq, 0, none⟩), .string s] w (RetQ w lo bq gQS { q with f := upd q.f 5 (.val (.string s)) }) := by
  have H := hide h
  obtain ⟨⟨u, h1⟩, h2⟩ := h.cell 5 (by decide)
  clear h
  go_enter Tryz.func114, Tryz.ntmps114
  go_wp2
  go_returns
  exact ⟨rfl, H.out.set (by decide) (by decide) rfl, Below.setCell_lo _ H.out.lo_le⟩

set_option maxHeartbeats 400000 in
theorem set_115 {w : World} {lo bq : Nat} {q : Q} (h : QAt w lo bq gQS q) (_hlo : lo ≤ w.heap.size) (s : ByteArray) :
    Calls Tryz.prog 115 #[.pointer (some ⟨bq, 0, none⟩), .string s] w (RetQ w lo bq gQS { q with f := upd q.f 20 (.val (.string s)) }) := by
  have H := hide h
  obtain ⟨⟨u, h1⟩, h2⟩ := h.cell 20 (by decide)
  clear h
  go_enter Tryz.func115, Tryz.ntmps115
  go_wp2
  go_returns
  exact ⟨rfl, H.out.set (by decide) (by decide) rfl, Below.setCell_lo _ H.out.lo_le⟩

set_option maxHeartbeats 400000 in
theorem set_116 {w : World} {lo bq : Nat} {q : Q} (h : QAt w lo bq gQS q) (hlo : lo ≤ w.heap.size) (x : Nat) :
    Calls Tryz.prog 116 #[.pointer (some ⟨bq, 0, none⟩), .float .f64 x] w (RetQ w lo bq gQS { q with f := upd q.f 19 (.opt 22 (.float .f64 x)) }) := by
  have H := hide h
  obtain ⟨⟨u, h1⟩, h2⟩ := h.cell 19 (by decide)
  have h3 := h.lt
  clear h
  go_enter Tryz.func116, Tryz.ntmps116
  go_wp2
  go_returns
  exact ⟨rfl, ptr_ok H.out hlo 19 22 (by decide) (by decide) _ (by decide) (by decide)⟩

set_option maxHeartbeats 400000 in
theorem set_117 {w : World} {lo bq : Nat} {q : Q} (h : QAt w lo bq gQS q) (_hlo : lo ≤ w.heap.size) (s : ByteArray) :
    Calls Tryz.prog 117 #[.pointer (some ⟨bq, 0, none⟩), .string s] w (RetQ w lo bq gQS { q with f := upd q.f 24 (.val (.string s)) }) := by
  have H := hide h
  obtain ⟨⟨u, h1⟩, h2⟩ := h.cell 24 (by decide)
  clear h
  go_enter Tryz.func117, Tryz.ntmps117
  go_wp2
  go_returns
  exact ⟨rfl, H.out.set (by decide) (by decide) rfl, Below.setCell_lo _ H.out.lo_le⟩

set_option maxHeartbeats 400000 in
theorem set_118 {w : World} {lo bq : Nat} {q : Q} (h : QAt w lo bq gQS q) (_hlo : lo ≤ w.heap.size) (s : ByteArray) :
    Calls Tryz.prog 118 #[.pointer (some ⟨bq, 0, none⟩), .string s] w (RetQ w lo bq gQS { q with f := upd q.f 27 (.val (.string s)) }) := by
  have H := hide h
  obtain ⟨⟨u, h1⟩, h2⟩ := h.cell 27 (by decide)
  clear h
  go_enter Tryz.func118, Tryz.ntmps118
  go_wp2
  go_returns
  exact ⟨rfl, H.out.set (by decide) (by decide) rfl, Below.setCell_lo _ H.out.lo_le⟩

set_option maxHeartbeats 400000 in
theorem set_119 {w : World} {lo bq : Nat} {q : Q} (h : QAt w lo bq gQS q) (_hlo : lo ≤ w.heap.size) (s : ByteArray) :
    Calls Tryz.prog 119 #[.pointer (some ⟨bq, 0, none⟩), .string s] w (RetQ w lo bq gQS { q with f := upd q.f 23 (.val (.string s)) }) := by
  have H := hide h
  obtain ⟨⟨u, h1⟩, h2⟩ := h.cell 23 (by decide)
  clear h
  go_enter Tryz.func119, Tryz.ntmps119
  go_wp2
  go_returns
  exact ⟨rfl, H.out.set (by decide) (by decide) rfl, Below.setCell_lo _ H.out.lo_le⟩

end Go.Proofs.YtbcnhcpgloncdaaGreatDoor
