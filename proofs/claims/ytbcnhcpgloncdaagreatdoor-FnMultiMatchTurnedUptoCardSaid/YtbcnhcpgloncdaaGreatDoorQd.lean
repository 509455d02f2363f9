import Derived.Test.YtbcnhcpgloncdaaGreatDoorQc
import Derived.Deep.OwnRows
namespace Go.Proofs.YtbcnhcpgloncdaaGreatDoor
open Go.RowKit Go.Sort Go.ChangeMaps Go.MapKept

/-- A scalar as the plain value that a caller has. -/
def plainV (t : T) : Value := if t.kind = 1 then .iface 9 (.string t.text) else if t.kind = 2 then .iface 22 (.float .f64 t.num) else .iface 4 (.bool t.yes)
def RetVal (u : Value) (w : World) (e : Ending) (w' : World) : Prop := e = .returned u ∧ Below w.heap.size w w'

set_option maxHeartbeats 400000 in
theorem plain_any {w : World} {ok : Nat → Prop} {v : Value} {t : T} (h : TreeAt w ok v t) (hs : t.kind = 1 ∨ t.kind = 2 ∨ t.kind = 3) : Calls Tryz.prog 33 #[v] w (RetVal (plainV t) w) := by
  obtain ⟨a, cap, a', cap', c, rfl, -⟩ := h.open
  unfold plainV
  obtain ⟨k, tx, n, y, ks, ts⟩ := t
  simp only [T.kind, T.text, T.num, T.yes, T.keys, T.kids] at *
  clear h
  rcases hs with rfl | rfl | rfl
  all_goals
    go_enter Tryz.func33, Tryz.ntmps33
    go_wp2
    go_returns
    exact ⟨by simp, by go_grown⟩

def fvOf (v : Value) : FV := match v with
  | .pointer none => .nop
  | v => .val v
theorem fvOf_at (w : World) (lo : Nat) (u : Value) : FAt w lo (fvOf u) u := by
  cases u <;> try rfl
  rename_i p
  cases p <;> rfl
/-- A builder's new query; c: its cells. -/
def initQ (c : Array Value) (ks : List ByteArray) : Q := { fields := ks, boosts := [], f := fun i => fvOf (c[i]?.getD .nilIface) }
def RetNew (w : World) (lo : Nat) (g : Geo) (q : Q) (e : Ending) (w' : World) : Prop := ∃ bq, e = .returned (.pointer (some ⟨bq, 0, none⟩)) ∧ QAt w' lo bq g q ∧ Below w.heap.size w w'

theorem QCore.new {w : World} {lo bq bm : Nat} {g : Geo} (c0 c : Array Value) (h0 : ∀ i, i ≠ g.iF → i ≠ g.iB → c[i]? = c0[i]?) (hN : c.size = g.N) (hq : lo ≤ bq) (hb : w.heap[bq]? = some (.cells c g.T (0, 0))) (hB : c[g.iB]? = some (.map (some bm))) (hm : MapIs w bm []) (hbm : lo ≤ bm) (ks : List ByteArray) :
    QCore w lo bq g (initQ c0 ks) c bm := by
  refine ⟨hq, hb, hN, hB, ⟨[], hbm, hm, rfl, fun i k x hi => by simp [initQ] at hi⟩, fun i u a b hi => ?_⟩
  have := h0 i a b
  rw [hi] at this
  show FAt w lo (fvOf (c0[i]?.getD .nilIface)) u
  rw [← this]
  exact fvOf_at w lo u

theorem strs_news {w w' : World} {ok : Nat → Prop} {ao : Option Addr} {ks : List ByteArray} (hc : ∀ (i : Nat) (k : ByteArray), ks[i]? = some k → ∃ b o, ao = some ⟨b, o, none⟩ ∧ ok b ∧ w.cell? ⟨b, o + i, none⟩ = some (Value.string k)) (hb : Below w.heap.size w w') :
    ∀ j u, (ks.map Value.string)[j]? = some u → ∃ ad : Addr, ao = some ad ∧ w'.cell? (ad.add j) = some u := by
  intro j u hu
  rw [List.getElem?_map] at hu
  cases hk : ks[j]? with
  | none => rw [hk] at hu; cases hu
  | some k =>
    rw [hk] at hu
    cases hu
    obtain ⟨b, o, rfl, -, hcell⟩ := hc j k hk
    refine ⟨_, rfl, ?_⟩
    rw [show (⟨b, o, none⟩ : Addr).add j = ⟨b, o + j, none⟩ by unfold Addr.add; split <;> simp_all]
    exact (hb.cell (World.block_lt_of_cell? w _ hcell)).trans hcell

def cMM (u : Value) : Array Value := #[u, .slice none 0 0, .map none, .string ⟨#[]⟩, .string ⟨#[]⟩, .string ⟨#[]⟩, .pointer none, .pointer none, .string ⟨#[]⟩, .pointer none, .pointer none, .string ⟨#[]⟩, .string ⟨#[]⟩, .string ⟨#[]⟩, .pointer none, .pointer none, .pointer none, .string ⟨#[]⟩, .string ⟨#[]⟩]

theorem ownsRow_nil (w : World) (lo : Nat) : w.ownsRow lo 9 1 (.slice none 0 0) 0 [] := ⟨rfl, Or.inl ⟨rfl, rfl⟩⟩

theorem new_put {w w1 w2 : World} {lo bq bm : Nat} {g : Geo} {c0 c : Array Value} {ks : List ByteArray} {v' : Value} (h : QCore w1 lo bq g (initQ c0 []) c bm) (hb : Below w.heap.size w w1) (hg : w1.grownBy w2 none) (hq : w.heap.size ≤ bq) {n : Nat} (hn : n = ks.length)
    (hown : w2.ownsRow lo 9 1 v' n (ks.map Value.string)) : QAt (w2.setCell ⟨bq, g.iF, none⟩ v') lo bq g (initQ c0 ks) ∧ Below w.heap.size w (w2.setCell ⟨bq, g.iF, none⟩ v') := by
  subst hn
  have h2 := h.kept (loose_none w1) hg
  have hbig := g.big
  obtain ⟨a1, a2, a3, -⟩ := id h2
  have hlt := g.ltF
  refine ⟨⟨c.setIfInBounds g.iF v', bm, v', ?_, ?_, ownsRow_setT a2 (by omega) hown v'⟩, ?_⟩
  · exact h2.setF v'
  · rw [Array.getElem?_setIfInBounds_self_of_lt (by omega)]
  · refine (hb.trans ⟨hg.os, hg.tape, hg.output, hg.size, fun k hk => hg.block k (Nat.lt_of_lt_of_le hk hb.size) (by simp)⟩).trans (Below.setCell_lo _ hq)

set_option maxHeartbeats 400000 in
theorem new_32 {w : World} {ok : Nat → Prop} {lo : Nat} (hlo : lo ≤ w.heap.size) (u : Value) (hu : ∃ t x, u = .iface t x) {v : Value} {ks : List ByteArray} (hk : StrsAt w ok v ks) (hl : ks.length ≤ 4194304) :
    Calls Tryz.prog 32 #[u, v] w (RetNew w lo gMM (initQ (cMM u) ks)) := by
  obtain ⟨ty, x, rfl⟩ := hu
  obtain ⟨ao, cap, rfl, hcap, hc⟩ := hk
  have HC := hide hc
  clear hc
  have hmk : ∀ w : World, (Instr.makeMap 104 none).run Tryz.prog w = .ok (.map (some w.heap.size)) (w.alloc (.map #[] 0)) := run_makeMap 104
  have H1 : Hid (QCore ((w.alloc (.map #[] 0)).alloc (.cells ((cMM (.iface ty x)).setIfInBounds 2 (.map (some w.heap.size))) 109 (0, 0))) lo (w.heap.size + 1) gMM (initQ (cMM (.iface ty x)) []) ((cMM (.iface ty x)).setIfInBounds 2 (.map (some w.heap.size))) w.heap.size) :=
    hide (QCore.new (g := gMM) (cMM (.iface ty x)) ((cMM (.iface ty x)).setIfInBounds 2 (.map (some w.heap.size))) (fun i _ hB => Array.getElem?_setIfInBounds_ne (Ne.symm hB)) rfl (by omega) (heap_alloc_two _ _ _) rfl ((MapIs.made w).same ((MapKept.heap_alloc _ _).2 _ (by simp))) hlo [])
  go_enter Tryz.func32, Tryz.ntmps32
  go_wp2_with (first | (at_builtin; refine wpList_append_any _ rfl _ _ 23 rfl lo 9 _ 1 16 Tryz.underlying23 Tryz.info9 rfl (by decide) (.slice none 0 0) 0 [] rfl (ownsRow_nil _ _) ao ks.length cap (ks.map Value.string) rfl (by simp) (strs_news HC.out (by go_grown)) (by simp [Value.oneCell']) (by omega) (by omega) (by simp; omega) ?_; intro v' w' hown' hgrow; rw [Nat.zero_add, List.nil_append] at hown'; have HG := hide hgrow; have HO' := hide hown'; obtain ⟨a2, cp, rfl, -⟩ := World.ownsRow.form hown'; clear hown' hgrow; obtain ⟨hcs2, hfr2⟩ := (QCore.kept H1.out (loose_none _) HG.out).cellF (vF := .slice none 0 0) rfl; dsimp only [gMM] at hcs2 hfr2) | go_in)
  go_returns
  obtain ⟨r1, r2⟩ := new_put H1.out (w := w) (by go_grown) HG.out (by omega) rfl HO'.out
  exact ⟨_, rfl, r1, r2⟩
def cCF (u : Value) : Array Value := #[u, .slice none 0 0, .map none, .pointer none, .string ⟨#[]⟩, .string ⟨#[]⟩, .string ⟨#[]⟩]

set_option maxHeartbeats 400000 in
theorem new_54 {w : World} {ok : Nat → Prop} {lo : Nat} (hlo : lo ≤ w.heap.size) (u : Value) (hu : ∃ t x, u = .iface t x) {v : Value} {ks : List ByteArray} (hk : StrsAt w ok v ks) (hl : ks.length ≤ 4194304) :
    Calls Tryz.prog 54 #[u, v] w (RetNew w lo gCF (initQ (cCF u) ks)) := by
  obtain ⟨ty, x, rfl⟩ := hu
  obtain ⟨ao, cap, rfl, hcap, hc⟩ := hk
  have HC := hide hc
  clear hc
  have hmk : ∀ w : World, (Instr.makeMap 104 none).run Tryz.prog w = .ok (.map (some w.heap.size)) (w.alloc (.map #[] 0)) := run_makeMap 104
  have H1 : Hid (QCore ((w.alloc (.map #[] 0)).alloc (.cells ((cCF (.iface ty x)).setIfInBounds 2 (.map (some w.heap.size))) 118 (0, 0))) lo (w.heap.size + 1) gCF (initQ (cCF (.iface ty x)) []) ((cCF (.iface ty x)).setIfInBounds 2 (.map (some w.heap.size))) w.heap.size) :=
    hide (QCore.new (g := gCF) (cCF (.iface ty x)) ((cCF (.iface ty x)).setIfInBounds 2 (.map (some w.heap.size))) (fun i _ hB => Array.getElem?_setIfInBounds_ne (Ne.symm hB)) rfl (by omega) (heap_alloc_two _ _ _) rfl ((MapIs.made w).same ((MapKept.heap_alloc _ _).2 _ (by simp))) hlo [])
  go_enter Tryz.func54, Tryz.ntmps54
  go_wp2_with (first | (at_builtin; refine wpList_append_any _ rfl _ _ 23 rfl lo 9 _ 1 16 Tryz.underlying23 Tryz.info9 rfl (by decide) (.slice none 0 0) 0 [] rfl (ownsRow_nil _ _) ao ks.length cap (ks.map Value.string) rfl (by simp) (strs_news HC.out (by go_grown)) (by simp [Value.oneCell']) (by omega) (by omega) (by simp; omega) ?_; intro v' w' hown' hgrow; rw [Nat.zero_add, List.nil_append] at hown'; have HG := hide hgrow; have HO' := hide hown'; obtain ⟨a2, cp, rfl, -⟩ := World.ownsRow.form hown'; clear hown' hgrow; obtain ⟨hcs2, hfr2⟩ := (QCore.kept H1.out (loose_none _) HG.out).cellF (vF := .slice none 0 0) rfl; dsimp only [gCF] at hcs2 hfr2) | go_in)
  go_returns
  obtain ⟨r1, r2⟩ := new_put H1.out (w := w) (by go_grown) HG.out (by omega) rfl HO'.out
  exact ⟨_, rfl, r1, r2⟩
theorem heap_alloc_three (w : World) (a b c : Obj) : (((w.alloc a).alloc b).alloc c).heap[w.heap.size + 2]? = some c := by
  have := heap_alloc_new ((w.alloc a).alloc b) c
  simpa using this
theorem heap_three_old (w : World) (a b c : Obj) : (((w.alloc a).alloc b).alloc c).heap[w.heap.size + 1 - 1]? = some a := by
  rw [Nat.add_sub_cancel, (MapKept.heap_alloc ((w.alloc a).alloc b) c).2 _ (by simp; omega), (MapKept.heap_alloc (w.alloc a) b).2 _ (by simp)]
  exact heap_alloc_new w a
theorem MapIs.same' {w w' : World} {b b' : Nat} {L : List (ByteArray × Value)} (h : MapIs w b L) (he : b = b') (hb : w'.heap[b]? = w.heap[b]?) : MapIs w' b' L := by
  subst he
  exact h.same hb
theorem run_make0 (w : World) : (Instr.makeSlice 23 (.int .i64 0) (.int .i64 0)).run Tryz.prog w = .ok (.slice (some ⟨w.heap.size, 0, none⟩) 0 0) (w.alloc (.cells #[] 9 (0, 0))) := by
  have e : madeCells #[Value.string ⟨#[]⟩] 0 = #[] := by simp [madeCells]
  have h := run_make_row' (P := Tryz.prog) 23 9 (.string ⟨#[]⟩) 16 Tryz.underlying23 Tryz.info9 rfl .i64 .i64 0 (by omega) (by omega) w
  rw [e] at h
  exact h

theorem new_own {w : World} {lo bq bm : Nat} {g : Geo} {c0 c : Array Value} (h : QCore w lo bq g (initQ c0 []) c bm) (hF : c[g.iF]? = some (.slice (some ⟨bm - 1, 0, none⟩) 0 0)) (hr : w.heap[bm - 1]? = some (.cells #[] 9 (0, 0))) (hlo : lo ≤ bm - 1) : QAt w lo bq g (initQ c0 []) :=
  ⟨c, bm, _, h, hF, rfl, Or.inr ⟨bm - 1, 0, #[], rfl, hlo, hr, Nat.le_refl _, Nat.zero_le _, rfl, rfl⟩⟩

def cSQ (u : Value) : Array Value := #[u, .string ⟨#[]⟩, .string ⟨#[]⟩, .string ⟨#[]⟩, .slice none 0 0, .map none, .string ⟨#[]⟩, .string ⟨#[]⟩, .pointer none, .pointer none, .pointer none, .pointer none, .string ⟨#[]⟩, .string ⟨#[]⟩, .pointer none, .int .i64 (-1), .int .i64 (-1), .pointer none]

set_option maxHeartbeats 400000 in
set_option maxRecDepth 100000 in
theorem new_76 {w : World} {lo : Nat} (hlo : lo ≤ w.heap.size) (s : ByteArray) :
    Calls Tryz.prog 76 #[.string s] w (RetNew w lo gSQ (initQ (cSQ (.string s)) [])) := by
  have hmk : ∀ w : World, (Instr.makeMap 104 none).run Tryz.prog w = .ok (.map (some w.heap.size)) (w.alloc (.map #[] 0)) := run_makeMap 104
  have hms := run_make0
  have H1 : Hid (QAt (((w.alloc (.cells #[] 9 (0, 0))).alloc (.map #[] 0)).alloc (.cells (((cSQ (.string s)).setIfInBounds 4 (.slice (some ⟨w.heap.size, 0, none⟩) 0 0)).setIfInBounds 5 (.map (some (w.heap.size + 1)))) 123 (0, 0))) lo (w.heap.size + 2) gSQ (initQ (cSQ (.string s)) [])) :=
    hide (new_own (bm := w.heap.size + 1) (QCore.new (g := gSQ) (cSQ (.string s)) (((cSQ (.string s)).setIfInBounds 4 (.slice (some ⟨w.heap.size, 0, none⟩) 0 0)).setIfInBounds 5 (.map (some (w.heap.size + 1)))) (fun i hF hB => (Array.getElem?_setIfInBounds_ne (Ne.symm hB)).trans (Array.getElem?_setIfInBounds_ne (Ne.symm hF))) rfl (by omega) (heap_alloc_three _ _ _ _) rfl ((MapIs.made (w.alloc (.cells #[] 9 (0, 0)))).same' (by simp) ((MapKept.heap_alloc _ _).2 _ (by simp))) (by omega) []) rfl (heap_three_old _ _ _ _) (by omega))
  go_enter Tryz.func76, Tryz.ntmps76
  go_wp2
  go_returns
  exact ⟨_, rfl, H1.out, by go_grown⟩

def cQS (u : Value) : Array Value := #[u, .string ⟨#[]⟩, .string ⟨#[]⟩, .string ⟨#[]⟩, .string ⟨#[]⟩, .string ⟨#[]⟩, .pointer none, .pointer none, .pointer none, .pointer none, .string ⟨#[]⟩, .pointer none, .string ⟨#[]⟩, .pointer none, .pointer none, .string ⟨#[]⟩, .pointer none, .slice none 0 0, .map none, .pointer none, .string ⟨#[]⟩, .string ⟨#[]⟩, .pointer none, .string ⟨#[]⟩, .string ⟨#[]⟩, .pointer none, .pointer none, .string ⟨#[]⟩]

set_option maxHeartbeats 400000 in
set_option maxRecDepth 100000 in
theorem new_94 {w : World} {lo : Nat} (hlo : lo ≤ w.heap.size) (s : ByteArray) :
    Calls Tryz.prog 94 #[.string s] w (RetNew w lo gQS (initQ (cQS (.string s)) [])) := by
  have hmk : ∀ w : World, (Instr.makeMap 104 none).run Tryz.prog w = .ok (.map (some w.heap.size)) (w.alloc (.map #[] 0)) := run_makeMap 104
  have hms := run_make0
  have H1 : Hid (QAt (((w.alloc (.cells #[] 9 (0, 0))).alloc (.map #[] 0)).alloc (.cells (((cQS (.string s)).setIfInBounds 17 (.slice (some ⟨w.heap.size, 0, none⟩) 0 0)).setIfInBounds 18 (.map (some (w.heap.size + 1)))) 125 (0, 0))) lo (w.heap.size + 2) gQS (initQ (cQS (.string s)) [])) :=
    hide (new_own (bm := w.heap.size + 1) (QCore.new (g := gQS) (cQS (.string s)) (((cQS (.string s)).setIfInBounds 17 (.slice (some ⟨w.heap.size, 0, none⟩) 0 0)).setIfInBounds 18 (.map (some (w.heap.size + 1)))) (fun i hF hB => (Array.getElem?_setIfInBounds_ne (Ne.symm hB)).trans (Array.getElem?_setIfInBounds_ne (Ne.symm hF))) rfl (by omega) (heap_alloc_three _ _ _ _) rfl ((MapIs.made (w.alloc (.cells #[] 9 (0, 0)))).same' (by simp) ((MapKept.heap_alloc _ _).2 _ (by simp))) (by omega) []) rfl (heap_three_old _ _ _ _) (by omega))
  go_enter Tryz.func94, Tryz.ntmps94
  go_wp2
  go_returns
  exact ⟨_, rfl, H1.out, by go_grown⟩

end Go.Proofs.YtbcnhcpgloncdaaGreatDoor
