/-
  SLICES THAT A CALL MAKES BY append: the laws at the operation, and how an owned row reads as texts, trees, settings.
-/
import Derived.Test.YtbcnhcpgloncdaaGreatDoorBase
namespace Go.Proofs.YtbcnhcpgloncdaaGreatDoor
open Go.RowKit

theorem Tryz.info9 : (Tryz.prog.info? 9).map (fun i => (i.zero, i.size, i.bytes)) = some (some (.string ⟨#[]⟩), 1, 16) := by kernel_rfl
theorem Tryz.info26 : (Tryz.prog.info? 26).map (fun i => (i.zero, i.size, i.bytes)) = some (some (.agg #[.int .i64 0, .string ⟨#[]⟩, .float .f64 0, .bool false, .slice none 0 0, .slice none 0 0]), 6, 88) := by kernel_rfl
theorem Tryz.info45 : (Tryz.prog.info? 45).map (fun i => (i.zero, i.size, i.bytes)) = some (some (.agg #[.string ⟨#[]⟩, .int .i64 0, .string ⟨#[]⟩, .float .f64 0, .bool false, .slice none 0 0, .slice none 0 0]), 7, 104) := by kernel_rfl

section
variable {P : Program}
theorem run_append_none (w : World) (base : Nat) (t ty e : TypeId) (i : TypeInfo) (size : Nat) (ht : P.underlying t = some (.slice e)) (hi : P.info? e = some i)
    (v : Value) (n : Nat) (xs : List Value) (hown : w.ownsRow base e size v n xs) (c : Nat) :
    (Builtin.append_ #[t, t] ty #[v, .slice none 0 c]).run P w = .ok v w := by
  rcases hown.2 with ⟨rfl, rfl⟩ | ⟨g, cap, cur, rfl, _, _, hnc, _⟩
  · simp [Builtin.append_, run_underlying ht, sizeOf, typeInfo, hi, Builtin.lenOf, Builtin.firstCells]
  · simp [Builtin.append_, run_underlying ht, sizeOf, typeInfo, hi, Builtin.lenOf, Builtin.firstCells, hnc, storeCells]

/-- append of whatever slice, nil too, onto an owned one. -/
theorem wpList_append_any (w : World) {ops : Array Oper} {rest : List Oper} {o : Oper} {a : Act} {Q : Exit → Act → World → Prop} (hgd : o.guard = none) (s x : Operand) (t : TypeId)
    (ho : o.op = .call { callee := .builtin .append, args := #[s, x], argTypes := #[t, t] })
    (base : Nat) (e : TypeId) (z : Value) (size bytes : Nat) (ht : P.underlying t = some (.slice e)) (hi : (P.info? e).map (fun i => (i.zero, i.size, i.bytes)) = some (some z, size, bytes))
    (hzs : z.cells.size = size) (hsz : 0 < size)
    (v : Value) (n : Nat) (xs : List Value) (hs : a.eval s = v) (hown : w.ownsRow base e size v n xs)
    (ao : Option Addr) (m c : Nat) (news : List Value) (hx : a.eval x = .slice ao m c) (hl : news.length = m * size)
    (hnews : ∀ j u, news[j]? = some u → ∃ ad : Addr, ao = some ad ∧ w.cell? (ad.add j) = some u) (h1 : ∀ u ∈ news, u.oneCell' = true)
    (hsmall : (n + m) * bytes ≤ 140737488355328) (hsmall' : n + m ≤ 140737488355328) (hbase : base ≤ w.heap.size)
    (h : ∀ v' w', w'.ownsRow base e size v' (n + m) (xs ++ news) → w.grownBy w' v.ownBlock → wpList P ops Q rest (a.put o.dst v') w') : wpList P ops Q (o :: rest) a w := by
  obtain ⟨i, hi, hz0, hz1, hz2⟩ := info_parts hi
  by_cases hm : m = 0
  · subst hm
    obtain rfl : news = [] := List.eq_nil_of_length_eq_zero (by simpa using hl)
    cases ao with
    | none =>
      refine wpList_plain hgd fun K' hK' => ?_
      have hrun := run_append_none (P := P) w base t o.type e i size ht hi v n xs hown c
      unfold Oper.wp
      simp [execOp, ho, resolve, invoke, builtin, hs, hx, hrun, Result.andThen]
      exact hK' _ _ (h v w (by simpa using hown) (World.grownBy.refl _ _))
    | some ad =>
      exact wpList_append_own w hgd s x t ho base e i z size bytes ht hi hz0 hz1 hz2 hzs hsz v n xs hs hown ad 0 c [] hx (by simp) (fun j u hu => by simp at hu) (fun u hu => by simp at hu)
        (by unfold maxLen; omega) hsmall hbase fun v' w' h2 h3 _ => h v' w' h2 h3
  · have hnp : 0 < news.length := by rw [hl]; exact Nat.mul_pos (by omega) hsz
    obtain ⟨ad, rfl, -⟩ := hnews 0 news[0] (List.getElem?_eq_getElem hnp)
    refine wpList_append_own w hgd s x t ho base e i z size bytes ht hi hz0 hz1 hz2 hzs hsz v n xs hs hown ad m c news hx hl (fun j u hu => ?_) h1
        (by unfold maxLen; omega) hsmall hbase fun v' w' h2 h3 _ => h v' w' h2 h3
    obtain ⟨ad', e', hc⟩ := hnews j u hu
    cases e'
    exact hc

/-- .. of what lies whole in a block of its own. -/
theorem wpList_append_blk (w : World) {ops : Array Oper} {rest : List Oper} {o : Oper} {a : Act} {Q : Exit → Act → World → Prop} (hgd : o.guard = none) (s x : Operand) (t : TypeId)
    (ho : o.op = .call { callee := .builtin .append, args := #[s, x], argTypes := #[t, t] })
    (base : Nat) (e : TypeId) (z : Value) (size bytes : Nat) (ht : P.underlying t = some (.slice e)) (hi : (P.info? e).map (fun i => (i.zero, i.size, i.bytes)) = some (some z, size, bytes))
    (hzs : z.cells.size = size) (hsz : 0 < size)
    (v : Value) (n : Nat) (xs : List Value) (hs : a.eval s = v) (hown : w.ownsRow base e size v n xs)
    (g m c : Nat) (news : Array Value) (te : TypeId) (hx : a.eval x = .slice (some ⟨g, 0, none⟩) m c) (hblk : w.heap[g]? = some (.cells news te (0, 0))) (hl : news.size = m * size)
    (h1 : ∀ u ∈ news.toList, u.oneCell' = true)
    (hsmall : (n + m) * bytes ≤ 140737488355328) (hsmall' : n + m ≤ 140737488355328) (hbase : base ≤ w.heap.size)
    (h : ∀ v' w', w'.ownsRow base e size v' (n + m) (xs ++ news.toList) → w.grownBy w' v.ownBlock → wpList P ops Q rest (a.put o.dst v') w') : wpList P ops Q (o :: rest) a w :=
  wpList_append_any w hgd s x t ho base e z size bytes ht hi hzs hsz v n xs hs hown _ m c news.toList hx (by simpa using hl)
    (fun j u hu => ⟨_, rfl, by
      rw [show (⟨g, 0, none⟩ : Addr).add j = ⟨g, j, none⟩ by unfold Addr.add; split <;> simp_all, cell_of_row w g j news te (0, 0) hblk]
      simpa using hu⟩) h1 hsmall hsmall' hbase h
end

section
variable {P : Program}
/-- The same at a step of a region that draws its order. -/
theorem step_append_blk (w : World) {ops : Array Oper} {o : Oper} {a : Act} {K : Act → World → Prop} {Q : Exit → Act → World → Prop} {E : Prop} (hgd : o.guard = none) (s x : Operand) (t : TypeId)
    (ho : o.op = .call { callee := .builtin .append, args := #[s, x], argTypes := #[t, t] })
    (base : Nat) (e : TypeId) (z : Value) (size bytes : Nat) (ht : P.underlying t = some (.slice e)) (hi : (P.info? e).map (fun i => (i.zero, i.size, i.bytes)) = some (some z, size, bytes))
    (hzs : z.cells.size = size) (hsz : 0 < size)
    (v : Value) (n : Nat) (xs : List Value) (hs : a.eval s = v) (hown : w.ownsRow base e size v n xs)
    (g m c : Nat) (news : Array Value) (te : TypeId) (hx : a.eval x = .slice (some ⟨g, 0, none⟩) m c) (hblk : w.heap[g]? = some (.cells news te (0, 0))) (hl : news.size = m * size)
    (h1 : ∀ u ∈ news.toList, u.oneCell' = true)
    (hsmall : (n + m) * bytes ≤ 140737488355328) (hsmall' : n + m ≤ 140737488355328) (hbase : base ≤ w.heap.size)
    (h : ∀ v' w', w'.ownsRow base e size v' (n + m) (xs ++ news.toList) → w.grownBy w' v.ownBlock → K (a.put o.dst v') w') :
    if Region.wanted o (yielded ops a.tmps) = true then Oper.wp P o a w K Q else E := by
  have hw : Region.wanted o (yielded ops a.tmps) = true := by simp [Region.wanted, hgd]
  rw [if_pos hw]
  obtain ⟨i, hi, hz0, hz1, hz2⟩ := info_parts hi
  exact wp_append_own w s x t ho base e i z size bytes ht hi hz0 hz1 hz2 hzs hsz v n xs hs hown ⟨g, 0, none⟩ m c news.toList hx (by simpa using hl)
    (fun j u hu => by
      rw [show (⟨g, 0, none⟩ : Addr).add j = ⟨g, j, none⟩ by unfold Addr.add; split <;> simp_all, cell_of_row w g j news te (0, 0) hblk]
      simpa using hu) h1 (by unfold maxLen; omega) hsmall hbase fun v' w' h2 h3 _ => h v' w' h2 h3
end

/-! ### An owned row, read -/
section
variable {w : World} {base : Nat} {e : TypeId} {size : Nat} {v : Value} {n : Nat}

theorem World.ownsRow.form {xs : List Value} (h : w.ownsRow base e size v n xs) :
    ∃ a cap, v = .slice a n cap ∧ n ≤ cap ∧ cap ≤ maxLen ∧ (∀ j u, xs[j]? = some u → ∃ g, a = some ⟨g, 0, none⟩ ∧ v.ownBlock = some g ∧ base ≤ g ∧ w.cell? ⟨g, j, none⟩ = some u) := by
  rcases h.2 with ⟨rfl, rfl⟩ | ⟨g, cap, cur, rfl, hb, hgg, hnc, hcm, hcs, htake⟩
  · refine ⟨none, 0, rfl, Nat.le_refl _, Nat.zero_le _, fun j u hu => ?_⟩
    have : xs = [] := List.eq_nil_of_length_eq_zero (by simpa using h.1)
    subst this; simp at hu
  · refine ⟨_, cap, rfl, hnc, hcm, fun j u hu => ⟨g, rfl, rfl, hb, ?_⟩⟩
    rw [cell_of_row w g j cur e (0, 0) hgg]
    rw [← htake, List.getElem?_take] at hu
    split at hu
    · simpa using hu
    · cases hu

/-- An owned row of texts. -/
theorem strs_of_own {ks : List ByteArray} {ok : Nat → Prop} (h : w.ownsRow base 9 1 v ks.length (ks.map Value.string)) (hok : ∀ k, v.ownBlock = some k → ok k) : StrsAt w ok v ks := by
  obtain ⟨a, cap, hv, hnc, -, hc⟩ := World.ownsRow.form h
  refine ⟨a, cap, hv, hnc, fun i k hk => ?_⟩
  obtain ⟨g, rfl, hob, -, hcell⟩ := hc i (.string k) (by simp [hk])
  exact ⟨g, 0, rfl, hok g hob, by simpa using hcell⟩

/-- The cells of values of 'size' cells each, one behind the other. -/
def cellsOf (vs : List Value) : List Value := vs.flatMap fun v => v.cells.toList

theorem cellsOf_get (size : Nat) : ∀ (vs : List Value) (_ : ∀ v ∈ vs, v.cells.size = size) (i j : Nat) (v : Value), vs[i]? = some v → j < size → (cellsOf vs)[i * size + j]? = v.cells[j]?
  | [], _, i, j, v, h, _ => by simp at h
  | x :: xs, hs, 0, j, v, h, hj => by
    simp only [List.getElem?_cons_zero, Option.some.injEq] at h
    subst h
    have := hs x (by simp)
    show (x.cells.toList ++ cellsOf xs)[0 * size + j]? = _
    rw [List.getElem?_append_left (by simp; omega)]
    simp
  | x :: xs, hs, i + 1, j, v, h, hj => by
    have hx := hs x (by simp)
    show (x.cells.toList ++ cellsOf xs)[(i + 1) * size + j]? = _
    rw [List.getElem?_append_right (by simp [hx, Nat.add_mul]; omega)]
    have := cellsOf_get size xs (fun v hv => hs v (List.mem_cons_of_mem _ hv)) i j v (by simpa using h) hj
    rw [← this]
    congr 1
    simp [hx, Nat.add_mul]; omega

theorem cellsOf_length (size : Nat) : ∀ (vs : List Value) (_ : ∀ v ∈ vs, v.cells.size = size), (cellsOf vs).length = vs.length * size
  | [], _ => by simp [cellsOf]
  | x :: xs, hs => by
    have hx := hs x (by simp)
    have := cellsOf_length size xs (fun v hv => hs v (List.mem_cons_of_mem _ hv))
    show (x.cells.toList ++ cellsOf xs).length = _
    rw [List.length_append, this]
    simp [hx, Nat.add_mul]; omega
theorem cellsOf_append (a b : List Value) : cellsOf (a ++ b) = cellsOf a ++ cellsOf b := by simp [cellsOf]
theorem cellsOf_one (v : Value) : cellsOf [v] = v.cells.toList := by simp [cellsOf]
end

/-- Values that stand for trees, one for one. -/
def TreesAt (w : World) (ok : Nat → Prop) (vs : List Value) (ts : List T) : Prop := vs.length = ts.length ∧ ∀ (i : Nat) (v : Value) (t : T), vs[i]? = some v → ts[i]? = some t → TreeAt w ok v t

theorem TreesAt.nil (w : World) (ok : Nat → Prop) : TreesAt w ok [] [] := ⟨rfl, fun i v t h => by simp at h⟩
theorem TreesAt.snoc {w : World} {ok : Nat → Prop} {vs : List Value} {ts : List T} {v : Value} {t : T} (h : TreesAt w ok vs ts) (ht : TreeAt w ok v t) : TreesAt w ok (vs ++ [v]) (ts ++ [t]) := by
  refine ⟨by simp [h.1], fun i x y hx hy => ?_⟩
  rcases Nat.lt_or_ge i vs.length with hi | hi
  · rw [List.getElem?_append_left hi] at hx
    rw [List.getElem?_append_left (by rw [← h.1]; exact hi)] at hy
    exact h.2 i x y hx hy
  · rw [List.getElem?_append_right hi] at hx
    rw [List.getElem?_append_right (by rw [← h.1]; exact hi), ← h.1] at hy
    rcases Nat.eq_or_lt_of_le hi with rfl | hlt
    · simp at hx hy; subst hx; subst hy; exact ht
    · rw [List.getElem?_eq_none (by simp; omega)] at hx; cases hx
theorem TreesAt.same {w w' : World} {ok : Nat → Prop} {vs : List Value} {ts : List T} (hs : Same ok w w') (h : TreesAt w ok vs ts) : TreesAt w' ok vs ts := ⟨h.1, fun i v t hv ht => (h.2 i v t hv ht).same hs⟩
theorem TreesAt.weaken {w : World} {ok ok' : Nat → Prop} {vs : List Value} {ts : List T} (hw : ∀ k, ok k → k < w.heap.size → ok' k) (h : TreesAt w ok vs ts) : TreesAt w ok' vs ts := ⟨h.1, fun i v t hv ht => (h.2 i v t hv ht).weaken hw⟩

theorem TreeAt.cells {w : World} {ok : Nat → Prop} {v : Value} {t : T} (h : TreeAt w ok v t) : v.cells.size = 6 ∧ (∀ u ∈ v.cells.toList, u.oneCell' = true) := by
  obtain ⟨a, cap, a', cap', c, rfl, -⟩ := h.open
  exact ⟨rfl, fun u hu => by simp [Value.cells] at hu; rcases hu with rfl | rfl | rfl | rfl | rfl | rfl <;> rfl⟩
theorem TreesAt.size {w : World} {ok : Nat → Prop} {vs : List Value} {ts : List T} (h : TreesAt w ok vs ts) : ∀ v ∈ vs, v.cells.size = 6 := by
  intro v hv
  obtain ⟨i, hi⟩ := List.mem_iff_getElem?.1 hv
  have hlt : i < ts.length := by rw [← h.1]; exact (List.getElem?_eq_some_iff.1 hi).1
  exact (h.2 i v ts[i] hi (List.getElem?_eq_getElem hlt)).cells.1

/-- A tree whose keys and kids lie in owned rows. -/
theorem tree_of_own {w : World} {ok : Nat → Prop} {base : Nat} {t : T} {vk vs : Value} {kids : List Value} (hk : w.ownsRow base 9 1 vk t.keys.length (t.keys.map Value.string))
    (hs : w.ownsRow base 26 6 vs t.kids.length (cellsOf kids)) (ht : TreesAt w ok kids t.kids) (hok : ∀ k, vk.ownBlock = some k → ok k) (hok' : ∀ k, vs.ownBlock = some k → ok k) :
    TreeAt w ok (.agg #[.int .i64 t.kind, .string t.text, .float .f64 t.num, .bool t.yes, vk, vs]) t := by
  obtain ⟨a, cap, hvk, hka, hkc⟩ := strs_of_own (ok := ok) hk hok
  obtain ⟨a', cap', hvs, hna, -, hsc⟩ := World.ownsRow.form hs
  subst hvk
  subst hvs
  refine TreeAt.shut (fun i j => (kids[i]?.getD default).cells[j]?.getD default) hka hna hkc (fun i hi => ?_) (fun i t' hi => ?_)
  · have hil : i < kids.length := by rw [ht.1]; exact hi
    have hsz := ht.size
    have e : ∀ j, j < 6 → (cellsOf kids)[i * 6 + j]? = some ((kids[i]?.getD default).cells[j]?.getD default) := fun j hj => by
      rw [cellsOf_get 6 kids hsz i j kids[i] (List.getElem?_eq_getElem hil) hj]
      have h6 := hsz kids[i] (List.getElem_mem hil)
      simp [List.getElem?_eq_getElem hil, show j < kids[i].cells.size by omega]
    obtain ⟨g, rfl, hob, -, -⟩ := hsc (i * 6 + 0) _ (e 0 (by omega))
    refine ⟨g, 0, rfl, hok' g hob, fun j hj => ?_⟩
    obtain ⟨g', e', -, -, hc⟩ := hsc (i * 6 + j) _ (e j hj)
    cases e'
    simpa using hc
  · have hil : i < kids.length := by rw [ht.1]; exact (List.getElem?_eq_some_iff.1 hi).1
    have h1 := ht.2 i kids[i] t' (List.getElem?_eq_getElem hil) hi
    obtain ⟨a1, c1, a2, c2, cc, hv, -⟩ := h1.open
    rw [hv] at h1
    simpa [List.getElem?_eq_getElem hil, hv, Value.cells] using h1

/-- Values that stand for settings. -/
def SetAt (w : World) (ok : Nat → Prop) (v : Value) (s : S) : Prop := ∃ c : Array Value, v = .agg (#[.string s.name] ++ c) ∧ TreeAt w ok (.agg c) s.value

/-- .. one for one. -/
def SettersAt (w : World) (ok : Nat → Prop) (vs : List Value) (ss : List S) : Prop := vs.length = ss.length ∧ ∀ (i : Nat) (v : Value) (s : S), vs[i]? = some v → ss[i]? = some s → SetAt w ok v s
theorem SettersAt.nil (w : World) (ok : Nat → Prop) : SettersAt w ok [] [] := ⟨rfl, fun i v t h => by simp at h⟩
theorem SetAt.same {w w' : World} {ok : Nat → Prop} {v : Value} {s : S} (hs : Same ok w w') (h : SetAt w ok v s) : SetAt w' ok v s := by
  obtain ⟨c, hv, ht⟩ := h
  exact ⟨c, hv, ht.same hs⟩
theorem SettersAt.same {w w' : World} {ok : Nat → Prop} {vs : List Value} {ss : List S} (hs : Same ok w w') (h : SettersAt w ok vs ss) : SettersAt w' ok vs ss := ⟨h.1, fun i v t hv ht => (h.2 i v t hv ht).same hs⟩
theorem SettersAt.snoc {w : World} {ok : Nat → Prop} {vs : List Value} {ss : List S} {v : Value} {s : S} (h : SettersAt w ok vs ss) (ht : SetAt w ok v s) : SettersAt w ok (vs ++ [v]) (ss ++ [s]) := by
  refine ⟨by simp [h.1], fun i x y hx hy => ?_⟩
  rcases Nat.lt_or_ge i vs.length with hi | hi
  · rw [List.getElem?_append_left hi] at hx
    rw [List.getElem?_append_left (by rw [← h.1]; exact hi)] at hy
    exact h.2 i x y hx hy
  · rw [List.getElem?_append_right hi] at hx
    rw [List.getElem?_append_right (by rw [← h.1]; exact hi), ← h.1] at hy
    rcases Nat.eq_or_lt_of_le hi with rfl | hlt
    · simp at hx hy; subst hx; subst hy; exact ht
    · rw [List.getElem?_eq_none (by simp; omega)] at hx; cases hx
theorem SetAt.cells {w : World} {ok : Nat → Prop} {v : Value} {s : S} (h : SetAt w ok v s) : v.cells.size = 7 ∧ (∀ u ∈ v.cells.toList, u.oneCell' = true) := by
  obtain ⟨c, rfl, ht⟩ := h
  have h6 := ht.cells
  simp only [Value.cells] at h6
  refine ⟨by simp [Value.cells, h6.1], fun u hu => ?_⟩
  simp [Value.cells] at hu
  rcases hu with rfl | hu
  · rfl
  · exact h6.2 u (by simpa using hu)
theorem SettersAt.size {w : World} {ok : Nat → Prop} {vs : List Value} {ss : List S} (h : SettersAt w ok vs ss) : ∀ v ∈ vs, v.cells.size = 7 := by
  intro v hv
  obtain ⟨i, hi⟩ := List.mem_iff_getElem?.1 hv
  have hlt : i < ss.length := by rw [← h.1]; exact (List.getElem?_eq_some_iff.1 hi).1
  exact (h.2 i v ss[i] hi (List.getElem?_eq_getElem hlt)).cells.1

theorem sets_of_own {w : World} {ok : Nat → Prop} {base : Nat} {ss : List S} {v : Value} {vs : List Value}
    (hs : w.ownsRow base 45 7 v ss.length (cellsOf vs)) (ht : SettersAt w ok vs ss) (hok : ∀ k, v.ownBlock = some k → ok k) : SetsAt w ok v ss := by
  obtain ⟨a', cap', hvs, hna, -, hsc⟩ := World.ownsRow.form hs
  subst hvs
  refine ⟨a', cap', fun i j => (vs[i]?.getD default).cells[j]?.getD default, rfl, hna, fun i hi => ?_, fun i s hi => ?_⟩
  · have hil : i < vs.length := by rw [ht.1]; exact hi
    have hsz := ht.size
    have e : ∀ j, j < 7 → (cellsOf vs)[i * 7 + j]? = some ((vs[i]?.getD default).cells[j]?.getD default) := fun j hj => by
      rw [cellsOf_get 7 vs hsz i j vs[i] (List.getElem?_eq_getElem hil) hj]
      have h6 := hsz vs[i] (List.getElem_mem hil)
      simp [List.getElem?_eq_getElem hil, show j < vs[i].cells.size by omega]
    obtain ⟨g, rfl, hob, -, -⟩ := hsc (i * 7 + 0) _ (e 0 (by omega))
    refine ⟨g, 0, rfl, hok g hob, fun j hj => ?_⟩
    obtain ⟨g', e', -, -, hc⟩ := hsc (i * 7 + j) _ (e j hj)
    cases e'
    simpa using hc
  · have hil : i < vs.length := by rw [ht.1]; exact (List.getElem?_eq_some_iff.1 hi).1
    obtain ⟨c, hv, h1⟩ := ht.2 i vs[i] s (List.getElem?_eq_getElem hil) hi
    obtain ⟨a1, c1, a2, c2, cc, hv', -⟩ := h1.open
    rw [hv'] at h1
    simp only [Value.agg.injEq] at hv'
    subst hv'
    simpa [List.getElem?_eq_getElem hil, hv, Value.cells] using h1

end Go.Proofs.YtbcnhcpgloncdaaGreatDoor
