/-
  impl.mapOf.
-/
import Derived.Test.YtbcnhcpgloncdaaGreatDoorQk
namespace Go.Proofs.YtbcnhcpgloncdaaGreatDoor
open Go.RowKit Go.Sort Go.ChangeMaps Go.MapKept Go.Lib
open Go.Maps (Keyed has IsMap)

theorem MapIs.below {w w' : World} {b : Nat} {L : List (ByteArray × Value)} (h : MapIs w b L) (hb : Below w.heap.size w w') : MapIs w' b L := h.same (hb.block b h.lt)

theorem some_ne {a b : Nat} (h : a ≠ b) : some a ≠ some b := fun e => h (Option.some.inj e)

theorem KidsAt.own {w : World} {base : Nat} {vK : Value} {kids : List Value} {ts : List T} {k : Nat} (h : KidsAt w base vK kids ts) (hl : ts.length = k) : w.ownsRow base 26 6 vK k (cellsOf kids) := hl ▸ h.1

def RetMap (w : World) (E : List (ByteArray × T)) (e : Ending) (w' : World) : Prop := ∃ v t, e = .returned v ∧ TreeAt w' (newB w.heap.size) v t ∧ IsMapT t E ∧ Below w.heap.size w w'

theorem own_kept {w w' : World} {base e size : Nat} {v : Value} {n : Nat} {xs : List Value} {x : Option Nat} (h : w.ownsRow base e size v n xs) (hg : w.grownBy w' x) (hne : ∀ g, v.ownBlock = some g → some g ≠ x) : w'.ownsRow base e size v n xs := by
  refine ⟨h.1, ?_⟩
  rcases h.2 with h0 | ⟨gg, cap, cur, h1, h2, h3, h4⟩
  · exact Or.inl h0
  · exact Or.inr ⟨gg, cap, cur, h1, h2, (hg.block gg (lt_of_block h3) (hne gg (by rw [h1]; rfl))).trans h3, h4⟩

/-- What a step of the range leaves. -/
structure Stepped (w : World) (b r n : Nat) (D : DataW Value) (left : Lit → Bool) (cnt : Nat) (x : List UInt8) (c : Value) (w' : World) (cnt' : Nat) : Prop where
  len : x.length ≤ maxLen
  lk : left (.string x) = true
  at_ : ∀ zd, D.atKey (.string x) zd = .held c
  rg : w'.ranges Tryz.prog 9 RV b r n D (fun z => left z && !z.sameKey (.string x)) cnt'
  lt : cnt' < cnt
  grown : w.grownBy w' (some r)
  size : w'.heap.size = w.heap.size
  en : (Instr.entry (.pointer (some ⟨r, 0, none⟩))).run Tryz.prog w' = .ok (.tuple #[encStr x, c]) w'
structure Done (left : Lit → Bool) (cnt : Nat) : Prop where
  cnt0 : cnt = 0
  none : ∀ kl, left kl = false

theorem wpList_next_str (w : World) {ops : Array Oper} {rest : List Oper} {o : Oper} {a : Act} {Q : Exit → Act → World → Prop} (hg : o.guard = none) (it : Operand) (hop : o.op = Op.next it false)
    (b r n : Nat) (D : DataW Value) (left : Lit → Bool) (cnt : Nat) (hit : a.eval it = .pointer (some ⟨r, 0, none⟩)) (h : w.ranges Tryz.prog 9 RV b r n D left cnt)
    (hDone : Done left cnt → wpList Tryz.prog ops Q rest (a.put o.dst (.tuple #[.bool false])) w)
    (hMore : ∀ (x : List UInt8) (c : Value) (w' : World) (cnt' : Nat), Stepped w b r n D left cnt x c w' cnt' → wpList Tryz.prog ops Q rest (a.put o.dst (.tuple #[.bool true, encStr x, c])) w') :
    wpList Tryz.prog ops Q (o :: rest) a w :=
  wpList_next_ranges w hg it hop 9 key9 RV encStr id (fun key kl h => by obtain ⟨x, hx, _⟩ := Maps.keyOf_str Tryz.underlying9 h; exact ⟨x, hx⟩) (fun v y _ => ⟨v, rfl⟩) b r n D left cnt hit h
    (fun h0 hl => hDone ⟨h0, hl⟩) (fun x c kl y w' cnt' hkey hlk hR hat hrg hlt hgr hsz hen => by
      obtain ⟨x', ex, rfl, hxl⟩ := Maps.keyOf_str Tryz.underlying9 hkey
      obtain rfl := encStr_inj ex
      have hy : y = (.held c, []) := by simpa [RV] using hR.symm
      subst hy
      exact hMore x c w' cnt' ⟨hxl, hlk, hat, hrg, hlt, hgr, hsz, hen⟩)

/-- A round of 't.Keys = append(t.Keys, key)'. -/
theorem keys_round {w w1 w2 w3 : World} {b ri n : Nat} {D : DataW Value} {left : Lit → Bool} {cnt base bt N : Nat} {vS vK : Value} {kk : Int} {ss : List (List UInt8)} {x : List UInt8} {g cap : Nat}
    (hrg : w1.ranges Tryz.prog 9 RV b ri n D left cnt) (hg1 : w.grownBy w1 (some ri)) (hblk : KidBlk w bt kk vS vK) (hown : w.ownsRow base 9 1 vS ss.length (ss.map encStr)) (hri : bt < ri) (hrb : ri < base) (hb0 : b < N) (hN : N ≤ bt) (hsz : base ≤ w.heap.size)
    (hb2 : Below w1.heap.size w1 w2) (hown3 : w3.ownsRow base 9 1 (.slice (some ⟨g, 0, none⟩) (ss.length + 1) cap) (ss.length + 1) (ss.map encStr ++ [encStr x])) (hg3 : w2.grownBy w3 vS.ownBlock) :
    (w3.setCell ⟨bt, 4, none⟩ (.slice (some ⟨g, 0, none⟩) (ss.length + 1) cap)).ranges Tryz.prog 9 RV b ri n D left cnt ∧
    KidBlk (w3.setCell ⟨bt, 4, none⟩ (.slice (some ⟨g, 0, none⟩) (ss.length + 1) cap)) bt kk (.slice (some ⟨g, 0, none⟩) (ss.length + 1) cap) vK ∧
    (w3.setCell ⟨bt, 4, none⟩ (.slice (some ⟨g, 0, none⟩) (ss.length + 1) cap)).ownsRow base 9 1 (.slice (some ⟨g, 0, none⟩) (ss.length + 1) cap) (ss ++ [x]).length ((ss ++ [x]).map encStr) ∧
    Below N w (w3.setCell ⟨bt, 4, none⟩ (.slice (some ⟨g, 0, none⟩) (ss.length + 1) cap)) := by
  have ob : ∀ j, vS.ownBlock = some j → base ≤ j := fun j hj => (own_lt hown hj).1
  have s1 : w.heap.size ≤ w1.heap.size := hg1.size
  have s2 : w1.heap.size ≤ w2.heap.size := hb2.size
  have r2 := hrg.kept (below_grown hb2) (by simp) (by simp)
  have r3 := r2.kept hg3 (fun e => by have := ob _ e.symm; omega) (fun e => by have := ob _ e.symm; omega)
  have r4 := r3.kept (grownBy_setCell w3 bt 4 (.slice (some ⟨g, 0, none⟩) (ss.length + 1) cap)) (fun e => by cases e; omega) (fun e => by cases e; omega)
  have hlt := lt_of_block hblk
  have e3 : w3.heap[bt]? = some (.cells #[.int .i64 kk, .string ⟨#[]⟩, .float .f64 0, .bool false, vS, vK] 26 (0, 0)) :=
    (hg3.block bt (Nat.lt_of_lt_of_le hlt (Nat.le_trans s1 hb2.size)) (fun e => by have := ob _ e.symm; omega)).trans ((hb2.block bt (Nat.lt_of_lt_of_le hlt s1)).trans ((hg1.block bt hlt (fun e => by cases e; omega)).trans hblk))
  refine ⟨r4, heap_setCell_same _ _ _ _ _ _ e3, ?_, ?_⟩
  · have := own_kept hown3 (grownBy_setCell w3 bt 4 (.slice (some ⟨g, 0, none⟩) (ss.length + 1) cap)) (fun j hj e => by have := (own_lt hown3 hj).1; cases e; omega)
    simpa using this
  · refine Below.trans ?_ (Below.setCell_lo _ hN)
    refine ⟨hg3.os.trans (hb2.os.trans hg1.os), hg3.tape.trans (hb2.tape.trans hg1.tape), hg3.output.trans (hb2.output.trans hg1.output), Nat.le_trans s1 (Nat.le_trans hb2.size hg3.size), fun k hk => ?_⟩
    rw [hg3.block k (by omega) (fun e => by have := ob _ e.symm; omega), hb2.block k (by omega), hg1.block k (by omega) (fun e => by cases e; omega)]

theorem KL_bs (l : List UInt8) : KL (bs l) = .string l := rfl
theorem enc_bs (ls : List (List UInt8)) : (ls.map bs).map Value.string = ls.map encStr := by rw [List.map_map]; rfl

theorem sorted_keys {R : Value → T → Prop} {L : List (ByteArray × Value)} {E : List (ByteArray × T)} {ss : List (List UInt8)} {left : Lit → Bool} (hE : Ents R L E) (hC : Collected (putAll L) left ss) (hl0 : ∀ kl, left kl = false) :
    (ss.mergeSort fun x y => decide (x ≤ y)).Pairwise (· < ·) ∧ (∀ l, l ∈ (ss.mergeSort fun x y => decide (x ≤ y)) ↔ (lookL E (bs l)).isSome = true) ∧ (∀ l, l ∈ (ss.mergeSort fun x y => decide (x ≤ y)) → ∃ u t, lookL L (bs l) = some u ∧ lookL E (bs l) = some t ∧ R u t) := by
  have hperm := List.mergeSort_perm ss (fun x y => decide (x ≤ y))
  have tr : ∀ a b c : List UInt8, decide (a ≤ b) = true → decide (b ≤ c) = true → decide (a ≤ c) = true := fun a b c h1 h2 => by simp only [decide_eq_true_eq] at *; exact List.le_trans h1 h2
  have tot : ∀ a b : List UInt8, (decide (a ≤ b) || decide (b ≤ a)) = true := fun a b => by simp only [Bool.or_eq_true, decide_eq_true_eq]; exact List.le_total a b
  have hle := List.pairwise_mergeSort tr tot ss
  have hnd : (ss.mergeSort fun x y => decide (x ≤ y)).Nodup := hperm.nodup_iff.2 hC.1
  have hmem : ∀ l, l ∈ (ss.mergeSort fun x y => decide (x ≤ y)) ↔ (lookL L (bs l)).isSome = true := fun l => by
    rw [hperm.mem_iff, hC.2 l, hl0, ← KL_bs l, (putAll_look _ L rfl (bs l)).1]
    simp
  refine ⟨?_, fun l => ?_, fun l hl => ?_⟩
  · refine (hle.and hnd).imp fun {a b} h => ?_
    rcases List.le_iff_lt_or_eq.1 (by simpa using h.1) with h1 | h1
    · exact h1
    · exact absurd h1 h.2
  · rw [hmem l]
    rcases hE.look (bs l) with ⟨h1, h2⟩ | ⟨u, t, h1, h2, -⟩ <;> simp [h1, h2]
  · have h1 := (hmem l).1 hl
    rcases hE.look (bs l) with ⟨h2, h3⟩ | ⟨u, t, h2, h3, h4⟩
    · rw [h2] at h1; cases h1
    · exact ⟨u, t, h2, h3, h4⟩

theorem own_kept' {w w' : World} {base e size : Nat} {v : Value} {n : Nat} {xs : List Value} (h : w.ownsRow base e size v n xs) (hg : ∀ g, v.ownBlock = some g → w'.heap[g]? = w.heap[g]?) : w'.ownsRow base e size v n xs := by
  refine ⟨h.1, ?_⟩
  rcases h.2 with h0 | ⟨gg, cap, cur, h1, h2, h3, h4⟩
  · exact Or.inl h0
  · exact Or.inr ⟨gg, cap, cur, h1, h2, (hg gg (by rw [h1]; rfl)).trans h3, h4⟩

theorem own_low {w : World} {base base' e size : Nat} {v : Value} {n : Nat} {xs : List Value} (h : w.ownsRow base e size v n xs) (hb : base' ≤ base) : w.ownsRow base' e size v n xs := by
  refine ⟨h.1, ?_⟩
  rcases h.2 with h0 | ⟨gg, cap, cur, h1, h2, h3⟩
  · exact Or.inl h0
  · exact Or.inr ⟨gg, cap, cur, h1, Nat.le_trans hb h2, h3⟩

theorem keys_pos {L : List (ByteArray × Value)} {E : List (ByteArray × T)} {R : Value → T → Prop} {ss : List (List UInt8)} {left : Lit → Bool} (hE : Ents R L E) (hne : E ≠ []) (hC : Collected (putAll L) left ss) (hl0 : ∀ kl, left kl = false) : 0 < ss.length := by
  rcases snoc_cases L with rfl | ⟨M, ⟨k0, u⟩, rfl⟩
  · exact absurd (List.eq_nil_of_length_eq_zero (by rw [← hE.length]; rfl)) hne
  · refine List.length_pos_of_mem (a := k0.data.toList) ((hC.2 _).2 ⟨?_, hl0 _⟩)
    have h := (putAll_look _ (M ++ [(k0, u)]) rfl k0).1
    rw [lookL_snoc, if_pos ((eqB_iff _ _).2 rfl)] at h
    exact h

set_option maxHeartbeats 4000000 in
set_option maxRecDepth 100000 in
theorem mapOf_any (W : World) (F : Nat → Prop) (b : Nat) (E : List (ByteArray × T)) (hm : MapE F W b E) (hne : E ≠ []) (hl : E.length ≤ 4194304) : Calls Tryz.prog 151 #[.map (some b)] W (RetMap W E) := by
  obtain ⟨L, hL, hE⟩ := hm
  have HL := hide hL
  have HE := hide hE
  have HNE := hide hne
  have hbl : b < W.heap.size := hL.lt
  have hlen : L.length ≤ 4194304 := by rw [hE.length]; exact hl
  clear hL hE hne
  have hD : Hid (Maps.size (putAll L) ≤ L.length) := hide (World.ownsMap.size_le HL.out)
  go_enter Tryz.func151, Tryz.ntmps151
  go_wp2_with (first | (at_range; go_loud (refine wpList_range_own _ rfl _ 112 rfl 9 20 key9 Tryz.underlying112 RV b L.length (putAll L) rfl (HL.out.below (by go_grown)) ?_; intro w0 hrg0 hg0 hs0)) | go_in)
  go_frame
  simp only [World.size_alloc]
  have B0 : Hid (Below (W.heap.size + 1) (W.alloc (.cells #[.int .i64 0, .string ⟨#[]⟩, .float .f64 0, .bool false, .slice none 0 0, .slice none 0 0] 26 (0, 0))) w0) := hide ⟨hg0.os, hg0.tape, hg0.output, by have := hg0.size; simp at *; omega, fun k hk => by rw [hg0.block k (by simp; omega) (by simp), (MapKept.heap_alloc _ _).2 k (by simp; omega)]⟩
  have K0 : Hid (KidBlk w0 (W.heap.size + 1) 5 (.slice none 0 0) (.slice none 0 0)) := hide ((hg0.block _ (by simp) (by simp)).trans (heap_alloc_two _ _ _))
  have hs00 : w0.heap.size = W.heap.size + 3 := by rw [hs0]; simp
  have R0 := hide hrg0
  clear hrg0 hg0 hs0
  go_loopw [4] (fun _ wr => ∃ (ss : List (List UInt8)) (left : Lit → Bool) (cnt : Nat) (vS : Value), wr.ranges Tryz.prog 9 RV b (W.heap.size + 2) L.length (putAll L) left cnt ∧ Collected (putAll L) left ss ∧ KidBlk wr (W.heap.size + 1) 5 vS (.slice none 0 0) ∧ wr.ownsRow (W.heap.size + 3) 9 1 vS ss.length (ss.map encStr) ∧ Below (W.heap.size + 1) (W.alloc (.cells #[.int .i64 0, .string ⟨#[]⟩, .float .f64 0, .bool false, .slice none 0 0, .slice none 0 0] 26 (0, 0))) wr ∧ W.heap.size + 3 ≤ wr.heap.size ∧ ss.length + cnt ≤ L.length) (fun _ wr => wr.rangeLeft b (W.heap.size + 2))
  case atStart => exact ⟨[], _, _, _, by simpa using R0.out, Collected.start _, K0.out, ownsRow_nil _ _, B0.out, by omega, by simpa using hD.out⟩
  case round =>
    obtain ⟨ss, left, cnt, vS, hrg, hC, hblk, hown, hbw, hsz, hcl⟩ := hrel
    have HRG := hide hrg
    have HC := hide hC
    have HB := hide hblk
    have HO := hide hown
    have HBW := hide hbw
    have c4 : wr.cell? ⟨W.heap.size + 1, 4, none⟩ = some vS := by rw [cell_of_row wr _ 4 _ _ _ hblk]; rfl
    have f4 : wr.frozen? ⟨W.heap.size + 1, 4, none⟩ = false := frozen_of_row wr _ 4 _ _ hblk
    clear hrg hC hblk hown hbw
    go_wp2_with (at_next; go_loud (refine wpList_next_str _ rfl (.tmp 9) rfl b (W.heap.size + 2) L.length (putAll L) left cnt rfl HRG.out ?_ ?_))
    · intro hdone
      obtain ⟨h0, hl0⟩ := hdone
      obtain ⟨hsrt, hmem, hlook⟩ := sorted_keys HE.out HC.out hl0
      have hpos := keys_pos HE.out HNE.out HC.out hl0
      have hkl : ∀ l, l ∈ (ss.mergeSort fun x y => decide (x ≤ y)) → l.length ≤ maxLen := fun l hl => strKeys_le HRG.out.owns Tryz.underlying9 l ((Collected.perm HC.out HRG.out.owns key9 Tryz.underlying9 hl0).mem_iff.1 ((List.mergeSort_perm ss _).mem_iff.1 hl))
      rcases HO.out.2 with ⟨-, h00⟩ | ⟨gk, capk, cur, rfl, hgk, hbk, hncap, hcapm, hcs, htake⟩
      · omega
      have HKL := hide hkl
      have HSRT := hide hsrt
      have HMEM := hide hmem
      have HLOOK := hide hlook
      have HH : Hid (Holds encStr wr gk 0 ss.toArray) := hide (holds_of_block hbk (by simpa using htake))
      have hgl : gk < wr.heap.size := lt_of_block hbk
      have HBK := hide hbk
      have HCS := hide hcs
      clear h0 hl0 hsrt hmem hlook hkl hbk hcs htake
      go_wp2_with fail
      refine (Tryz.slices_Sort_string gk 0 capk ss wr HH.out hgl (by omega)).mono ?_
      rintro e w5 ⟨rfl, n5, os5, hw5⟩
      have HO5 : Hid (w5.ownsRow (W.heap.size + 3) 9 1 (.slice (some ⟨gk, 0, none⟩) ss.length capk) ss.length ((ss.mergeSort fun x y => decide (x ≤ y)).map encStr)) := hide (by rw [hw5]; exact ownsRow_sorted (by simp) hgk HBK.out hncap hcapm (by simpa using HCS.out))
      have HG5 : Hid (wr.grownBy w5 (some gk)) := hide (by rw [hw5]; exact grownBy_sorted _)
      clear hw5 HBK HCS
      have hLlen : (ss.mergeSort fun x y => decide (x ≤ y)).length = ss.length := by simp
      have HLL := hide hLlen
      obtain ⟨Ls, hLs⟩ : ∃ x, x = (ss.mergeSort fun x y => decide (x ≤ y)) := ⟨_, rfl⟩
      rw [← hLs] at HKL HSRT HMEM HLOOK HO5 HLL
      clear hLs hLlen
      have b5 : w5.heap[W.heap.size + 1]? = wr.heap[W.heap.size + 1]? := HG5.out.block _ (by omega) (some_ne (by omega))
      have K5 : Hid (KidBlk w5 (W.heap.size + 1) 5 (.slice (some ⟨gk, 0, none⟩) ss.length capk) (.slice none 0 0)) := hide (b5.trans HB.out)
      have c45 : w5.cell? ⟨W.heap.size + 1, 4, none⟩ = some (.slice (some ⟨gk, 0, none⟩) ss.length capk) := (World.cell?_of_block b5).trans c4
      have hs5 : wr.heap.size ≤ w5.heap.size := HG5.out.size
      have BW5 : Hid (Below (W.heap.size + 1) (W.alloc (.cells #[.int .i64 0, .string ⟨#[]⟩, .float .f64 0, .bool false, .slice none 0 0, .slice none 0 0] 26 (0, 0))) w5) := hide (HBW.out.trans ⟨HG5.out.os, HG5.out.tape, HG5.out.output, HG5.out.size, fun k hk => HG5.out.block k (by omega) (some_ne (by omega))⟩)
      clear b5 c4 f4
      go_wp2_with fail
      obtain ⟨B5, hB5⟩ : ∃ x, x = w5.heap.size := ⟨_, rfl⟩
      have hB5a : B5 ≤ w5.heap.size := by omega
      have hB5b : W.heap.size + 3 ≤ B5 := by omega
      have hB5c : gk < B5 := by omega
      have HB5 := hide hB5
      clear hB5
      go_loopw [26] (fun i wr => ∃ (k : Nat) (vK : Value) (kids : List Value), k ≤ ss.length ∧ i = .int .i64 k ∧ Below (W.heap.size + 1) (W.alloc (.cells #[.int .i64 0, .string ⟨#[]⟩, .float .f64 0, .bool false, .slice none 0 0, .slice none 0 0] 26 (0, 0))) wr ∧ B5 ≤ wr.heap.size ∧ (∀ j, W.heap.size + 1 < j → j < B5 → wr.heap[j]? = w5.heap[j]?) ∧ KidBlk wr (W.heap.size + 1) 5 (.slice (some ⟨gk, 0, none⟩) ss.length capk) vK ∧ KidsAt wr B5 vK kids ((Ls.take k).map fun l => (lookL E (bs l)).getD default)) (fun i _ => ss.length - (intOf i).toNat)
      case atStart => exact ⟨0, _, [], Nat.zero_le _, rfl, BW5.out, hB5a, fun _ _ _ => rfl, K5.out, KidsAt.nil _ _⟩
      case round =>
        obtain ⟨k, vK, kids, hk, rfl, hbw, hsq, hoth, hblk, hkids⟩ := hrel
        have HBQ := hide hbw
        have HBT : Hid (Below W.heap.size W wr) := hide ((show Below W.heap.size W (W.alloc (.cells #[.int .i64 0, .string ⟨#[]⟩, .float .f64 0, .bool false, .slice none 0 0, .slice none 0 0] 26 (0, 0))) by go_grown).trans (hbw.mono (by omega)))
        have HK := hide hkids
        have HKB := hide hblk
        have HOTH := hide hoth
        have c5 : wr.cell? ⟨W.heap.size + 1, 5, none⟩ = some vK := by rw [cell_of_row wr _ 5 _ _ _ hblk]; rfl
        have f5 : wr.frozen? ⟨W.heap.size + 1, 5, none⟩ = false := frozen_of_row wr _ 5 _ _ hblk
        have hlen2 : ((Ls.take k).map fun l => (lookL E (bs l)).getD default).length = k := by have := HLL.out; simp; omega
        have HLEN := hide hlen2
        have MI := hide (HL.out.below HBT.out)
        clear hbw hblk hoth hlen2 hkids
        by_cases hlt : k < ss.length
        · have hltL : k < Ls.length := by rw [HLL.out]; exact hlt
          obtain ⟨u, t, hu, ht, htl⟩ := HLOOK.out Ls[k] (List.getElem_mem hltL)
          have e0 : wr.cell? ⟨gk, k, none⟩ = some (encStr Ls[k]) := by
            have h1 := World.ownsRow.form HO5.out
            obtain ⟨a, cp, hv, -, -, hcell⟩ := h1
            obtain ⟨g', e1, -, -, hc⟩ := hcell k (encStr Ls[k]) (by simp [hltL])
            cases hv
            cases e1
            exact (World.cell?_of_block (HOTH.out gk (by omega) hB5c)).trans hc
          have hks : (bs Ls[k]).size ≤ maxLen := by rw [bs_size]; exact HKL.out _ (List.getElem_mem hltL)
          have hz20 : ∀ w : World, (zeroValue 20).run Tryz.prog w = .ok .nilIface w := fun w => by kernel_rfl
          have hlk1 := (MI.out.look Tryz.underlying112 (hz20 _) hks).1
          have hlk2 := ((MI.out.below (w' := wr.drew) ((Below.refl _ _).drew)).look Tryz.underlying112 (hz20 _) hks).1
          rw [hu] at hlk1 hlk2
          simp only [Option.getD_some] at hlk1 hlk2
          have HTL := hide htl
          have HT0 := hide ht
          have hkey : Value.string (bs Ls[k]) = encStr Ls[k] := rfl
          rw [hkey] at hlk1 hlk2
          clear hu ht htl hz20 hks hkey
          obtain ⟨l, hl⟩ : ∃ x, x = Ls[k] := ⟨_, rfl⟩
          rw [← hl] at e0 hlk1 hlk2 HT0
          have HLK := hide hl
          clear hl
          have i1 : (0 : Int) ≤ (k : Int) := by omega
          have i3 : (k : Int) < (ss.length : Int) := by omega
          go_wp2_with fail
          go_region_law (first | (refine step_append_one _ (by rfl) (.tmp 31) (.tmp 36) 24 (by rfl) B5 26 _ 6 88 Tryz.underlying24 Tryz.info26 rfl (by decide) vK k (cellsOf kids) (by rfl) (((HK.out.below HB1.out).below (by go_grown)).own HLEN.out) w1.heap.size 1 _ 26 (by rfl) (by first | exact heap_alloc_new _ _ | exact (heap_alloc_new w1 _)) rfl (by intro u hu; simp at hu; rcases hu with rfl | rfl | rfl | rfl | rfl | rfl <;> rfl) (by omega) (by omega) (by have := HB1.out.size; simp at *; omega) ?_; intro g cp w3 hown3 hgrow3 hat3; have HO3 := hide hown3; have HG3 := hide hgrow3; have HA3 := hide hat3; have b3 := HK.out.far (HB1.out.alloc HB1.out.size _) hgrow3 (b := W.heap.size + 1) (by omega) (by omega); have c53 : w3.cell? ⟨W.heap.size + 1, 5, none⟩ = some vK := (World.cell?_of_block b3).trans c5; have f53 : w3.frozen? ⟨W.heap.size + 1, 5, none⟩ = false := (World.frozen?_of_block b3).trans f5; clear b3 hown3 hgrow3 hat3) | (go_simp; go_at_call 127; refine (HTL.out _ (Same.of_below HBT.out.drew) HBT.out.drew.size).mono ?_; rintro e w1 ⟨v, rfl, ht, hb⟩; obtain ⟨a1, cap1, a2, cap2, cc, rfl, -⟩ := ht.open; have HT := hide ht; have HB1 : Hid (Below wr.heap.size wr w1) := hide (Below.trans (by go_grown) hb); have c5' : w1.cell? ⟨W.heap.size + 1, 5, none⟩ = some vK := (hb.cell (by simp; omega)).trans c5; have f5' : w1.frozen? ⟨W.heap.size + 1, 5, none⟩ = false := (hb.frozen (by simp; omega)).trans f5; have c5a : ∀ o, (w1.alloc o).cell? ⟨W.heap.size + 1, 5, none⟩ = some vK := fun o => (World.cell?_alloc_lt _ _ _ (World.block_lt_of_cell? _ _ c5')).trans c5'; clear ht hb))
          all_goals
            go_wp2_with fail
            go_round
            case rel =>
              obtain ⟨r1, r2, r3⟩ := KidsAt.round (n := W.heap.size + 1) HK.out HLEN.out.symm hsq (HB1.out.alloc HB1.out.size _) (HT.out.same (Same.of_below (by go_grown))) HO3.out HG3.out HA3.out HKB.out (by omega) (by omega)
              have e9 : ((Ls.take (k + 1)).map fun l => (lookL E (bs l)).getD default) = ((Ls.take k).map fun l => (lookL E (bs l)).getD default) ++ [t] := by
                have hltL : k < Ls.length := by rw [HLL.out]; exact hlt
                rw [List.take_succ_eq_append_getElem hltL, List.map_append]
                simp only [List.map_cons, List.map_nil]
                rw [← HLK.out, HT0.out]; rfl
              rw [← e9] at r2
              refine ⟨k + 1, _, _, by omega, by go_num, HBQ.out.trans r3, Nat.le_trans hsq r3.size, fun j h1 h2 => ?_, r1, r2⟩
              have hf := HK.out.far (HB1.out.alloc HB1.out.size _) HG3.out (b := j) h2 (by omega)
              rw [heap_setCell_other _ _ _ _ (by simp; omega), hf]
              exact HOTH.out j h1 h2
            case measure => simp [intOf]; omega
        · have hke : Ls.take k = Ls := List.take_of_length_le (by rw [HLL.out]; omega)
          have HKE : Hid (KidsAt wr B5 vK kids (Ls.map fun l => (lookL E (bs l)).getD default)) := hide (by have := HK.out; rw [hke] at this; exact this)
          obtain ⟨a2, cap2, hvk, -⟩ := World.ownsRow.form HKE.out.1
          rw [List.length_map] at hvk
          subst hvk
          clear hke HK
          have hb0 : wr.heap[W.heap.size]? = some (.cells #[.int .i64 0, .string ⟨#[]⟩, .float .f64 0, .bool false, .slice none 0 0, .slice none 0 0] 26 (0, 0)) := (HBQ.out.block _ (by omega)).trans (heap_alloc_new _ _)
          have d0 : wr.cell? ⟨W.heap.size + 1, 0, none⟩ = some (.int .i64 5) := by rw [cell_of_row wr _ 0 _ _ _ HKB.out]; rfl
          have d1 : wr.cell? ⟨W.heap.size + 1, 1, none⟩ = some (.string ⟨#[]⟩) := by rw [cell_of_row wr _ 1 _ _ _ HKB.out]; rfl
          have d2 : wr.cell? ⟨W.heap.size + 1, 2, none⟩ = some (.float .f64 0) := by rw [cell_of_row wr _ 2 _ _ _ HKB.out]; rfl
          have d3 : wr.cell? ⟨W.heap.size + 1, 3, none⟩ = some (.bool false) := by rw [cell_of_row wr _ 3 _ _ _ HKB.out]; rfl
          have d4 : wr.cell? ⟨W.heap.size + 1, 4, none⟩ = some (.slice (some ⟨gk, 0, none⟩) ss.length capk) := by rw [cell_of_row wr _ 4 _ _ _ HKB.out]; rfl
          have d5 : wr.cell? ⟨W.heap.size + 1, 5, none⟩ = some (.slice a2 Ls.length cap2) := by rw [cell_of_row wr _ 5 _ _ _ HKB.out]; rfl
          have c0 : wr.cell? ⟨W.heap.size, 0, none⟩ = some (.int .i64 0) := by rw [cell_of_row wr _ 0 _ _ _ hb0]; rfl
          have c1 : wr.cell? ⟨W.heap.size, 1, none⟩ = some (.string ⟨#[]⟩) := by rw [cell_of_row wr _ 1 _ _ _ hb0]; rfl
          have c2 : wr.cell? ⟨W.heap.size, 2, none⟩ = some (.float .f64 0) := by rw [cell_of_row wr _ 2 _ _ _ hb0]; rfl
          have c3 : wr.cell? ⟨W.heap.size, 3, none⟩ = some (.bool false) := by rw [cell_of_row wr _ 3 _ _ _ hb0]; rfl
          have c4 : wr.cell? ⟨W.heap.size, 4, none⟩ = some (.slice none 0 0) := by rw [cell_of_row wr _ 4 _ _ _ hb0]; rfl
          have c5 : wr.cell? ⟨W.heap.size, 5, none⟩ = some (.slice none 0 0) := by rw [cell_of_row wr _ 5 _ _ _ hb0]; rfl
          have hf : ∀ j, wr.frozen? ⟨W.heap.size, j, none⟩ = false := fun j => frozen_of_row wr _ j _ _ hb0
          have HZ := hide (set6 hb0 (.int .i64 5) (.string ⟨#[]⟩) (.float .f64 0) (.bool false) (.slice (some ⟨gk, 0, none⟩) ss.length capk) (.slice a2 Ls.length cap2))
          have HS := hide (same6 (ok := newB (W.heap.size + 1)) (w1 := wr) (b := W.heap.size) (by simp [newB]) (.int .i64 5) (.string ⟨#[]⟩) (.float .f64 0) (.bool false) (.slice (some ⟨gk, 0, none⟩) ss.length capk) (.slice a2 Ls.length cap2))
          have HL9 := hide (below6 (w1 := wr) (Nat.le_refl (W.heap.size)) (.int .i64 5) (.string ⟨#[]⟩) (.float .f64 0) (.bool false) (.slice (some ⟨gk, 0, none⟩) ss.length capk) (.slice a2 Ls.length cap2))
          clear hb0
          go_wp2_with fail
          generalize ((((((wr.setCell ⟨W.heap.size, 0, none⟩ (.int .i64 5)).setCell ⟨W.heap.size, 1, none⟩ (.string ⟨#[]⟩)).setCell ⟨W.heap.size, 2, none⟩ (.float .f64 0)).setCell ⟨W.heap.size, 3, none⟩ (.bool false)).setCell ⟨W.heap.size, 4, none⟩ (.slice (some ⟨gk, 0, none⟩) ss.length capk)).setCell ⟨W.heap.size, 5, none⟩ (.slice a2 Ls.length cap2)) = wz at *
          have e0 : wz.cell? ⟨W.heap.size, 0, none⟩ = some (.int .i64 5) := by rw [cell_of_row wz _ 0 _ _ _ HZ.out]; rfl
          have e1 : wz.cell? ⟨W.heap.size, 1, none⟩ = some (.string ⟨#[]⟩) := by rw [cell_of_row wz _ 1 _ _ _ HZ.out]; rfl
          have e2 : wz.cell? ⟨W.heap.size, 2, none⟩ = some (.float .f64 0) := by rw [cell_of_row wz _ 2 _ _ _ HZ.out]; rfl
          have e3 : wz.cell? ⟨W.heap.size, 3, none⟩ = some (.bool false) := by rw [cell_of_row wz _ 3 _ _ _ HZ.out]; rfl
          have e4 : wz.cell? ⟨W.heap.size, 4, none⟩ = some (.slice (some ⟨gk, 0, none⟩) ss.length capk) := by rw [cell_of_row wz _ 4 _ _ _ HZ.out]; rfl
          have e5 : wz.cell? ⟨W.heap.size, 5, none⟩ = some (.slice a2 Ls.length cap2) := by rw [cell_of_row wz _ 5 _ _ _ HZ.out]; rfl
          refine bodyPost_ret (by simp [results, Tryz.results151, go_sem, e0, e1, e2, e3, e4, e5]; try rfl) rfl ?_
          refine ⟨_, .mk 5 ⟨#[]⟩ 0 false (Ls.map bs) (Ls.map fun l => (lookL E (bs l)).getD default), rfl, ?_, ⟨Ls, HSRT.out, HMEM.out, rfl⟩, ?_⟩
          · refine TreeAt.weaken (ok := newB (W.heap.size + 1)) (fun k hk _ => by unfold newB at *; omega) ?_
            refine TreeAt.same HS.out ?_
            have hk1 : wr.ownsRow (W.heap.size + 3) 9 1 (.slice (some ⟨gk, 0, none⟩) ss.length capk) ss.length (Ls.map encStr) := own_kept' HO5.out (fun g hg => by cases hg; exact HOTH.out gk (by omega) hB5c)
            exact tree_of_own (t := .mk 5 ⟨#[]⟩ 0 false (Ls.map bs) (Ls.map fun l => (lookL E (bs l)).getD default)) (base := W.heap.size + 3) (by rw [show (T.mk 5 ⟨#[]⟩ 0 false (Ls.map bs) (Ls.map fun l => (lookL E (bs l)).getD default)).keys = Ls.map bs from rfl, enc_bs, List.length_map, HLL.out]; exact hk1) (own_low HKE.out.1 hB5b) (HKE.out.2.weaken (fun k hk _ => by unfold newB; omega)) (fun k hk => by have := (own_lt hk1 hk).1; unfold newB; omega) (fun k hk => by have := (own_lt HKE.out.1 hk).1; unfold newB; omega)
          · exact ((show Below W.heap.size W (W.alloc (.cells #[.int .i64 0, .string ⟨#[]⟩, .float .f64 0, .bool false, .slice none 0 0, .slice none 0 0] 26 (0, 0))) by go_grown).trans (HBQ.out.mono (by omega))).trans HL9.out
    · intro x c w1 cnt1 hst
      have HST := hide hst
      obtain ⟨hxl, hlk, hat, hrg1, hlt1, hg1, hs1, hen⟩ := hst
      have HC1 := hide (HC.out.step hlk hat)
      have HG1 := hide hg1
      have HR1 := hide hrg1
      have HLT := hide hlt1
      have b1 : w1.heap[W.heap.size + 1]? = wr.heap[W.heap.size + 1]? := hg1.block _ (by omega) (some_ne (by omega))
      have c41 : w1.cell? ⟨W.heap.size + 1, 4, none⟩ = some vS := (World.cell?_of_block b1).trans c4
      have f41 : w1.frozen? ⟨W.heap.size + 1, 4, none⟩ = false := (World.frozen?_of_block b1).trans f4
      have HO1 := hide (own_kept HO.out hg1 (fun j hj e => by have := (own_lt HO.out hj).1; cases e; omega))
      have hsz1 : W.heap.size + 3 ≤ w1.heap.size := by rw [hs1]; exact hsz
      have hcl1 : ss.length + 1 + cnt1 ≤ L.length := by omega
      clear hlk hat hrg1 hlt1 hg1 hs1 b1
      go_wp2_with (first | (at_builtin; go_loud (refine wpList_append_one _ rfl (.tmp 15) (.tmp 17) 23 rfl (W.heap.size + 3) 9 _ 1 16 Tryz.underlying23 Tryz.info9 rfl (by decide) vS _ (ss.map encStr) rfl (HO1.out.alloc _) w1.heap.size 1 _ 9 rfl (heap_alloc_new w1 _) rfl (by intro u hu; simp at hu; rcases hu with rfl; rfl) (by omega) (by omega) (by simp; omega) ?_; intro g cp w3 hown3 hgrow3 hat3; have HO3 := hide hown3; have HG3 := hide hgrow3; have bb := (hgrow3.block (W.heap.size + 1) (by simp; omega) (fun e => by have := (own_lt HO1.out e.symm).1; omega)).trans ((MapKept.heap_alloc w1 _).2 _ (by omega)); have c43 : w3.cell? ⟨W.heap.size + 1, 4, none⟩ = some vS := (World.cell?_of_block bb).trans c41; have f43 : w3.frozen? ⟨W.heap.size + 1, 4, none⟩ = false := (World.frozen?_of_block bb).trans f41; clear bb hown3 hgrow3 hat3)) | go_in)
      go_round
      case rel =>
        obtain ⟨r1, r2, r3, r4⟩ := keys_round (N := W.heap.size + 1) HR1.out HG1.out HB.out HO.out (by omega) (by omega) (by omega) (by omega) hsz (by go_grown) HO3.out HG3.out
        exact ⟨_, _, _, _, r1, HC1.out, r2, r3, HBW.out.trans r4, Nat.le_trans hsz r4.size, by simp; omega⟩
      case measure =>
        obtain ⟨r1, r2, r3, r4⟩ := keys_round (N := W.heap.size + 1) HR1.out HG1.out HB.out HO.out (by omega) (by omega) (by omega) (by omega) hsz (by go_grown) HO3.out HG3.out
        rw [r1.left_eq, HRG.out.left_eq]
        exact HLT.out
end Go.Proofs.YtbcnhcpgloncdaaGreatDoor
