/-
  WHAT Source OF A multi_match QUERY GIVES. (Printed by gen/source.py.)
-/
import Derived.Test.YtbcnhcpgloncdaaGreatDoorA4
import Derived.Test.YtbcnhcpgloncdaaGreatDoorA12
import Derived.Test.YtbcnhcpgloncdaaGreatDoorD5
namespace Go.Proofs.YtbcnhcpgloncdaaGreatDoor
open Go.RowKit Go.Sort Go.ChangeMaps Go.MapKept Go.Lib
open Go.Maps (Keyed has IsMap)

def entsMM (bt : Nat → List UInt8) (t0 : T) (q : Q) : List (ByteArray × T) := ((((((((((((((((([(bs [113, 117, 101, 114, 121], t0)] ++ [(bs [102, 105, 101, 108, 100, 115], tList (fieldTexts bt q))]) ++ ent [116, 121, 112, 101] (fvT (q.f 3))) ++ ent [111, 112, 101, 114, 97, 116, 111, 114] (fvT (q.f 4))) ++ ent [97, 110, 97, 108, 121, 122, 101, 114] (fvT (q.f 5))) ++ ent [98, 111, 111, 115, 116] (fvT (q.f 6))) ++ ent [115, 108, 111, 112] (fvT (q.f 7))) ++ ent [102, 117, 122, 122, 105, 110, 101, 115, 115] (fvT (q.f 8))) ++ ent [112, 114, 101, 102, 105, 120, 95, 108, 101, 110, 103, 116, 104] (fvT (q.f 9))) ++ ent [109, 97, 120, 95, 101, 120, 112, 97, 110, 115, 105, 111, 110, 115] (fvT (q.f 10))) ++ ent [109, 105, 110, 105, 109, 117, 109, 95, 115, 104, 111, 117, 108, 100, 95, 109, 97, 116, 99, 104] (fvT (q.f 11))) ++ ent [114, 101, 119, 114, 105, 116, 101] (fvT (q.f 12))) ++ ent [102, 117, 122, 122, 121, 95, 114, 101, 119, 114, 105, 116, 101] (fvT (q.f 13))) ++ ent [116, 105, 101, 95, 98, 114, 101, 97, 107, 101, 114] (fvT (q.f 14))) ++ ent [108, 101, 110, 105, 101, 110, 116] (fvT (q.f 15))) ++ ent [99, 117, 116, 111, 102, 102, 95, 102, 114, 101, 113, 117, 101, 110, 99, 121] (fvT (q.f 16))) ++ ent [122, 101, 114, 111, 95, 116, 101, 114, 109, 115, 95, 113, 117, 101, 114, 121] (fvT (q.f 17))) ++ ent [95, 110, 97, 109, 101] (fvT (q.f 18)))

set_option maxHeartbeats 16000000 in
set_option maxRecDepth 100000 in
theorem source_53 {W : World} {lo bq : Nat} {q : Q} {okx : Nat → Prop} (bt : Nat → List UInt8) (HFF : ∀ (x : Nat) (w : World), okx x → Glob w → Calls Tryz.prog 128 #[.float .f64 x, .int .u8 102, .int .i64 6, .int .i64 64] w (RetText w (bt x))) (hbt : ∀ x, okx x → (bt x).length ≤ 1000)
    (h : QAt W lo bq gMM q) (hG : Glob W) (hsh : Shaped qtMM q) (u0 : Value) (t0 : T) (h0 : q.f 0 = .val u0) (hu0 : ∃ t x, u0 = .iface t x) (ht0 : ∀ F w, TellsF F w u0 t0)
    (hbo : ∀ p ∈ q.boosts, okx p.2) (hfs : ∀ f ∈ q.fields, f.size ≤ 1099511627776) (hln : q.fields.length ≤ 4194304) :
    Calls Tryz.prog 53 #[.pointer (some ⟨bq, 0, none⟩)] W (RetSrc W fun t => t = mapTree [(bs [109, 117, 108, 116, 105, 95, 109, 97, 116, 99, 104], mapTree (entsMM bt t0 q))]) := by
  obtain ⟨ut, ux, rfl⟩ := hu0
  have HT0 := hide ht0
  clear ht0
  have HFF' := hide HFF
  have H := hide h
  have HG := hide hG
  have HSH := hide hsh
  have HBO := hide hbo
  have HFS := hide hfs
  obtain ⟨vF, hcF, hsF⟩ := h.fieldsAt
  obtain ⟨bm, hcB, hbA, hbm⟩ := h.boostAt
  obtain ⟨v0, hc0, hf0⟩ := h.field 0 (by decide) (by decide) (by decide)
  rw [h0] at hf0
  obtain rfl : v0 = .iface ut ux := hf0
  dsimp only [gMM] at hcF hcB
  obtain ⟨aF, capF, rfl, hcapF, hcellF⟩ := hsF
  have HCF := hide hcellF
  have HBA := hide hbA
  have hbq := h.lt
  have hmk : ∀ w : World, (Instr.makeMap 112 none).run Tryz.prog w = .ok (.map (some w.heap.size)) (w.alloc (.map #[] 0)) := run_makeMap 112
  have HFTL : Hid ((fieldTexts bt q).length = q.fields.length) := hide (by simp [fieldTexts])
  clear h hG hsh hbo hfs hcellF hbA h0 HFF
  go_enter Tryz.func53, Tryz.ntmps53
  go_upto_region 4 with (first | (at_mapUpdate; refine wpList_mapUpdate_own _ rfl (.tmp 13) _ (.tmp 15) 112 rfl 9 20 key9 Tryz.underlying112 RV W.heap.size 0 (putAll []) rfl (MapIs.same (MapIs.made W) ((MapKept.heap_alloc _ _).2 _ (by simp))) (by unfold maxLen; omega) _ _ (KL (bs [109, 117, 108, 116, 105, 95, 109, 97, 116, 99, 104])) rfl rfl (key_ok (by decide)) (.held (.iface 112 (.map (some (W.heap.size + 1))))) [] rfl ?_; intro w1 hm1 hg1) | go_in)
  have HB : Hid (Below W.heap.size W w1) := hide ((show Below W.heap.size W ((W.alloc (.map #[] 0)).alloc (.map #[] 0)) by go_grown).trans ⟨hg1.os, hg1.tape, hg1.output, hg1.size, fun k hk => hg1.block k (by simp; omega) (some_ne (by omega))⟩)
  have hi0 : MapIs ((W.alloc (.map #[] 0)).alloc (.map #[] 0)) (W.heap.size + 1) [] := by have := MapIs.made (W.alloc (.map #[] 0)); rw [World.size_alloc] at this; exact this
  have HM : Hid (MapIs w1 W.heap.size [(bs [109, 117, 108, 116, 105, 95, 109, 97, 116, 99, 104], .iface 112 (.map (some (W.heap.size + 1))))]) := hide (mapIs_put (L := []) hm1)
  have HI : Hid (MapIs w1 (W.heap.size + 1) []) := hide (hi0.same (hg1.block _ hi0.lt (some_ne (by omega))))
  clear hm1 hg1 hi0
  have hx0 : w1.cell? ⟨bq, 0, none⟩ = some (.iface ut ux) := (HB.out.cell hbq).trans hc0
  go_upto_region 5 with (first | (at_mapUpdate; refine wpList_mapUpdate_own _ rfl _ _ _ 112 rfl 9 20 key9 Tryz.underlying112 RV (W.heap.size + 1) 0 (putAll []) rfl HI.out (by unfold maxLen; omega) _ _ (KL (bs [113, 117, 101, 114, 121])) rfl rfl (key_ok (by decide)) (.held (.iface ut ux)) [] rfl ?_; intro w2 hm4 hg4; have HM4 := hide hm4; have HG4 := hide hg4; clear hm4 hg4) | go_in)
  have HB2 : Hid (Below W.heap.size W w2) := hide (HB.out.trans ⟨HG4.out.os, HG4.out.tape, HG4.out.output, HG4.out.size, fun k hk => HG4.out.block k (by have := HB.out.size; omega) (some_ne (by omega))⟩)
  have HE2 : Hid (MapE (notB W.heap.size) w2 (W.heap.size + 1) ([] ++ [(bs [113, 117, 101, 114, 121], t0)])) := hide (MapE.put (F := notB W.heap.size) .nil (HT0.out _ _) HG4.out (by simp [notB]) (mapIs_put (L := []) HM4.out))
  have HM2 : Hid (MapIs w2 W.heap.size [(bs [109, 117, 108, 116, 105, 95, 109, 97, 116, 99, 104], .iface 112 (.map (some (W.heap.size + 1))))]) := hide (HM.out.same (HG4.out.block _ HM.out.lt (some_ne (by omega))))
  clear HB HM HI HM4 HG4 hx0
  have hxF : w2.cell? ⟨bq, 1, none⟩ = some (.slice aF q.fields.length capF) := (HB2.out.cell hbq).trans hcF
  have hsz2 : W.heap.size + 2 ≤ w2.heap.size := HE2.out.lt
  go_wp2_with fail
  go_loopw [6, 26] (fun vT i wr => ∃ k : Nat, k ≤ q.fields.length ∧ i = .int .i64 k ∧ Below w2.heap.size w2 wr ∧ wr.ownsRow w2.heap.size 9 1 vT k (((fieldTexts bt q).take k).map Value.string)) (fun _ i _ => q.fields.length - (intOf i).toNat)
  case atStart => exact ⟨0, Nat.zero_le _, rfl, by go_grown, ownsRow_nil _ _⟩
  case round =>
    obtain ⟨k, hk, rfl, hbl, hown⟩ := hrel
    have HBL := hide hbl
    have HO := hide hown
    have HBW := hide (HB2.out.trans (hbl.mono HB2.out.size))
    clear hbl hown
    by_cases hlt : k < q.fields.length
    · have HFK : Hid (((fieldTexts bt q).take (k + 1)).map Value.string = (((fieldTexts bt q).take k).map Value.string) ++ [.string (fieldText bt q.boosts q.fields[k])]) := hide (by
        have h9 : k < (fieldTexts bt q).length := by rw [HFTL.out]; exact hlt
        rw [List.take_succ_eq_append_getElem h9, List.map_append]
        simp [fieldTexts])
      obtain ⟨b0, o0, rfl, -, hcell⟩ := HCF.out k q.fields[k] (by simp)
      have hbl0 : b0 < W.heap.size := World.block_lt_of_cell? W _ hcell
      have e0 : wr.cell? ⟨b0, o0 + k, none⟩ = some (.string q.fields[k]) := (HBW.out.cell hbl0).trans hcell
      have eB : wr.cell? ⟨bq, 2, none⟩ = some (.map (some bm)) := (HBW.out.cell hbq).trans hcB
      have i1 : (0 : Int) ≤ (k : Int) := by omega
      have i3 : (k : Int) < (q.fields.length : Int) := by omega
      have hks : q.fields[k].size ≤ maxLen := by have := HFS.out _ (List.getElem_mem hlt); unfold maxLen; omega
      have HLKS := hide ((HBA.out.kept (loose_none W) (below_grown HBW.out)).look hks)
      obtain ⟨fk, hfk⟩ : ∃ x, x = q.fields[k] := ⟨_, rfl⟩
      rw [← hfk] at e0 HFK HLKS
      have HFKE := hide hfk
      clear hcell hks hfk
      rcases HLKS.out with ⟨hn, hlk⟩ | ⟨x, p, hsm, hp, hlk⟩
      · have HFT : Hid (fieldText bt q.boosts fk = fk) := hide (by simp [fieldText, hn])
        clear hn
        go_wp2_with (first | (at_builtin; go_loud (refine wpList_append_one _ rfl (.tmp 56) (.tmp 58) 23 rfl w2.heap.size 9 _ 1 16 Tryz.underlying23 Tryz.info9 rfl (by decide) u6 k (((fieldTexts bt q).take k).map Value.string) rfl (HO.out.alloc _) wr.heap.size 1 #[.string fk] 9 rfl (heap_alloc_new _ _) rfl (by simp [Value.oneCell']) (by omega) (by omega) (by have := HBL.out.size; simp; omega) ?_; intro g cp w3 hown3 hgrow3 hat3; have HO3 := hide hown3; have HG3 := hide hgrow3; clear hown3 hgrow3 hat3)) | go_in)
        go_round
        case rel =>
          refine ⟨k + 1, by omega, by go_num, HBL.out.trans ?_, ?_⟩
          · exact (show Below w2.heap.size wr (wr.alloc (.cells #[.string fk] 9 (0, 0))) from (Below.refl _ _).alloc HBL.out.size _).trans ⟨HG3.out.os, HG3.out.tape, HG3.out.output, HG3.out.size, fun j hj => HG3.out.block j (by have := HBL.out.size; simp; omega) (fun e => by have := (own_lt HO.out e.symm).1; omega)⟩
          · rw [HFK.out, HFT.out]; exact HO3.out
        case measure => simp [intOf]; omega
      · have hpc : wr.cell? ⟨p, 0, none⟩ = some (.float .f64 x) := by rw [cell_of_row wr p 0 _ _ _ hp]; rfl
        have hbx := HBO.out _ (lookL_mem hsm)
        have HBX := hide hbx
        have HFT : Hid (fieldText bt q.boosts fk = fk ++ ⟨#[94]⟩ ++ bs (bt x)) := hide (by simp [fieldText, hsm])
        have hfk1 : fk.size ≤ 1099511627776 := by have := HFS.out _ (List.getElem_mem hlt); rw [← HFKE.out] at this; exact this
        have hcat1 : ∀ w : World, (Op.stringOp .add fk ⟨#[94]⟩).run Tryz.prog w = .ok (.string (fk ++ ⟨#[94]⟩)) w := fun w => run_string_add_sum _ _ _ (by have : (⟨#[94]⟩ : ByteArray).size = 1 := rfl; omega)
        have hcat2 : ∀ w : World, (Op.stringOp .add (fk ++ ⟨#[94]⟩) (bs (bt x))).run Tryz.prog w = .ok (.string (fk ++ ⟨#[94]⟩ ++ bs (bt x))) w := fun w => run_string_add_sum _ _ _ (by have h1 : (⟨#[94]⟩ : ByteArray).size = 1 := rfl; have h2 := hbt x hbx; rw [ByteArray.size_append, bs_size]; omega)
        clear hsm hp hbx
        go_wp2_with fail
        refine (HFF'.out x _ HBX.out (HG.out.below HBW.out)).mono ?_
        rintro e w9 ⟨rfl, hb9⟩
        have HB9 := hide hb9
        have HO9 := hide (ownsRow_kept HO.out hb9)
        have hsz9 : w2.heap.size ≤ w9.heap.size := Nat.le_trans HBL.out.size hb9.size
        clear hb9
        go_wp2_with (first | (at_builtin; go_loud (refine wpList_append_one _ rfl (.tmp 42) (.tmp 50) 23 rfl w2.heap.size 9 _ 1 16 Tryz.underlying23 Tryz.info9 rfl (by decide) u6 k (((fieldTexts bt q).take k).map Value.string) rfl (HO9.out.alloc _) w9.heap.size 1 #[.string _] 9 rfl (heap_alloc_new _ _) rfl (by simp [Value.oneCell']) (by omega) (by omega) (by have := HBL.out.size; simp; omega) ?_; intro g cp w3 hown3 hgrow3 hat3; have HO3 := hide hown3; have HG3 := hide hgrow3; clear hown3 hgrow3 hat3)) | go_in)
        go_round
        case rel =>
          refine ⟨k + 1, by omega, by go_num, HBL.out.trans ((HB9.out.mono HBL.out.size).trans ?_), ?_⟩
          · exact (show Below w2.heap.size w9 (w9.alloc _) from (Below.refl _ _).alloc hsz9 _).trans ⟨HG3.out.os, HG3.out.tape, HG3.out.output, HG3.out.size, fun j hj => HG3.out.block j (by simp; omega) (fun e => by have := (own_lt HO9.out e.symm).1; omega)⟩
          · rw [HFK.out, HFT.out]; exact HO3.out
        case measure => simp [intOf]; omega
    · obtain rfl : k = q.fields.length := by omega
      have HOF : Hid (wr.ownsRow w2.heap.size 9 1 u6 (fieldTexts bt q).length ((fieldTexts bt q).map Value.string)) := hide (by have := HO.out; rw [← HFTL.out, List.take_length] at this; exact this)
      have HMr := hide (HM2.out.below (HBL.out))
      have HEr := hide (HE2.out.mono (Same.of_below HBL.out) HBL.out.size (HBL.out.block _ HE2.out.lt))
      obtain ⟨L, hL, hent⟩ := HEr.out
      have HL := hide hL
      have HENT := hide hent
      have HLN : Hid (L.length = 1) := hide hent.length
      obtain ⟨a9, cap9, hv9, -⟩ := World.ownsRow.form HOF.out
      subst hv9
      have HTL : Hid (TellsF (notB W.heap.size) wr (.iface 23 (.slice a9 (fieldTexts bt q).length cap9)) (tList (fieldTexts bt q))) := hide (tells_list (strs_of_own HOF.out (fun j hj => by have := (own_lt HOF.out hj).1; unfold notB; omega)) (by rw [HFTL.out]; omega))
      have HB := hide (HBW.out)
      have HM := hide HMr.out
      clear hL hent HEr HMr HBW HO
      have heqs : ∀ w : World, (binOp .eql 23 (.slice a9 (fieldTexts bt q).length cap9) (.slice none 0 0)).run Tryz.prog w = .ok (.bool a9.isNone) w := run_slice_nil a9 _ cap9
      go_upto_if 62 with fail
      go_cut [] from 61 to 68 (fun wn => Below W.heap.size W wn ∧ MapIs wn W.heap.size [(bs [109, 117, 108, 116, 105, 95, 109, 97, 116, 99, 104], .iface 112 (.map (some (W.heap.size + 1))))] ∧ MapE (notB W.heap.size) wn (W.heap.size + 1) ([] ++ [(bs [113, 117, 101, 114, 121], t0)] ++ [(bs [102, 105, 101, 108, 100, 115], tList (fieldTexts bt q))]))
      case first =>
        cases a9 with
        | none =>
          have hft : fieldTexts bt q = [] := by
            rcases HOF.out.2 with ⟨-, hn⟩ | ⟨g, cap, cur, hv, -⟩
            · exact List.eq_nil_of_length_eq_zero hn
            · cases hv
          have HFT0 := hide hft
          have HTL2 : Hid (TellsF (notB W.heap.size) (wr.alloc (.cells #[] 9 (0, 0))) (.iface 23 (.slice (some ⟨wr.heap.size, 0, none⟩) 0 0)) (tList (fieldTexts bt q))) := hide (by rw [hft]; exact tells_list ⟨_, 0, rfl, Nat.le_refl _, fun i k h => by simp at h⟩ (by simp))
          have hba : Below wr.heap.size wr (wr.alloc (.cells #[] 9 (0, 0))) := by go_grown
          have HENT2 := hide (HENT.out.mono (fun u t r => TellsF.mono r (Same.of_below hba) hba.size))
          have HL2 := hide (HL.out.below hba)
          have HBA2 := hide hba
          clear hft hba
          go_wp2_with (first | (at_mapUpdate; refine wpList_mapUpdate_own _ rfl _ _ _ 112 rfl 9 20 key9 Tryz.underlying112 RV (W.heap.size + 1) L.length (putAll L) rfl HL2.out (by rw [HLN.out]; unfold maxLen; omega) _ _ (KL (bs [102, 105, 101, 108, 100, 115])) rfl rfl (key_ok (by decide)) (.held (.iface 23 (.slice (some ⟨wr.heap.size, 0, none⟩) 0 0))) [] rfl ?_; intro wn hm4 hg4; have HM4 := hide hm4; have HG4 := hide hg4; clear hm4 hg4) | go_in)
          go_meet
          have hbn : Below W.heap.size W wn := (HB.out.trans (HBA2.out.mono HB.out.size)).trans ⟨HG4.out.os, HG4.out.tape, HG4.out.output, HG4.out.size, fun k hk => HG4.out.block k (by have := HB.out.size; simp; omega) (some_ne (by omega))⟩
          have hen := MapE.put (F := notB W.heap.size) HENT2.out HTL2.out HG4.out (by simp [notB]) (mapIs_put HM4.out)
          have hmn : MapIs wn W.heap.size [(bs [109, 117, 108, 116, 105, 95, 109, 97, 116, 99, 104], .iface 112 (.map (some (W.heap.size + 1))))] := (HM.out.below HBA2.out).same (HG4.out.block _ (Nat.lt_of_lt_of_le HM.out.lt HBA2.out.size) (some_ne (by omega)))
          exact ⟨hbn, hmn, hen⟩
        | some ad =>
          go_wp2_with (first | (at_mapUpdate; refine wpList_mapUpdate_own _ rfl _ _ _ 112 rfl 9 20 key9 Tryz.underlying112 RV (W.heap.size + 1) L.length (putAll L) rfl HL.out (by rw [HLN.out]; unfold maxLen; omega) _ _ (KL (bs [102, 105, 101, 108, 100, 115])) rfl rfl (key_ok (by decide)) (.held (.iface 23 (.slice (some ad) (fieldTexts bt q).length cap9))) [] rfl ?_; intro wn hm4 hg4; have HM4 := hide hm4; have HG4 := hide hg4; clear hm4 hg4) | go_in)
          go_meet
          have hbn : Below W.heap.size W wn := HB.out.trans ⟨HG4.out.os, HG4.out.tape, HG4.out.output, HG4.out.size, fun k hk => HG4.out.block k (by have := HB.out.size; omega) (some_ne (by omega))⟩
          have hen := MapE.put (F := notB W.heap.size) HENT.out HTL.out HG4.out (by simp [notB]) (mapIs_put HM4.out)
          have hmn : MapIs wn W.heap.size [(bs [109, 117, 108, 116, 105, 95, 109, 97, 116, 99, 104], .iface 112 (.map (some (W.heap.size + 1))))] := HM.out.same (HG4.out.block _ HM.out.lt (some_ne (by omega)))
          exact ⟨hbn, hmn, hen⟩
      clear HB HM HL HENT HLN HTL HOF
      obtain ⟨hb, hm, he⟩ := hcut
      have HB := hide hb
      have HM := hide hm
      obtain ⟨E0, hE'⟩ : ∃ x, x = ([] ++ [(bs [113, 117, 101, 114, 121], t0)] ++ [(bs [102, 105, 101, 108, 100, 115], tList (fieldTexts bt q))]) := ⟨_, rfl⟩
      rw [← hE'] at he
      have HE := hide he
      have HEQ0 : Hid (E0 = ([] ++ [(bs [113, 117, 101, 114, 121], t0)] ++ [(bs [102, 105, 101, 108, 100, 115], tList (fieldTexts bt q))])) := hide hE'
      have hel0 : E0.length ≤ 2 := by rw [hE']; simp
      clear hb hm he hE'
      -- type
      obtain ⟨L, hL, hent⟩ := HE.out
      have HL := hide hL
      have HENT := hide hent
      have HLN := hide hent.length
      clear hL hent
      obtain ⟨s, hs⟩ : ∃ s, q.f 3 = .val (.string s) := HSH.out ([116, 121, 112, 101], 3, 4) (by decide)
      obtain ⟨u, hu, hfa⟩ := H.out.field 3 (by decide) (by decide) (by decide)
      rw [hs] at hfa
      obtain rfl : u = .string s := hfa
      have hx : wc.cell? ⟨bq, 3, none⟩ = some (.string s) := (HB.out.cell hbq).trans hu
      have HS := hide hs
      clear hs hu
      go_upto_if 73 with fail
      go_cut [] from 69 to 79 (fun wn => Below W.heap.size W wn ∧ MapIs wn W.heap.size [(bs [109, 117, 108, 116, 105, 95, 109, 97, 116, 99, 104], .iface 112 (.map (some (W.heap.size + 1))))] ∧ MapE (notB W.heap.size) wn (W.heap.size + 1) (E0 ++ ent [116, 121, 112, 101] (fvT (q.f 3))))
      case first =>
        cases hts : s.toList.isEmpty
        · have HT9 : Hid (fvT (q.f 3) = some (tText s)) := hide (by rw [HS.out]; simp only [fvT, hts]; rfl)
          go_wp2_with (first | (at_mapUpdate; refine wpList_mapUpdate_own _ rfl _ _ _ 112 rfl 9 20 key9 Tryz.underlying112 RV (W.heap.size + 1) L.length (putAll L) rfl HL.out (by rw [HLN.out]; unfold maxLen; omega) _ _ (KL (bs [116, 121, 112, 101])) rfl rfl (key_ok (by decide)) (.held (.iface 9 (.string s))) [] rfl ?_; intro wn hm4 hg4; have HM4 := hide hm4; have HG4 := hide hg4; clear hm4 hg4) | go_in)
          go_meet
          rw [HT9.out]
          have hbn : Below W.heap.size W wn := HB.out.trans ⟨HG4.out.os, HG4.out.tape, HG4.out.output, HG4.out.size, fun k hk => HG4.out.block k (by have := HB.out.size; omega) (some_ne (by omega))⟩
          have hen := MapE.put (F := notB W.heap.size) HENT.out (tells_text _ _ s) HG4.out (by simp [notB]) (mapIs_put HM4.out)
          have hmn : MapIs wn W.heap.size [(bs [109, 117, 108, 116, 105, 95, 109, 97, 116, 99, 104], .iface 112 (.map (some (W.heap.size + 1))))] := HM.out.same (HG4.out.block _ HM.out.lt (some_ne (by omega)))
          exact ⟨hbn, hmn, hen⟩
        · have HT9 : Hid (fvT (q.f 3) = none) := hide (by rw [HS.out]; simp only [fvT, hts]; rfl)
          go_wp2_with fail
          go_meet
          rw [HT9.out]
          exact ⟨HB.out, HM.out, by simpa [ent] using HE.out⟩
      clear HB HM HE HL HENT HLN
      obtain ⟨hb, hm, he⟩ := hcut
      have HB := hide hb
      have HM := hide hm
      obtain ⟨E1, hE'⟩ : ∃ x, x = E0 ++ ent [116, 121, 112, 101] (fvT (q.f 3)) := ⟨_, rfl⟩
      rw [← hE'] at he
      have HE := hide he
      have HEQ1 : Hid (E1 = E0 ++ ent [116, 121, 112, 101] (fvT (q.f 3))) := hide hE'
      clear hb hm he hE'
      have hel1 : E1.length ≤ 3 := by rw [HEQ1.out, List.length_append]; have := ent_le [116, 121, 112, 101] (fvT (q.f 3)); omega
      -- operator
      obtain ⟨L, hL, hent⟩ := HE.out
      have HL := hide hL
      have HENT := hide hent
      have HLN := hide hent.length
      clear hL hent
      obtain ⟨s, hs⟩ : ∃ s, q.f 4 = .val (.string s) := HSH.out ([111, 112, 101, 114, 97, 116, 111, 114], 4, 0) (by decide)
      obtain ⟨u, hu, hfa⟩ := H.out.field 4 (by decide) (by decide) (by decide)
      rw [hs] at hfa
      obtain rfl : u = .string s := hfa
      have hx : wc.cell? ⟨bq, 4, none⟩ = some (.string s) := (HB.out.cell hbq).trans hu
      have HS := hide hs
      clear hs hu
      go_upto_if 84 with fail
      go_cut [] from 80 to 90 (fun wn => Below W.heap.size W wn ∧ MapIs wn W.heap.size [(bs [109, 117, 108, 116, 105, 95, 109, 97, 116, 99, 104], .iface 112 (.map (some (W.heap.size + 1))))] ∧ MapE (notB W.heap.size) wn (W.heap.size + 1) (E1 ++ ent [111, 112, 101, 114, 97, 116, 111, 114] (fvT (q.f 4))))
      case first =>
        cases hts : s.toList.isEmpty
        · have HT9 : Hid (fvT (q.f 4) = some (tText s)) := hide (by rw [HS.out]; simp only [fvT, hts]; rfl)
          go_wp2_with (first | (at_mapUpdate; refine wpList_mapUpdate_own _ rfl _ _ _ 112 rfl 9 20 key9 Tryz.underlying112 RV (W.heap.size + 1) L.length (putAll L) rfl HL.out (by rw [HLN.out]; unfold maxLen; omega) _ _ (KL (bs [111, 112, 101, 114, 97, 116, 111, 114])) rfl rfl (key_ok (by decide)) (.held (.iface 9 (.string s))) [] rfl ?_; intro wn hm4 hg4; have HM4 := hide hm4; have HG4 := hide hg4; clear hm4 hg4) | go_in)
          go_meet
          rw [HT9.out]
          have hbn : Below W.heap.size W wn := HB.out.trans ⟨HG4.out.os, HG4.out.tape, HG4.out.output, HG4.out.size, fun k hk => HG4.out.block k (by have := HB.out.size; omega) (some_ne (by omega))⟩
          have hen := MapE.put (F := notB W.heap.size) HENT.out (tells_text _ _ s) HG4.out (by simp [notB]) (mapIs_put HM4.out)
          have hmn : MapIs wn W.heap.size [(bs [109, 117, 108, 116, 105, 95, 109, 97, 116, 99, 104], .iface 112 (.map (some (W.heap.size + 1))))] := HM.out.same (HG4.out.block _ HM.out.lt (some_ne (by omega)))
          exact ⟨hbn, hmn, hen⟩
        · have HT9 : Hid (fvT (q.f 4) = none) := hide (by rw [HS.out]; simp only [fvT, hts]; rfl)
          go_wp2_with fail
          go_meet
          rw [HT9.out]
          exact ⟨HB.out, HM.out, by simpa [ent] using HE.out⟩
      clear HB HM HE HL HENT HLN
      obtain ⟨hb, hm, he⟩ := hcut
      have HB := hide hb
      have HM := hide hm
      obtain ⟨E2, hE'⟩ : ∃ x, x = E1 ++ ent [111, 112, 101, 114, 97, 116, 111, 114] (fvT (q.f 4)) := ⟨_, rfl⟩
      rw [← hE'] at he
      have HE := hide he
      have HEQ2 : Hid (E2 = E1 ++ ent [111, 112, 101, 114, 97, 116, 111, 114] (fvT (q.f 4))) := hide hE'
      clear hb hm he hE'
      have hel2 : E2.length ≤ 4 := by rw [HEQ2.out, List.length_append]; have := ent_le [111, 112, 101, 114, 97, 116, 111, 114] (fvT (q.f 4)); omega
      -- analyzer
      obtain ⟨L, hL, hent⟩ := HE.out
      have HL := hide hL
      have HENT := hide hent
      have HLN := hide hent.length
      clear hL hent
      obtain ⟨s, hs⟩ : ∃ s, q.f 5 = .val (.string s) := HSH.out ([97, 110, 97, 108, 121, 122, 101, 114], 5, 0) (by decide)
      obtain ⟨u, hu, hfa⟩ := H.out.field 5 (by decide) (by decide) (by decide)
      rw [hs] at hfa
      obtain rfl : u = .string s := hfa
      have hx : wc.cell? ⟨bq, 5, none⟩ = some (.string s) := (HB.out.cell hbq).trans hu
      have HS := hide hs
      clear hs hu
      go_upto_if 95 with fail
      go_cut [] from 91 to 101 (fun wn => Below W.heap.size W wn ∧ MapIs wn W.heap.size [(bs [109, 117, 108, 116, 105, 95, 109, 97, 116, 99, 104], .iface 112 (.map (some (W.heap.size + 1))))] ∧ MapE (notB W.heap.size) wn (W.heap.size + 1) (E2 ++ ent [97, 110, 97, 108, 121, 122, 101, 114] (fvT (q.f 5))))
      case first =>
        cases hts : s.toList.isEmpty
        · have HT9 : Hid (fvT (q.f 5) = some (tText s)) := hide (by rw [HS.out]; simp only [fvT, hts]; rfl)
          go_wp2_with (first | (at_mapUpdate; refine wpList_mapUpdate_own _ rfl _ _ _ 112 rfl 9 20 key9 Tryz.underlying112 RV (W.heap.size + 1) L.length (putAll L) rfl HL.out (by rw [HLN.out]; unfold maxLen; omega) _ _ (KL (bs [97, 110, 97, 108, 121, 122, 101, 114])) rfl rfl (key_ok (by decide)) (.held (.iface 9 (.string s))) [] rfl ?_; intro wn hm4 hg4; have HM4 := hide hm4; have HG4 := hide hg4; clear hm4 hg4) | go_in)
          go_meet
          rw [HT9.out]
          have hbn : Below W.heap.size W wn := HB.out.trans ⟨HG4.out.os, HG4.out.tape, HG4.out.output, HG4.out.size, fun k hk => HG4.out.block k (by have := HB.out.size; omega) (some_ne (by omega))⟩
          have hen := MapE.put (F := notB W.heap.size) HENT.out (tells_text _ _ s) HG4.out (by simp [notB]) (mapIs_put HM4.out)
          have hmn : MapIs wn W.heap.size [(bs [109, 117, 108, 116, 105, 95, 109, 97, 116, 99, 104], .iface 112 (.map (some (W.heap.size + 1))))] := HM.out.same (HG4.out.block _ HM.out.lt (some_ne (by omega)))
          exact ⟨hbn, hmn, hen⟩
        · have HT9 : Hid (fvT (q.f 5) = none) := hide (by rw [HS.out]; simp only [fvT, hts]; rfl)
          go_wp2_with fail
          go_meet
          rw [HT9.out]
          exact ⟨HB.out, HM.out, by simpa [ent] using HE.out⟩
      clear HB HM HE HL HENT HLN
      obtain ⟨hb, hm, he⟩ := hcut
      have HB := hide hb
      have HM := hide hm
      obtain ⟨E3, hE'⟩ : ∃ x, x = E2 ++ ent [97, 110, 97, 108, 121, 122, 101, 114] (fvT (q.f 5)) := ⟨_, rfl⟩
      rw [← hE'] at he
      have HE := hide he
      have HEQ3 : Hid (E3 = E2 ++ ent [97, 110, 97, 108, 121, 122, 101, 114] (fvT (q.f 5))) := hide hE'
      clear hb hm he hE'
      have hel3 : E3.length ≤ 5 := by rw [HEQ3.out, List.length_append]; have := ent_le [97, 110, 97, 108, 121, 122, 101, 114] (fvT (q.f 5)); omega
      -- boost
      obtain ⟨L, hL, hent⟩ := HE.out
      have HL := hide hL
      have HENT := hide hent
      have HLN := hide hent.length
      clear hL hent
      obtain ⟨u, hu, hfa⟩ := H.out.field 6 (by decide) (by decide) (by decide)
      have hshp : q.f 6 = .nop ∨ ∃ x, q.f 6 = .opt 22 (.float .f64 x) := HSH.out ([98, 111, 111, 115, 116], 6, 1) (by decide)
      have HSP := hide hshp
      have hux : wc.cell? ⟨bq, 6, none⟩ = some u := (HB.out.cell hbq).trans hu
      have hu2 : (q.f 6 = .nop ∧ u = .pointer none) ∨ ∃ p x, q.f 6 = .opt 22 (.float .f64 x) ∧ u = .pointer (some ⟨p, 0, none⟩) ∧ p < W.heap.size ∧ W.cell? ⟨p, 0, none⟩ = some (.float .f64 x) := by
        rcases hshp with e | ⟨x, e⟩
        · rw [e] at hfa; exact Or.inl ⟨e, hfa⟩
        · rw [e] at hfa
          obtain ⟨p, -, -, -, e1, e2⟩ := hfa
          exact Or.inr ⟨p, x, e, e1, lt_of_block e2, by rw [cell_of_row W p 0 _ _ _ e2]; rfl⟩
      have HU := hide hu2
      obtain ⟨ou, hou⟩ : ∃ ou, u = .pointer ou := by
        rcases hu2 with ⟨-, e⟩ | ⟨p, x, -, e, -⟩ <;> exact ⟨_, e⟩
      subst hou
      clear hshp hu2 hu hfa
      go_upto_if 106 with fail
      go_cut [] from 102 to 114 (fun wn => Below W.heap.size W wn ∧ MapIs wn W.heap.size [(bs [109, 117, 108, 116, 105, 95, 109, 97, 116, 99, 104], .iface 112 (.map (some (W.heap.size + 1))))] ∧ MapE (notB W.heap.size) wn (W.heap.size + 1) (E3 ++ ent [98, 111, 111, 115, 116] (fvT (q.f 6))))
      case first =>
        rcases HU.out with ⟨e1, e2⟩ | ⟨p, x, e1, e2, e3, e4⟩
        · have HT9 : Hid (fvT (q.f 6) = none) := hide (by rw [e1]; rfl)
          cases e2
          clear e1
          go_wp2_with fail
          go_meet
          rw [HT9.out]
          exact ⟨HB.out, HM.out, by simpa [ent] using HE.out⟩
        · have HT9 : Hid (fvT (q.f 6) = some (tNum x)) := hide (by rw [e1]; rfl)
          cases e2
          have hpx : wc.cell? ⟨p, 0, none⟩ = some (.float .f64 x) := (HB.out.cell e3).trans e4
          have HP9 := hide hpx
          clear e1 e4
          go_wp2_with (first | (at_mapUpdate; refine wpList_mapUpdate_own _ rfl _ _ _ 112 rfl 9 20 key9 Tryz.underlying112 RV (W.heap.size + 1) L.length (putAll L) rfl HL.out (by rw [HLN.out]; unfold maxLen; omega) _ _ (KL (bs [98, 111, 111, 115, 116])) rfl rfl (key_ok (by decide)) (.held (.iface 22 (.float .f64 x))) [] rfl ?_; intro wn hm4 hg4; have HM4 := hide hm4; have HG4 := hide hg4; clear hm4 hg4) | go_in)
          go_meet
          rw [HT9.out]
          have hbn : Below W.heap.size W wn := HB.out.trans ⟨HG4.out.os, HG4.out.tape, HG4.out.output, HG4.out.size, fun k hk => HG4.out.block k (by have := HB.out.size; omega) (some_ne (by omega))⟩
          have hen := MapE.put (F := notB W.heap.size) HENT.out (tells_num _ _ x) HG4.out (by simp [notB]) (mapIs_put HM4.out)
          have hmn : MapIs wn W.heap.size [(bs [109, 117, 108, 116, 105, 95, 109, 97, 116, 99, 104], .iface 112 (.map (some (W.heap.size + 1))))] := HM.out.same (HG4.out.block _ HM.out.lt (some_ne (by omega)))
          exact ⟨hbn, hmn, hen⟩
      clear HB HM HE HL HENT HLN
      obtain ⟨hb, hm, he⟩ := hcut
      have HB := hide hb
      have HM := hide hm
      obtain ⟨E4, hE'⟩ : ∃ x, x = E3 ++ ent [98, 111, 111, 115, 116] (fvT (q.f 6)) := ⟨_, rfl⟩
      rw [← hE'] at he
      have HE := hide he
      have HEQ4 : Hid (E4 = E3 ++ ent [98, 111, 111, 115, 116] (fvT (q.f 6))) := hide hE'
      clear hb hm he hE'
      have hel4 : E4.length ≤ 6 := by rw [HEQ4.out, List.length_append]; have := ent_le [98, 111, 111, 115, 116] (fvT (q.f 6)); omega
      -- slop
      obtain ⟨L, hL, hent⟩ := HE.out
      have HL := hide hL
      have HENT := hide hent
      have HLN := hide hent.length
      clear hL hent
      obtain ⟨u, hu, hfa⟩ := H.out.field 7 (by decide) (by decide) (by decide)
      have hshp : q.f 7 = .nop ∨ ∃ x, q.f 7 = .opt 3 (.int .i64 x) := HSH.out ([115, 108, 111, 112], 7, 2) (by decide)
      have HSP := hide hshp
      have hux : wc.cell? ⟨bq, 7, none⟩ = some u := (HB.out.cell hbq).trans hu
      have hu2 : (q.f 7 = .nop ∧ u = .pointer none) ∨ ∃ p x, q.f 7 = .opt 3 (.int .i64 x) ∧ u = .pointer (some ⟨p, 0, none⟩) ∧ p < W.heap.size ∧ W.cell? ⟨p, 0, none⟩ = some (.int .i64 x) := by
        rcases hshp with e | ⟨x, e⟩
        · rw [e] at hfa; exact Or.inl ⟨e, hfa⟩
        · rw [e] at hfa
          obtain ⟨p, -, -, -, e1, e2⟩ := hfa
          exact Or.inr ⟨p, x, e, e1, lt_of_block e2, by rw [cell_of_row W p 0 _ _ _ e2]; rfl⟩
      have HU := hide hu2
      obtain ⟨ou, hou⟩ : ∃ ou, u = .pointer ou := by
        rcases hu2 with ⟨-, e⟩ | ⟨p, x, -, e, -⟩ <;> exact ⟨_, e⟩
      subst hou
      clear hshp hu2 hu hfa
      go_upto_if 119 with fail
      go_cut [] from 115 to 127 (fun wn => Below W.heap.size W wn ∧ MapIs wn W.heap.size [(bs [109, 117, 108, 116, 105, 95, 109, 97, 116, 99, 104], .iface 112 (.map (some (W.heap.size + 1))))] ∧ MapE (notB W.heap.size) wn (W.heap.size + 1) (E4 ++ ent [115, 108, 111, 112] (fvT (q.f 7))))
      case first =>
        rcases HU.out with ⟨e1, e2⟩ | ⟨p, x, e1, e2, e3, e4⟩
        · have HT9 : Hid (fvT (q.f 7) = none) := hide (by rw [e1]; rfl)
          cases e2
          clear e1
          go_wp2_with fail
          go_meet
          rw [HT9.out]
          exact ⟨HB.out, HM.out, by simpa [ent] using HE.out⟩
        · have HT9 : Hid (fvT (q.f 7) = some (tNum (floatOfInt .f64 x))) := hide (by rw [e1]; rfl)
          cases e2
          have hpx : wc.cell? ⟨p, 0, none⟩ = some (.int .i64 x) := (HB.out.cell e3).trans e4
          have HP9 := hide hpx
          clear e1 e4
          go_wp2_with (first | (at_mapUpdate; refine wpList_mapUpdate_own _ rfl _ _ _ 112 rfl 9 20 key9 Tryz.underlying112 RV (W.heap.size + 1) L.length (putAll L) rfl HL.out (by rw [HLN.out]; unfold maxLen; omega) _ _ (KL (bs [115, 108, 111, 112])) rfl rfl (key_ok (by decide)) (.held (.iface 3 (.int .i64 x))) [] rfl ?_; intro wn hm4 hg4; have HM4 := hide hm4; have HG4 := hide hg4; clear hm4 hg4) | go_in)
          go_meet
          rw [HT9.out]
          have hbn : Below W.heap.size W wn := HB.out.trans ⟨HG4.out.os, HG4.out.tape, HG4.out.output, HG4.out.size, fun k hk => HG4.out.block k (by have := HB.out.size; omega) (some_ne (by omega))⟩
          have hen := MapE.put (F := notB W.heap.size) HENT.out (tells_int _ _ x) HG4.out (by simp [notB]) (mapIs_put HM4.out)
          have hmn : MapIs wn W.heap.size [(bs [109, 117, 108, 116, 105, 95, 109, 97, 116, 99, 104], .iface 112 (.map (some (W.heap.size + 1))))] := HM.out.same (HG4.out.block _ HM.out.lt (some_ne (by omega)))
          exact ⟨hbn, hmn, hen⟩
      clear HB HM HE HL HENT HLN
      obtain ⟨hb, hm, he⟩ := hcut
      have HB := hide hb
      have HM := hide hm
      obtain ⟨E5, hE'⟩ : ∃ x, x = E4 ++ ent [115, 108, 111, 112] (fvT (q.f 7)) := ⟨_, rfl⟩
      rw [← hE'] at he
      have HE := hide he
      have HEQ5 : Hid (E5 = E4 ++ ent [115, 108, 111, 112] (fvT (q.f 7))) := hide hE'
      clear hb hm he hE'
      have hel5 : E5.length ≤ 7 := by rw [HEQ5.out, List.length_append]; have := ent_le [115, 108, 111, 112] (fvT (q.f 7)); omega
      -- fuzziness
      obtain ⟨L, hL, hent⟩ := HE.out
      have HL := hide hL
      have HENT := hide hent
      have HLN := hide hent.length
      clear hL hent
      obtain ⟨s, hs⟩ : ∃ s, q.f 8 = .val (.string s) := HSH.out ([102, 117, 122, 122, 105, 110, 101, 115, 115], 8, 0) (by decide)
      obtain ⟨u, hu, hfa⟩ := H.out.field 8 (by decide) (by decide) (by decide)
      rw [hs] at hfa
      obtain rfl : u = .string s := hfa
      have hx : wc.cell? ⟨bq, 8, none⟩ = some (.string s) := (HB.out.cell hbq).trans hu
      have HS := hide hs
      clear hs hu
      go_upto_if 132 with fail
      go_cut [] from 128 to 138 (fun wn => Below W.heap.size W wn ∧ MapIs wn W.heap.size [(bs [109, 117, 108, 116, 105, 95, 109, 97, 116, 99, 104], .iface 112 (.map (some (W.heap.size + 1))))] ∧ MapE (notB W.heap.size) wn (W.heap.size + 1) (E5 ++ ent [102, 117, 122, 122, 105, 110, 101, 115, 115] (fvT (q.f 8))))
      case first =>
        cases hts : s.toList.isEmpty
        · have HT9 : Hid (fvT (q.f 8) = some (tText s)) := hide (by rw [HS.out]; simp only [fvT, hts]; rfl)
          go_wp2_with (first | (at_mapUpdate; refine wpList_mapUpdate_own _ rfl _ _ _ 112 rfl 9 20 key9 Tryz.underlying112 RV (W.heap.size + 1) L.length (putAll L) rfl HL.out (by rw [HLN.out]; unfold maxLen; omega) _ _ (KL (bs [102, 117, 122, 122, 105, 110, 101, 115, 115])) rfl rfl (key_ok (by decide)) (.held (.iface 9 (.string s))) [] rfl ?_; intro wn hm4 hg4; have HM4 := hide hm4; have HG4 := hide hg4; clear hm4 hg4) | go_in)
          go_meet
          rw [HT9.out]
          have hbn : Below W.heap.size W wn := HB.out.trans ⟨HG4.out.os, HG4.out.tape, HG4.out.output, HG4.out.size, fun k hk => HG4.out.block k (by have := HB.out.size; omega) (some_ne (by omega))⟩
          have hen := MapE.put (F := notB W.heap.size) HENT.out (tells_text _ _ s) HG4.out (by simp [notB]) (mapIs_put HM4.out)
          have hmn : MapIs wn W.heap.size [(bs [109, 117, 108, 116, 105, 95, 109, 97, 116, 99, 104], .iface 112 (.map (some (W.heap.size + 1))))] := HM.out.same (HG4.out.block _ HM.out.lt (some_ne (by omega)))
          exact ⟨hbn, hmn, hen⟩
        · have HT9 : Hid (fvT (q.f 8) = none) := hide (by rw [HS.out]; simp only [fvT, hts]; rfl)
          go_wp2_with fail
          go_meet
          rw [HT9.out]
          exact ⟨HB.out, HM.out, by simpa [ent] using HE.out⟩
      clear HB HM HE HL HENT HLN
      obtain ⟨hb, hm, he⟩ := hcut
      have HB := hide hb
      have HM := hide hm
      obtain ⟨E6, hE'⟩ : ∃ x, x = E5 ++ ent [102, 117, 122, 122, 105, 110, 101, 115, 115] (fvT (q.f 8)) := ⟨_, rfl⟩
      rw [← hE'] at he
      have HE := hide he
      have HEQ6 : Hid (E6 = E5 ++ ent [102, 117, 122, 122, 105, 110, 101, 115, 115] (fvT (q.f 8))) := hide hE'
      clear hb hm he hE'
      have hel6 : E6.length ≤ 8 := by rw [HEQ6.out, List.length_append]; have := ent_le [102, 117, 122, 122, 105, 110, 101, 115, 115] (fvT (q.f 8)); omega
      -- prefix_length
      obtain ⟨L, hL, hent⟩ := HE.out
      have HL := hide hL
      have HENT := hide hent
      have HLN := hide hent.length
      clear hL hent
      obtain ⟨u, hu, hfa⟩ := H.out.field 9 (by decide) (by decide) (by decide)
      have hshp : q.f 9 = .nop ∨ ∃ x, q.f 9 = .opt 3 (.int .i64 x) := HSH.out ([112, 114, 101, 102, 105, 120, 95, 108, 101, 110, 103, 116, 104], 9, 2) (by decide)
      have HSP := hide hshp
      have hux : wc.cell? ⟨bq, 9, none⟩ = some u := (HB.out.cell hbq).trans hu
      have hu2 : (q.f 9 = .nop ∧ u = .pointer none) ∨ ∃ p x, q.f 9 = .opt 3 (.int .i64 x) ∧ u = .pointer (some ⟨p, 0, none⟩) ∧ p < W.heap.size ∧ W.cell? ⟨p, 0, none⟩ = some (.int .i64 x) := by
        rcases hshp with e | ⟨x, e⟩
        · rw [e] at hfa; exact Or.inl ⟨e, hfa⟩
        · rw [e] at hfa
          obtain ⟨p, -, -, -, e1, e2⟩ := hfa
          exact Or.inr ⟨p, x, e, e1, lt_of_block e2, by rw [cell_of_row W p 0 _ _ _ e2]; rfl⟩
      have HU := hide hu2
      obtain ⟨ou, hou⟩ : ∃ ou, u = .pointer ou := by
        rcases hu2 with ⟨-, e⟩ | ⟨p, x, -, e, -⟩ <;> exact ⟨_, e⟩
      subst hou
      clear hshp hu2 hu hfa
      go_upto_if 143 with fail
      go_cut [] from 139 to 151 (fun wn => Below W.heap.size W wn ∧ MapIs wn W.heap.size [(bs [109, 117, 108, 116, 105, 95, 109, 97, 116, 99, 104], .iface 112 (.map (some (W.heap.size + 1))))] ∧ MapE (notB W.heap.size) wn (W.heap.size + 1) (E6 ++ ent [112, 114, 101, 102, 105, 120, 95, 108, 101, 110, 103, 116, 104] (fvT (q.f 9))))
      case first =>
        rcases HU.out with ⟨e1, e2⟩ | ⟨p, x, e1, e2, e3, e4⟩
        · have HT9 : Hid (fvT (q.f 9) = none) := hide (by rw [e1]; rfl)
          cases e2
          clear e1
          go_wp2_with fail
          go_meet
          rw [HT9.out]
          exact ⟨HB.out, HM.out, by simpa [ent] using HE.out⟩
        · have HT9 : Hid (fvT (q.f 9) = some (tNum (floatOfInt .f64 x))) := hide (by rw [e1]; rfl)
          cases e2
          have hpx : wc.cell? ⟨p, 0, none⟩ = some (.int .i64 x) := (HB.out.cell e3).trans e4
          have HP9 := hide hpx
          clear e1 e4
          go_wp2_with (first | (at_mapUpdate; refine wpList_mapUpdate_own _ rfl _ _ _ 112 rfl 9 20 key9 Tryz.underlying112 RV (W.heap.size + 1) L.length (putAll L) rfl HL.out (by rw [HLN.out]; unfold maxLen; omega) _ _ (KL (bs [112, 114, 101, 102, 105, 120, 95, 108, 101, 110, 103, 116, 104])) rfl rfl (key_ok (by decide)) (.held (.iface 3 (.int .i64 x))) [] rfl ?_; intro wn hm4 hg4; have HM4 := hide hm4; have HG4 := hide hg4; clear hm4 hg4) | go_in)
          go_meet
          rw [HT9.out]
          have hbn : Below W.heap.size W wn := HB.out.trans ⟨HG4.out.os, HG4.out.tape, HG4.out.output, HG4.out.size, fun k hk => HG4.out.block k (by have := HB.out.size; omega) (some_ne (by omega))⟩
          have hen := MapE.put (F := notB W.heap.size) HENT.out (tells_int _ _ x) HG4.out (by simp [notB]) (mapIs_put HM4.out)
          have hmn : MapIs wn W.heap.size [(bs [109, 117, 108, 116, 105, 95, 109, 97, 116, 99, 104], .iface 112 (.map (some (W.heap.size + 1))))] := HM.out.same (HG4.out.block _ HM.out.lt (some_ne (by omega)))
          exact ⟨hbn, hmn, hen⟩
      clear HB HM HE HL HENT HLN
      obtain ⟨hb, hm, he⟩ := hcut
      have HB := hide hb
      have HM := hide hm
      obtain ⟨E7, hE'⟩ : ∃ x, x = E6 ++ ent [112, 114, 101, 102, 105, 120, 95, 108, 101, 110, 103, 116, 104] (fvT (q.f 9)) := ⟨_, rfl⟩
      rw [← hE'] at he
      have HE := hide he
      have HEQ7 : Hid (E7 = E6 ++ ent [112, 114, 101, 102, 105, 120, 95, 108, 101, 110, 103, 116, 104] (fvT (q.f 9))) := hide hE'
      clear hb hm he hE'
      have hel7 : E7.length ≤ 9 := by rw [HEQ7.out, List.length_append]; have := ent_le [112, 114, 101, 102, 105, 120, 95, 108, 101, 110, 103, 116, 104] (fvT (q.f 9)); omega
      -- max_expansions
      obtain ⟨L, hL, hent⟩ := HE.out
      have HL := hide hL
      have HENT := hide hent
      have HLN := hide hent.length
      clear hL hent
      obtain ⟨u, hu, hfa⟩ := H.out.field 10 (by decide) (by decide) (by decide)
      have hshp : q.f 10 = .nop ∨ ∃ x, q.f 10 = .opt 3 (.int .i64 x) := HSH.out ([109, 97, 120, 95, 101, 120, 112, 97, 110, 115, 105, 111, 110, 115], 10, 2) (by decide)
      have HSP := hide hshp
      have hux : wc.cell? ⟨bq, 10, none⟩ = some u := (HB.out.cell hbq).trans hu
      have hu2 : (q.f 10 = .nop ∧ u = .pointer none) ∨ ∃ p x, q.f 10 = .opt 3 (.int .i64 x) ∧ u = .pointer (some ⟨p, 0, none⟩) ∧ p < W.heap.size ∧ W.cell? ⟨p, 0, none⟩ = some (.int .i64 x) := by
        rcases hshp with e | ⟨x, e⟩
        · rw [e] at hfa; exact Or.inl ⟨e, hfa⟩
        · rw [e] at hfa
          obtain ⟨p, -, -, -, e1, e2⟩ := hfa
          exact Or.inr ⟨p, x, e, e1, lt_of_block e2, by rw [cell_of_row W p 0 _ _ _ e2]; rfl⟩
      have HU := hide hu2
      obtain ⟨ou, hou⟩ : ∃ ou, u = .pointer ou := by
        rcases hu2 with ⟨-, e⟩ | ⟨p, x, -, e, -⟩ <;> exact ⟨_, e⟩
      subst hou
      clear hshp hu2 hu hfa
      go_upto_if 156 with fail
      go_cut [] from 152 to 164 (fun wn => Below W.heap.size W wn ∧ MapIs wn W.heap.size [(bs [109, 117, 108, 116, 105, 95, 109, 97, 116, 99, 104], .iface 112 (.map (some (W.heap.size + 1))))] ∧ MapE (notB W.heap.size) wn (W.heap.size + 1) (E7 ++ ent [109, 97, 120, 95, 101, 120, 112, 97, 110, 115, 105, 111, 110, 115] (fvT (q.f 10))))
      case first =>
        rcases HU.out with ⟨e1, e2⟩ | ⟨p, x, e1, e2, e3, e4⟩
        · have HT9 : Hid (fvT (q.f 10) = none) := hide (by rw [e1]; rfl)
          cases e2
          clear e1
          go_wp2_with fail
          go_meet
          rw [HT9.out]
          exact ⟨HB.out, HM.out, by simpa [ent] using HE.out⟩
        · have HT9 : Hid (fvT (q.f 10) = some (tNum (floatOfInt .f64 x))) := hide (by rw [e1]; rfl)
          cases e2
          have hpx : wc.cell? ⟨p, 0, none⟩ = some (.int .i64 x) := (HB.out.cell e3).trans e4
          have HP9 := hide hpx
          clear e1 e4
          go_wp2_with (first | (at_mapUpdate; refine wpList_mapUpdate_own _ rfl _ _ _ 112 rfl 9 20 key9 Tryz.underlying112 RV (W.heap.size + 1) L.length (putAll L) rfl HL.out (by rw [HLN.out]; unfold maxLen; omega) _ _ (KL (bs [109, 97, 120, 95, 101, 120, 112, 97, 110, 115, 105, 111, 110, 115])) rfl rfl (key_ok (by decide)) (.held (.iface 3 (.int .i64 x))) [] rfl ?_; intro wn hm4 hg4; have HM4 := hide hm4; have HG4 := hide hg4; clear hm4 hg4) | go_in)
          go_meet
          rw [HT9.out]
          have hbn : Below W.heap.size W wn := HB.out.trans ⟨HG4.out.os, HG4.out.tape, HG4.out.output, HG4.out.size, fun k hk => HG4.out.block k (by have := HB.out.size; omega) (some_ne (by omega))⟩
          have hen := MapE.put (F := notB W.heap.size) HENT.out (tells_int _ _ x) HG4.out (by simp [notB]) (mapIs_put HM4.out)
          have hmn : MapIs wn W.heap.size [(bs [109, 117, 108, 116, 105, 95, 109, 97, 116, 99, 104], .iface 112 (.map (some (W.heap.size + 1))))] := HM.out.same (HG4.out.block _ HM.out.lt (some_ne (by omega)))
          exact ⟨hbn, hmn, hen⟩
      clear HB HM HE HL HENT HLN
      obtain ⟨hb, hm, he⟩ := hcut
      have HB := hide hb
      have HM := hide hm
      obtain ⟨E8, hE'⟩ : ∃ x, x = E7 ++ ent [109, 97, 120, 95, 101, 120, 112, 97, 110, 115, 105, 111, 110, 115] (fvT (q.f 10)) := ⟨_, rfl⟩
      rw [← hE'] at he
      have HE := hide he
      have HEQ8 : Hid (E8 = E7 ++ ent [109, 97, 120, 95, 101, 120, 112, 97, 110, 115, 105, 111, 110, 115] (fvT (q.f 10))) := hide hE'
      clear hb hm he hE'
      have hel8 : E8.length ≤ 10 := by rw [HEQ8.out, List.length_append]; have := ent_le [109, 97, 120, 95, 101, 120, 112, 97, 110, 115, 105, 111, 110, 115] (fvT (q.f 10)); omega
      -- minimum_should_match
      obtain ⟨L, hL, hent⟩ := HE.out
      have HL := hide hL
      have HENT := hide hent
      have HLN := hide hent.length
      clear hL hent
      obtain ⟨s, hs⟩ : ∃ s, q.f 11 = .val (.string s) := HSH.out ([109, 105, 110, 105, 109, 117, 109, 95, 115, 104, 111, 117, 108, 100, 95, 109, 97, 116, 99, 104], 11, 0) (by decide)
      obtain ⟨u, hu, hfa⟩ := H.out.field 11 (by decide) (by decide) (by decide)
      rw [hs] at hfa
      obtain rfl : u = .string s := hfa
      have hx : wc.cell? ⟨bq, 11, none⟩ = some (.string s) := (HB.out.cell hbq).trans hu
      have HS := hide hs
      clear hs hu
      go_upto_if 169 with fail
      go_cut [] from 165 to 175 (fun wn => Below W.heap.size W wn ∧ MapIs wn W.heap.size [(bs [109, 117, 108, 116, 105, 95, 109, 97, 116, 99, 104], .iface 112 (.map (some (W.heap.size + 1))))] ∧ MapE (notB W.heap.size) wn (W.heap.size + 1) (E8 ++ ent [109, 105, 110, 105, 109, 117, 109, 95, 115, 104, 111, 117, 108, 100, 95, 109, 97, 116, 99, 104] (fvT (q.f 11))))
      case first =>
        cases hts : s.toList.isEmpty
        · have HT9 : Hid (fvT (q.f 11) = some (tText s)) := hide (by rw [HS.out]; simp only [fvT, hts]; rfl)
          go_wp2_with (first | (at_mapUpdate; refine wpList_mapUpdate_own _ rfl _ _ _ 112 rfl 9 20 key9 Tryz.underlying112 RV (W.heap.size + 1) L.length (putAll L) rfl HL.out (by rw [HLN.out]; unfold maxLen; omega) _ _ (KL (bs [109, 105, 110, 105, 109, 117, 109, 95, 115, 104, 111, 117, 108, 100, 95, 109, 97, 116, 99, 104])) rfl rfl (key_ok (by decide)) (.held (.iface 9 (.string s))) [] rfl ?_; intro wn hm4 hg4; have HM4 := hide hm4; have HG4 := hide hg4; clear hm4 hg4) | go_in)
          go_meet
          rw [HT9.out]
          have hbn : Below W.heap.size W wn := HB.out.trans ⟨HG4.out.os, HG4.out.tape, HG4.out.output, HG4.out.size, fun k hk => HG4.out.block k (by have := HB.out.size; omega) (some_ne (by omega))⟩
          have hen := MapE.put (F := notB W.heap.size) HENT.out (tells_text _ _ s) HG4.out (by simp [notB]) (mapIs_put HM4.out)
          have hmn : MapIs wn W.heap.size [(bs [109, 117, 108, 116, 105, 95, 109, 97, 116, 99, 104], .iface 112 (.map (some (W.heap.size + 1))))] := HM.out.same (HG4.out.block _ HM.out.lt (some_ne (by omega)))
          exact ⟨hbn, hmn, hen⟩
        · have HT9 : Hid (fvT (q.f 11) = none) := hide (by rw [HS.out]; simp only [fvT, hts]; rfl)
          go_wp2_with fail
          go_meet
          rw [HT9.out]
          exact ⟨HB.out, HM.out, by simpa [ent] using HE.out⟩
      clear HB HM HE HL HENT HLN
      obtain ⟨hb, hm, he⟩ := hcut
      have HB := hide hb
      have HM := hide hm
      obtain ⟨E9, hE'⟩ : ∃ x, x = E8 ++ ent [109, 105, 110, 105, 109, 117, 109, 95, 115, 104, 111, 117, 108, 100, 95, 109, 97, 116, 99, 104] (fvT (q.f 11)) := ⟨_, rfl⟩
      rw [← hE'] at he
      have HE := hide he
      have HEQ9 : Hid (E9 = E8 ++ ent [109, 105, 110, 105, 109, 117, 109, 95, 115, 104, 111, 117, 108, 100, 95, 109, 97, 116, 99, 104] (fvT (q.f 11))) := hide hE'
      clear hb hm he hE'
      have hel9 : E9.length ≤ 11 := by rw [HEQ9.out, List.length_append]; have := ent_le [109, 105, 110, 105, 109, 117, 109, 95, 115, 104, 111, 117, 108, 100, 95, 109, 97, 116, 99, 104] (fvT (q.f 11)); omega
      -- rewrite
      obtain ⟨L, hL, hent⟩ := HE.out
      have HL := hide hL
      have HENT := hide hent
      have HLN := hide hent.length
      clear hL hent
      obtain ⟨s, hs⟩ : ∃ s, q.f 12 = .val (.string s) := HSH.out ([114, 101, 119, 114, 105, 116, 101], 12, 0) (by decide)
      obtain ⟨u, hu, hfa⟩ := H.out.field 12 (by decide) (by decide) (by decide)
      rw [hs] at hfa
      obtain rfl : u = .string s := hfa
      have hx : wc.cell? ⟨bq, 12, none⟩ = some (.string s) := (HB.out.cell hbq).trans hu
      have HS := hide hs
      clear hs hu
      go_upto_if 180 with fail
      go_cut [] from 176 to 186 (fun wn => Below W.heap.size W wn ∧ MapIs wn W.heap.size [(bs [109, 117, 108, 116, 105, 95, 109, 97, 116, 99, 104], .iface 112 (.map (some (W.heap.size + 1))))] ∧ MapE (notB W.heap.size) wn (W.heap.size + 1) (E9 ++ ent [114, 101, 119, 114, 105, 116, 101] (fvT (q.f 12))))
      case first =>
        cases hts : s.toList.isEmpty
        · have HT9 : Hid (fvT (q.f 12) = some (tText s)) := hide (by rw [HS.out]; simp only [fvT, hts]; rfl)
          go_wp2_with (first | (at_mapUpdate; refine wpList_mapUpdate_own _ rfl _ _ _ 112 rfl 9 20 key9 Tryz.underlying112 RV (W.heap.size + 1) L.length (putAll L) rfl HL.out (by rw [HLN.out]; unfold maxLen; omega) _ _ (KL (bs [114, 101, 119, 114, 105, 116, 101])) rfl rfl (key_ok (by decide)) (.held (.iface 9 (.string s))) [] rfl ?_; intro wn hm4 hg4; have HM4 := hide hm4; have HG4 := hide hg4; clear hm4 hg4) | go_in)
          go_meet
          rw [HT9.out]
          have hbn : Below W.heap.size W wn := HB.out.trans ⟨HG4.out.os, HG4.out.tape, HG4.out.output, HG4.out.size, fun k hk => HG4.out.block k (by have := HB.out.size; omega) (some_ne (by omega))⟩
          have hen := MapE.put (F := notB W.heap.size) HENT.out (tells_text _ _ s) HG4.out (by simp [notB]) (mapIs_put HM4.out)
          have hmn : MapIs wn W.heap.size [(bs [109, 117, 108, 116, 105, 95, 109, 97, 116, 99, 104], .iface 112 (.map (some (W.heap.size + 1))))] := HM.out.same (HG4.out.block _ HM.out.lt (some_ne (by omega)))
          exact ⟨hbn, hmn, hen⟩
        · have HT9 : Hid (fvT (q.f 12) = none) := hide (by rw [HS.out]; simp only [fvT, hts]; rfl)
          go_wp2_with fail
          go_meet
          rw [HT9.out]
          exact ⟨HB.out, HM.out, by simpa [ent] using HE.out⟩
      clear HB HM HE HL HENT HLN
      obtain ⟨hb, hm, he⟩ := hcut
      have HB := hide hb
      have HM := hide hm
      obtain ⟨E10, hE'⟩ : ∃ x, x = E9 ++ ent [114, 101, 119, 114, 105, 116, 101] (fvT (q.f 12)) := ⟨_, rfl⟩
      rw [← hE'] at he
      have HE := hide he
      have HEQ10 : Hid (E10 = E9 ++ ent [114, 101, 119, 114, 105, 116, 101] (fvT (q.f 12))) := hide hE'
      clear hb hm he hE'
      have hel10 : E10.length ≤ 12 := by rw [HEQ10.out, List.length_append]; have := ent_le [114, 101, 119, 114, 105, 116, 101] (fvT (q.f 12)); omega
      -- fuzzy_rewrite
      obtain ⟨L, hL, hent⟩ := HE.out
      have HL := hide hL
      have HENT := hide hent
      have HLN := hide hent.length
      clear hL hent
      obtain ⟨s, hs⟩ : ∃ s, q.f 13 = .val (.string s) := HSH.out ([102, 117, 122, 122, 121, 95, 114, 101, 119, 114, 105, 116, 101], 13, 0) (by decide)
      obtain ⟨u, hu, hfa⟩ := H.out.field 13 (by decide) (by decide) (by decide)
      rw [hs] at hfa
      obtain rfl : u = .string s := hfa
      have hx : wc.cell? ⟨bq, 13, none⟩ = some (.string s) := (HB.out.cell hbq).trans hu
      have HS := hide hs
      clear hs hu
      go_upto_if 191 with fail
      go_cut [] from 187 to 197 (fun wn => Below W.heap.size W wn ∧ MapIs wn W.heap.size [(bs [109, 117, 108, 116, 105, 95, 109, 97, 116, 99, 104], .iface 112 (.map (some (W.heap.size + 1))))] ∧ MapE (notB W.heap.size) wn (W.heap.size + 1) (E10 ++ ent [102, 117, 122, 122, 121, 95, 114, 101, 119, 114, 105, 116, 101] (fvT (q.f 13))))
      case first =>
        cases hts : s.toList.isEmpty
        · have HT9 : Hid (fvT (q.f 13) = some (tText s)) := hide (by rw [HS.out]; simp only [fvT, hts]; rfl)
          go_wp2_with (first | (at_mapUpdate; refine wpList_mapUpdate_own _ rfl _ _ _ 112 rfl 9 20 key9 Tryz.underlying112 RV (W.heap.size + 1) L.length (putAll L) rfl HL.out (by rw [HLN.out]; unfold maxLen; omega) _ _ (KL (bs [102, 117, 122, 122, 121, 95, 114, 101, 119, 114, 105, 116, 101])) rfl rfl (key_ok (by decide)) (.held (.iface 9 (.string s))) [] rfl ?_; intro wn hm4 hg4; have HM4 := hide hm4; have HG4 := hide hg4; clear hm4 hg4) | go_in)
          go_meet
          rw [HT9.out]
          have hbn : Below W.heap.size W wn := HB.out.trans ⟨HG4.out.os, HG4.out.tape, HG4.out.output, HG4.out.size, fun k hk => HG4.out.block k (by have := HB.out.size; omega) (some_ne (by omega))⟩
          have hen := MapE.put (F := notB W.heap.size) HENT.out (tells_text _ _ s) HG4.out (by simp [notB]) (mapIs_put HM4.out)
          have hmn : MapIs wn W.heap.size [(bs [109, 117, 108, 116, 105, 95, 109, 97, 116, 99, 104], .iface 112 (.map (some (W.heap.size + 1))))] := HM.out.same (HG4.out.block _ HM.out.lt (some_ne (by omega)))
          exact ⟨hbn, hmn, hen⟩
        · have HT9 : Hid (fvT (q.f 13) = none) := hide (by rw [HS.out]; simp only [fvT, hts]; rfl)
          go_wp2_with fail
          go_meet
          rw [HT9.out]
          exact ⟨HB.out, HM.out, by simpa [ent] using HE.out⟩
      clear HB HM HE HL HENT HLN
      obtain ⟨hb, hm, he⟩ := hcut
      have HB := hide hb
      have HM := hide hm
      obtain ⟨E11, hE'⟩ : ∃ x, x = E10 ++ ent [102, 117, 122, 122, 121, 95, 114, 101, 119, 114, 105, 116, 101] (fvT (q.f 13)) := ⟨_, rfl⟩
      rw [← hE'] at he
      have HE := hide he
      have HEQ11 : Hid (E11 = E10 ++ ent [102, 117, 122, 122, 121, 95, 114, 101, 119, 114, 105, 116, 101] (fvT (q.f 13))) := hide hE'
      clear hb hm he hE'
      have hel11 : E11.length ≤ 13 := by rw [HEQ11.out, List.length_append]; have := ent_le [102, 117, 122, 122, 121, 95, 114, 101, 119, 114, 105, 116, 101] (fvT (q.f 13)); omega
      -- tie_breaker
      obtain ⟨L, hL, hent⟩ := HE.out
      have HL := hide hL
      have HENT := hide hent
      have HLN := hide hent.length
      clear hL hent
      obtain ⟨u, hu, hfa⟩ := H.out.field 14 (by decide) (by decide) (by decide)
      have hshp : q.f 14 = .nop ∨ ∃ x, q.f 14 = .opt 22 (.float .f64 x) := HSH.out ([116, 105, 101, 95, 98, 114, 101, 97, 107, 101, 114], 14, 1) (by decide)
      have HSP := hide hshp
      have hux : wc.cell? ⟨bq, 14, none⟩ = some u := (HB.out.cell hbq).trans hu
      have hu2 : (q.f 14 = .nop ∧ u = .pointer none) ∨ ∃ p x, q.f 14 = .opt 22 (.float .f64 x) ∧ u = .pointer (some ⟨p, 0, none⟩) ∧ p < W.heap.size ∧ W.cell? ⟨p, 0, none⟩ = some (.float .f64 x) := by
        rcases hshp with e | ⟨x, e⟩
        · rw [e] at hfa; exact Or.inl ⟨e, hfa⟩
        · rw [e] at hfa
          obtain ⟨p, -, -, -, e1, e2⟩ := hfa
          exact Or.inr ⟨p, x, e, e1, lt_of_block e2, by rw [cell_of_row W p 0 _ _ _ e2]; rfl⟩
      have HU := hide hu2
      obtain ⟨ou, hou⟩ : ∃ ou, u = .pointer ou := by
        rcases hu2 with ⟨-, e⟩ | ⟨p, x, -, e, -⟩ <;> exact ⟨_, e⟩
      subst hou
      clear hshp hu2 hu hfa
      go_upto_if 202 with fail
      go_cut [] from 198 to 210 (fun wn => Below W.heap.size W wn ∧ MapIs wn W.heap.size [(bs [109, 117, 108, 116, 105, 95, 109, 97, 116, 99, 104], .iface 112 (.map (some (W.heap.size + 1))))] ∧ MapE (notB W.heap.size) wn (W.heap.size + 1) (E11 ++ ent [116, 105, 101, 95, 98, 114, 101, 97, 107, 101, 114] (fvT (q.f 14))))
      case first =>
        rcases HU.out with ⟨e1, e2⟩ | ⟨p, x, e1, e2, e3, e4⟩
        · have HT9 : Hid (fvT (q.f 14) = none) := hide (by rw [e1]; rfl)
          cases e2
          clear e1
          go_wp2_with fail
          go_meet
          rw [HT9.out]
          exact ⟨HB.out, HM.out, by simpa [ent] using HE.out⟩
        · have HT9 : Hid (fvT (q.f 14) = some (tNum x)) := hide (by rw [e1]; rfl)
          cases e2
          have hpx : wc.cell? ⟨p, 0, none⟩ = some (.float .f64 x) := (HB.out.cell e3).trans e4
          have HP9 := hide hpx
          clear e1 e4
          go_wp2_with (first | (at_mapUpdate; refine wpList_mapUpdate_own _ rfl _ _ _ 112 rfl 9 20 key9 Tryz.underlying112 RV (W.heap.size + 1) L.length (putAll L) rfl HL.out (by rw [HLN.out]; unfold maxLen; omega) _ _ (KL (bs [116, 105, 101, 95, 98, 114, 101, 97, 107, 101, 114])) rfl rfl (key_ok (by decide)) (.held (.iface 22 (.float .f64 x))) [] rfl ?_; intro wn hm4 hg4; have HM4 := hide hm4; have HG4 := hide hg4; clear hm4 hg4) | go_in)
          go_meet
          rw [HT9.out]
          have hbn : Below W.heap.size W wn := HB.out.trans ⟨HG4.out.os, HG4.out.tape, HG4.out.output, HG4.out.size, fun k hk => HG4.out.block k (by have := HB.out.size; omega) (some_ne (by omega))⟩
          have hen := MapE.put (F := notB W.heap.size) HENT.out (tells_num _ _ x) HG4.out (by simp [notB]) (mapIs_put HM4.out)
          have hmn : MapIs wn W.heap.size [(bs [109, 117, 108, 116, 105, 95, 109, 97, 116, 99, 104], .iface 112 (.map (some (W.heap.size + 1))))] := HM.out.same (HG4.out.block _ HM.out.lt (some_ne (by omega)))
          exact ⟨hbn, hmn, hen⟩
      clear HB HM HE HL HENT HLN
      obtain ⟨hb, hm, he⟩ := hcut
      have HB := hide hb
      have HM := hide hm
      obtain ⟨E12, hE'⟩ : ∃ x, x = E11 ++ ent [116, 105, 101, 95, 98, 114, 101, 97, 107, 101, 114] (fvT (q.f 14)) := ⟨_, rfl⟩
      rw [← hE'] at he
      have HE := hide he
      have HEQ12 : Hid (E12 = E11 ++ ent [116, 105, 101, 95, 98, 114, 101, 97, 107, 101, 114] (fvT (q.f 14))) := hide hE'
      clear hb hm he hE'
      have hel12 : E12.length ≤ 14 := by rw [HEQ12.out, List.length_append]; have := ent_le [116, 105, 101, 95, 98, 114, 101, 97, 107, 101, 114] (fvT (q.f 14)); omega
      -- lenient
      obtain ⟨L, hL, hent⟩ := HE.out
      have HL := hide hL
      have HENT := hide hent
      have HLN := hide hent.length
      clear hL hent
      obtain ⟨u, hu, hfa⟩ := H.out.field 15 (by decide) (by decide) (by decide)
      have hshp : q.f 15 = .nop ∨ ∃ x, q.f 15 = .opt 4 (.bool x) := HSH.out ([108, 101, 110, 105, 101, 110, 116], 15, 3) (by decide)
      have HSP := hide hshp
      have hux : wc.cell? ⟨bq, 15, none⟩ = some u := (HB.out.cell hbq).trans hu
      have hu2 : (q.f 15 = .nop ∧ u = .pointer none) ∨ ∃ p x, q.f 15 = .opt 4 (.bool x) ∧ u = .pointer (some ⟨p, 0, none⟩) ∧ p < W.heap.size ∧ W.cell? ⟨p, 0, none⟩ = some (.bool x) := by
        rcases hshp with e | ⟨x, e⟩
        · rw [e] at hfa; exact Or.inl ⟨e, hfa⟩
        · rw [e] at hfa
          obtain ⟨p, -, -, -, e1, e2⟩ := hfa
          exact Or.inr ⟨p, x, e, e1, lt_of_block e2, by rw [cell_of_row W p 0 _ _ _ e2]; rfl⟩
      have HU := hide hu2
      obtain ⟨ou, hou⟩ : ∃ ou, u = .pointer ou := by
        rcases hu2 with ⟨-, e⟩ | ⟨p, x, -, e, -⟩ <;> exact ⟨_, e⟩
      subst hou
      clear hshp hu2 hu hfa
      go_upto_if 215 with fail
      go_cut [] from 211 to 223 (fun wn => Below W.heap.size W wn ∧ MapIs wn W.heap.size [(bs [109, 117, 108, 116, 105, 95, 109, 97, 116, 99, 104], .iface 112 (.map (some (W.heap.size + 1))))] ∧ MapE (notB W.heap.size) wn (W.heap.size + 1) (E12 ++ ent [108, 101, 110, 105, 101, 110, 116] (fvT (q.f 15))))
      case first =>
        rcases HU.out with ⟨e1, e2⟩ | ⟨p, x, e1, e2, e3, e4⟩
        · have HT9 : Hid (fvT (q.f 15) = none) := hide (by rw [e1]; rfl)
          cases e2
          clear e1
          go_wp2_with fail
          go_meet
          rw [HT9.out]
          exact ⟨HB.out, HM.out, by simpa [ent] using HE.out⟩
        · have HT9 : Hid (fvT (q.f 15) = some (tYes x)) := hide (by rw [e1]; rfl)
          cases e2
          have hpx : wc.cell? ⟨p, 0, none⟩ = some (.bool x) := (HB.out.cell e3).trans e4
          have HP9 := hide hpx
          clear e1 e4
          go_wp2_with (first | (at_mapUpdate; refine wpList_mapUpdate_own _ rfl _ _ _ 112 rfl 9 20 key9 Tryz.underlying112 RV (W.heap.size + 1) L.length (putAll L) rfl HL.out (by rw [HLN.out]; unfold maxLen; omega) _ _ (KL (bs [108, 101, 110, 105, 101, 110, 116])) rfl rfl (key_ok (by decide)) (.held (.iface 4 (.bool x))) [] rfl ?_; intro wn hm4 hg4; have HM4 := hide hm4; have HG4 := hide hg4; clear hm4 hg4) | go_in)
          go_meet
          rw [HT9.out]
          have hbn : Below W.heap.size W wn := HB.out.trans ⟨HG4.out.os, HG4.out.tape, HG4.out.output, HG4.out.size, fun k hk => HG4.out.block k (by have := HB.out.size; omega) (some_ne (by omega))⟩
          have hen := MapE.put (F := notB W.heap.size) HENT.out (tells_yes _ _ x) HG4.out (by simp [notB]) (mapIs_put HM4.out)
          have hmn : MapIs wn W.heap.size [(bs [109, 117, 108, 116, 105, 95, 109, 97, 116, 99, 104], .iface 112 (.map (some (W.heap.size + 1))))] := HM.out.same (HG4.out.block _ HM.out.lt (some_ne (by omega)))
          exact ⟨hbn, hmn, hen⟩
      clear HB HM HE HL HENT HLN
      obtain ⟨hb, hm, he⟩ := hcut
      have HB := hide hb
      have HM := hide hm
      obtain ⟨E13, hE'⟩ : ∃ x, x = E12 ++ ent [108, 101, 110, 105, 101, 110, 116] (fvT (q.f 15)) := ⟨_, rfl⟩
      rw [← hE'] at he
      have HE := hide he
      have HEQ13 : Hid (E13 = E12 ++ ent [108, 101, 110, 105, 101, 110, 116] (fvT (q.f 15))) := hide hE'
      clear hb hm he hE'
      have hel13 : E13.length ≤ 15 := by rw [HEQ13.out, List.length_append]; have := ent_le [108, 101, 110, 105, 101, 110, 116] (fvT (q.f 15)); omega
      -- cutoff_frequency
      obtain ⟨L, hL, hent⟩ := HE.out
      have HL := hide hL
      have HENT := hide hent
      have HLN := hide hent.length
      clear hL hent
      obtain ⟨u, hu, hfa⟩ := H.out.field 16 (by decide) (by decide) (by decide)
      have hshp : q.f 16 = .nop ∨ ∃ x, q.f 16 = .opt 22 (.float .f64 x) := HSH.out ([99, 117, 116, 111, 102, 102, 95, 102, 114, 101, 113, 117, 101, 110, 99, 121], 16, 1) (by decide)
      have HSP := hide hshp
      have hux : wc.cell? ⟨bq, 16, none⟩ = some u := (HB.out.cell hbq).trans hu
      have hu2 : (q.f 16 = .nop ∧ u = .pointer none) ∨ ∃ p x, q.f 16 = .opt 22 (.float .f64 x) ∧ u = .pointer (some ⟨p, 0, none⟩) ∧ p < W.heap.size ∧ W.cell? ⟨p, 0, none⟩ = some (.float .f64 x) := by
        rcases hshp with e | ⟨x, e⟩
        · rw [e] at hfa; exact Or.inl ⟨e, hfa⟩
        · rw [e] at hfa
          obtain ⟨p, -, -, -, e1, e2⟩ := hfa
          exact Or.inr ⟨p, x, e, e1, lt_of_block e2, by rw [cell_of_row W p 0 _ _ _ e2]; rfl⟩
      have HU := hide hu2
      obtain ⟨ou, hou⟩ : ∃ ou, u = .pointer ou := by
        rcases hu2 with ⟨-, e⟩ | ⟨p, x, -, e, -⟩ <;> exact ⟨_, e⟩
      subst hou
      clear hshp hu2 hu hfa
      go_upto_if 228 with fail
      go_cut [] from 224 to 236 (fun wn => Below W.heap.size W wn ∧ MapIs wn W.heap.size [(bs [109, 117, 108, 116, 105, 95, 109, 97, 116, 99, 104], .iface 112 (.map (some (W.heap.size + 1))))] ∧ MapE (notB W.heap.size) wn (W.heap.size + 1) (E13 ++ ent [99, 117, 116, 111, 102, 102, 95, 102, 114, 101, 113, 117, 101, 110, 99, 121] (fvT (q.f 16))))
      case first =>
        rcases HU.out with ⟨e1, e2⟩ | ⟨p, x, e1, e2, e3, e4⟩
        · have HT9 : Hid (fvT (q.f 16) = none) := hide (by rw [e1]; rfl)
          cases e2
          clear e1
          go_wp2_with fail
          go_meet
          rw [HT9.out]
          exact ⟨HB.out, HM.out, by simpa [ent] using HE.out⟩
        · have HT9 : Hid (fvT (q.f 16) = some (tNum x)) := hide (by rw [e1]; rfl)
          cases e2
          have hpx : wc.cell? ⟨p, 0, none⟩ = some (.float .f64 x) := (HB.out.cell e3).trans e4
          have HP9 := hide hpx
          clear e1 e4
          go_wp2_with (first | (at_mapUpdate; refine wpList_mapUpdate_own _ rfl _ _ _ 112 rfl 9 20 key9 Tryz.underlying112 RV (W.heap.size + 1) L.length (putAll L) rfl HL.out (by rw [HLN.out]; unfold maxLen; omega) _ _ (KL (bs [99, 117, 116, 111, 102, 102, 95, 102, 114, 101, 113, 117, 101, 110, 99, 121])) rfl rfl (key_ok (by decide)) (.held (.iface 22 (.float .f64 x))) [] rfl ?_; intro wn hm4 hg4; have HM4 := hide hm4; have HG4 := hide hg4; clear hm4 hg4) | go_in)
          go_meet
          rw [HT9.out]
          have hbn : Below W.heap.size W wn := HB.out.trans ⟨HG4.out.os, HG4.out.tape, HG4.out.output, HG4.out.size, fun k hk => HG4.out.block k (by have := HB.out.size; omega) (some_ne (by omega))⟩
          have hen := MapE.put (F := notB W.heap.size) HENT.out (tells_num _ _ x) HG4.out (by simp [notB]) (mapIs_put HM4.out)
          have hmn : MapIs wn W.heap.size [(bs [109, 117, 108, 116, 105, 95, 109, 97, 116, 99, 104], .iface 112 (.map (some (W.heap.size + 1))))] := HM.out.same (HG4.out.block _ HM.out.lt (some_ne (by omega)))
          exact ⟨hbn, hmn, hen⟩
      clear HB HM HE HL HENT HLN
      obtain ⟨hb, hm, he⟩ := hcut
      have HB := hide hb
      have HM := hide hm
      obtain ⟨E14, hE'⟩ : ∃ x, x = E13 ++ ent [99, 117, 116, 111, 102, 102, 95, 102, 114, 101, 113, 117, 101, 110, 99, 121] (fvT (q.f 16)) := ⟨_, rfl⟩
      rw [← hE'] at he
      have HE := hide he
      have HEQ14 : Hid (E14 = E13 ++ ent [99, 117, 116, 111, 102, 102, 95, 102, 114, 101, 113, 117, 101, 110, 99, 121] (fvT (q.f 16))) := hide hE'
      clear hb hm he hE'
      have hel14 : E14.length ≤ 16 := by rw [HEQ14.out, List.length_append]; have := ent_le [99, 117, 116, 111, 102, 102, 95, 102, 114, 101, 113, 117, 101, 110, 99, 121] (fvT (q.f 16)); omega
      -- zero_terms_query
      obtain ⟨L, hL, hent⟩ := HE.out
      have HL := hide hL
      have HENT := hide hent
      have HLN := hide hent.length
      clear hL hent
      obtain ⟨s, hs⟩ : ∃ s, q.f 17 = .val (.string s) := HSH.out ([122, 101, 114, 111, 95, 116, 101, 114, 109, 115, 95, 113, 117, 101, 114, 121], 17, 0) (by decide)
      obtain ⟨u, hu, hfa⟩ := H.out.field 17 (by decide) (by decide) (by decide)
      rw [hs] at hfa
      obtain rfl : u = .string s := hfa
      have hx : wc.cell? ⟨bq, 17, none⟩ = some (.string s) := (HB.out.cell hbq).trans hu
      have HS := hide hs
      clear hs hu
      go_upto_if 241 with fail
      go_cut [] from 237 to 247 (fun wn => Below W.heap.size W wn ∧ MapIs wn W.heap.size [(bs [109, 117, 108, 116, 105, 95, 109, 97, 116, 99, 104], .iface 112 (.map (some (W.heap.size + 1))))] ∧ MapE (notB W.heap.size) wn (W.heap.size + 1) (E14 ++ ent [122, 101, 114, 111, 95, 116, 101, 114, 109, 115, 95, 113, 117, 101, 114, 121] (fvT (q.f 17))))
      case first =>
        cases hts : s.toList.isEmpty
        · have HT9 : Hid (fvT (q.f 17) = some (tText s)) := hide (by rw [HS.out]; simp only [fvT, hts]; rfl)
          go_wp2_with (first | (at_mapUpdate; refine wpList_mapUpdate_own _ rfl _ _ _ 112 rfl 9 20 key9 Tryz.underlying112 RV (W.heap.size + 1) L.length (putAll L) rfl HL.out (by rw [HLN.out]; unfold maxLen; omega) _ _ (KL (bs [122, 101, 114, 111, 95, 116, 101, 114, 109, 115, 95, 113, 117, 101, 114, 121])) rfl rfl (key_ok (by decide)) (.held (.iface 9 (.string s))) [] rfl ?_; intro wn hm4 hg4; have HM4 := hide hm4; have HG4 := hide hg4; clear hm4 hg4) | go_in)
          go_meet
          rw [HT9.out]
          have hbn : Below W.heap.size W wn := HB.out.trans ⟨HG4.out.os, HG4.out.tape, HG4.out.output, HG4.out.size, fun k hk => HG4.out.block k (by have := HB.out.size; omega) (some_ne (by omega))⟩
          have hen := MapE.put (F := notB W.heap.size) HENT.out (tells_text _ _ s) HG4.out (by simp [notB]) (mapIs_put HM4.out)
          have hmn : MapIs wn W.heap.size [(bs [109, 117, 108, 116, 105, 95, 109, 97, 116, 99, 104], .iface 112 (.map (some (W.heap.size + 1))))] := HM.out.same (HG4.out.block _ HM.out.lt (some_ne (by omega)))
          exact ⟨hbn, hmn, hen⟩
        · have HT9 : Hid (fvT (q.f 17) = none) := hide (by rw [HS.out]; simp only [fvT, hts]; rfl)
          go_wp2_with fail
          go_meet
          rw [HT9.out]
          exact ⟨HB.out, HM.out, by simpa [ent] using HE.out⟩
      clear HB HM HE HL HENT HLN
      obtain ⟨hb, hm, he⟩ := hcut
      have HB := hide hb
      have HM := hide hm
      obtain ⟨E15, hE'⟩ : ∃ x, x = E14 ++ ent [122, 101, 114, 111, 95, 116, 101, 114, 109, 115, 95, 113, 117, 101, 114, 121] (fvT (q.f 17)) := ⟨_, rfl⟩
      rw [← hE'] at he
      have HE := hide he
      have HEQ15 : Hid (E15 = E14 ++ ent [122, 101, 114, 111, 95, 116, 101, 114, 109, 115, 95, 113, 117, 101, 114, 121] (fvT (q.f 17))) := hide hE'
      clear hb hm he hE'
      have hel15 : E15.length ≤ 17 := by rw [HEQ15.out, List.length_append]; have := ent_le [122, 101, 114, 111, 95, 116, 101, 114, 109, 115, 95, 113, 117, 101, 114, 121] (fvT (q.f 17)); omega
      -- _name
      obtain ⟨L, hL, hent⟩ := HE.out
      have HL := hide hL
      have HENT := hide hent
      have HLN := hide hent.length
      clear hL hent
      obtain ⟨s, hs⟩ : ∃ s, q.f 18 = .val (.string s) := HSH.out ([95, 110, 97, 109, 101], 18, 0) (by decide)
      obtain ⟨u, hu, hfa⟩ := H.out.field 18 (by decide) (by decide) (by decide)
      rw [hs] at hfa
      obtain rfl : u = .string s := hfa
      have hx : wc.cell? ⟨bq, 18, none⟩ = some (.string s) := (HB.out.cell hbq).trans hu
      have HS := hide hs
      clear hs hu
      go_upto_if 252 with fail
      go_cut [] from 248 to 258 (fun wn => Below W.heap.size W wn ∧ MapIs wn W.heap.size [(bs [109, 117, 108, 116, 105, 95, 109, 97, 116, 99, 104], .iface 112 (.map (some (W.heap.size + 1))))] ∧ MapE (notB W.heap.size) wn (W.heap.size + 1) (E15 ++ ent [95, 110, 97, 109, 101] (fvT (q.f 18))))
      case first =>
        cases hts : s.toList.isEmpty
        · have HT9 : Hid (fvT (q.f 18) = some (tText s)) := hide (by rw [HS.out]; simp only [fvT, hts]; rfl)
          go_wp2_with (first | (at_mapUpdate; refine wpList_mapUpdate_own _ rfl _ _ _ 112 rfl 9 20 key9 Tryz.underlying112 RV (W.heap.size + 1) L.length (putAll L) rfl HL.out (by rw [HLN.out]; unfold maxLen; omega) _ _ (KL (bs [95, 110, 97, 109, 101])) rfl rfl (key_ok (by decide)) (.held (.iface 9 (.string s))) [] rfl ?_; intro wn hm4 hg4; have HM4 := hide hm4; have HG4 := hide hg4; clear hm4 hg4) | go_in)
          go_meet
          rw [HT9.out]
          have hbn : Below W.heap.size W wn := HB.out.trans ⟨HG4.out.os, HG4.out.tape, HG4.out.output, HG4.out.size, fun k hk => HG4.out.block k (by have := HB.out.size; omega) (some_ne (by omega))⟩
          have hen := MapE.put (F := notB W.heap.size) HENT.out (tells_text _ _ s) HG4.out (by simp [notB]) (mapIs_put HM4.out)
          have hmn : MapIs wn W.heap.size [(bs [109, 117, 108, 116, 105, 95, 109, 97, 116, 99, 104], .iface 112 (.map (some (W.heap.size + 1))))] := HM.out.same (HG4.out.block _ HM.out.lt (some_ne (by omega)))
          exact ⟨hbn, hmn, hen⟩
        · have HT9 : Hid (fvT (q.f 18) = none) := hide (by rw [HS.out]; simp only [fvT, hts]; rfl)
          go_wp2_with fail
          go_meet
          rw [HT9.out]
          exact ⟨HB.out, HM.out, by simpa [ent] using HE.out⟩
      clear HB HM HE HL HENT HLN
      obtain ⟨hb, hm, he⟩ := hcut
      have HB := hide hb
      have HM := hide hm
      obtain ⟨E16, hE'⟩ : ∃ x, x = E15 ++ ent [95, 110, 97, 109, 101] (fvT (q.f 18)) := ⟨_, rfl⟩
      rw [← hE'] at he
      have HE := hide he
      have HEQ16 : Hid (E16 = E15 ++ ent [95, 110, 97, 109, 101] (fvT (q.f 18))) := hide hE'
      clear hb hm he hE'
      have hel16 : E16.length ≤ 18 := by rw [HEQ16.out, List.length_append]; have := ent_le [95, 110, 97, 109, 101] (fvT (q.f 18)); omega
      have hEE : E16 = entsMM bt t0 q := by unfold entsMM; rw [HEQ16.out, HEQ15.out, HEQ14.out, HEQ13.out, HEQ12.out, HEQ11.out, HEQ10.out, HEQ9.out, HEQ8.out, HEQ7.out, HEQ6.out, HEQ5.out, HEQ4.out, HEQ3.out, HEQ2.out, HEQ1.out, HEQ0.out]; rfl
      have hin : TellsF (fun _ => True) wc (.iface 112 (.map (some (W.heap.size + 1)))) (mapTree E16) := tells_map (HE.out.weaken (fun _ _ => trivial)) trivial (by rw [hEE]; simp [entsMM]) (by omega)
      have hout : MapE (fun _ => True) wc W.heap.size [(bs [109, 117, 108, 116, 105, 95, 109, 97, 116, 99, 104], mapTree (entsMM bt t0 q))] := by
        rw [← hEE]
        exact ⟨_, HM.out, Ents.snoc (L := []) (E := []) .nil hin⟩
      have HOUT := hide hout
      clear hEE hin hout
      go_wp2_with fail
      go_returns
      exact ⟨_, rfl, (tells_map HOUT.out trivial (by simp) (by simp)).tells, HB.out⟩
end Go.Proofs.YtbcnhcpgloncdaaGreatDoor

/-
  impl.MultiMatch: WHAT IT TELLS, AND THAT IT IS Same WITH ITSELF.
-/
namespace Go.Proofs.YtbcnhcpgloncdaaGreatDoor
open Go.RowKit Go.Sort

theorem compatMM : Compat qtMM MM := ⟨by rw [rowsMM_is]; decide +kernel, by rw [rowsMM_is]; decide +kernel⟩
theorem pairMM : qtMM.Pairwise (fun a b => a.2.1 ≠ b.2.1) := by decide +kernel
theorem shapedMM (u : Value) (ks : List ByteArray) : Shaped qtMM (initQ (cMM u) ks) := by
  intro r hr
  simp only [qtMM, List.mem_cons, List.not_mem_nil, or_false] at hr
  rcases hr with rfl | rfl | rfl | rfl | rfl | rfl | rfl | rfl | rfl | rfl | rfl | rfl | rfl | rfl | rfl | rfl
  all_goals first | exact Or.inl rfl | exact ⟨_, rfl⟩
theorem initMM_ok (u : Value) (hu : ∃ k x, u = .iface k x) (ks : List ByteArray) : ∀ i, FVok ((initQ (cMM u) ks).f i) := by
  obtain ⟨k, x, rfl⟩ := hu
  intro i
  show FVok (fvOf ((cMM (.iface k x))[i]?.getD .nilIface))
  rcases Nat.lt_or_ge i 19 with h | h
  · have : i = 0 ∨ i = 1 ∨ i = 2 ∨ i = 3 ∨ i = 4 ∨ i = 5 ∨ i = 6 ∨ i = 7 ∨ i = 8 ∨ i = 9 ∨ i = 10 ∨ i = 11 ∨ i = 12 ∨ i = 13 ∨ i = 14 ∨ i = 15 ∨ i = 16 ∨ i = 17 ∨ i = 18 := by omega
    rcases this with rfl | rfl | rfl | rfl | rfl | rfl | rfl | rfl | rfl | rfl | rfl | rfl | rfl | rfl | rfl | rfl | rfl | rfl | rfl
    all_goals first | exact fvok_text ⟨#[]⟩ | exact fun t h => by cases h
  · have e : (cMM (.iface k x))[i]? = none := Array.getElem?_eq_none h
    rw [e]
    exact fun t h => by cases h
theorem len_ent {a : List (ByteArray × T)} {n : Nat} (k : List UInt8) (o : Option T) (h : a.length ≤ n) : (a ++ ent k o).length ≤ n + 1 := by
  rw [List.length_append]
  have := ent_le k o
  omega
def q0MM (text : T) (fields : List ByteArray) : Q := initQ (cMM (plainV text)) fields
noncomputable def treeMM (text : T) (q : Q) : T := mapTree [(bs [109, 117, 108, 116, 105, 95, 109, 97, 116, 99, 104], mapTree (entsMM bText (leafT text) q))]
theorem all_append {α : Type} {P : α → Prop} {a b : List α} (h1 : ∀ p ∈ a, P p) (h2 : ∀ p ∈ b, P p) : ∀ p ∈ a ++ b, P p := fun p hp => (List.mem_append.1 hp).elim (h1 p) (h2 p)

theorem entsMM_ok {text : T} (ht : scalarT text = true) {q : Q} (hq : ∀ i, FVok (q.f i)) : ∀ p ∈ entsMM bText (leafT text) q, sameB p.2 p.2 = true ∧ wT p.2 ≤ 1 + q.fields.length * 2 := by
  have hw : ∀ key i, ∀ p ∈ ent key (fvT (q.f i)), sameB p.2 p.2 = true ∧ wT p.2 ≤ 1 + q.fields.length * 2 := fun key i p hp => by
    have := ent_ok (hq i) p hp
    exact ⟨this.1, by omega⟩
  unfold entsMM
  repeat (refine all_append ?_ (hw _ _))
  refine all_append ?_ ?_
  · intro p hp
    obtain rfl : p = _ := by simpa using hp
    have := leaf_same ht
    exact ⟨this.1, by show wT (leafT text) ≤ _; omega⟩
  · intro p hp
    obtain rfl : p = _ := by simpa using hp
    refine ⟨same_list _, ?_⟩
    have := wT_list (fieldTexts bText q)
    have e : (fieldTexts bText q).length = q.fields.length := by simp [fieldTexts]
    rw [e] at this
    exact this
theorem entsMM_len (t0 : T) (q : Q) : (entsMM bText t0 q).length ≤ 18 := by
  unfold entsMM
  repeat (refine len_ent _ _ ?_)
  simp

theorem treeMM_ok {text : T} (ht : scalarT text = true) {q : Q} (hq : ∀ i, FVok (q.f i)) (hn : q.fields.length ≤ 4194304) : sameB (treeMM text q) (treeMM text q) = true ∧ wT (treeMM text q) ≤ 1073741824 := by
  have he := entsMM_ok ht hq
  have hl := entsMM_len (leafT text) q
  constructor
  · refine same_map fun p hp => ?_
    obtain rfl : p = _ := by simpa using hp
    exact same_map fun p hp => (he p hp).1
  · have h1 := wT_map (E := entsMM bText (leafT text) q) (M := 1 + q.fields.length * 2) fun p hp => (he p hp).2
    have h2 : (entsMM bText (leafT text) q).length * (1 + q.fields.length * 2 + 1) ≤ 18 * (1 + q.fields.length * 2 + 1) := Nat.mul_le_mul_right _ hl
    have h3 := wT_map (E := [(bs [109, 117, 108, 116, 105, 95, 109, 97, 116, 99, 104], mapTree (entsMM bText (leafT text) q))]) (M := 1000000000) fun p hp => by
      obtain rfl : p = _ := by simpa using hp
      show wT (mapTree (entsMM bText (leafT text) q)) ≤ _
      omega
    simp only [List.length_singleton] at h3
    show wT (mapTree _) ≤ _
    omega

theorem run_q {text : T} {fields : List ByteArray} {ss : List S} (h2 : fields.length ≤ 1048576) (h3 : ss.length ≤ 1048576) (hfit : ∀ s ∈ ss, fitsAt MM s = true) :
    (∀ i, FVok ((runQ qtMM (q0MM text fields) ss).f i)) ∧ (runQ qtMM (q0MM text fields) ss).fields.length ≤ 4194304 := by
  refine ⟨fvok_run compatMM ss _ (initMM_ok _ (plain_iface text) fields) hfit, ?_⟩
  have := (runQ_len qtMM ss (q0MM text fields)).1
  have e : (q0MM text fields).fields = fields := rfl
  rw [e] at this
  omega

/-- impl.MultiMatch's contract, whole. -/
theorem mm_any {w : World} {ok : Nat → Prop} {vt vf vs : Value} {text : T} {fields : List ByteArray} {ss : List S} (hG : Glob w) (hsc : scalarT text = true) (h2 : fields.length ≤ 1048576) (h3 : ss.length ≤ 1048576) (h4 : ∀ f ∈ fields, f.size ≤ 1048576) (h5 : ∀ s ∈ ss, s.value.text.size ≤ 1048576)
    (h6 : ∀ s ∈ ss, s.value.num < 18446744073709551616) (hfit : ∀ s ∈ ss, fitsAt MM s = true) (ht : TreeAt w ok vt text) (hf : StrsAt w ok vf fields) (hs : SetsAt w ok vs ss) :
    Calls Tryz.prog 16 #[vt, vf, vs] w (RetTold w fun t => t = treeMM text (runQ qtMM (q0MM text fields) ss)) := by
  have hk := (scalar_kind hsc).1
  refine impl_16 ht hk hf hs hfit (fun s hs => by have := h5 s hs; omega) (by omega) hG (fun q t => t = treeMM text q) ?_
  intro w1 lo bq hb hlo hq
  have hr := run_q (text := text) h2 h3 hfit
  refine source_53 bText (okx := okB) (fun x w h hg => formatFloat_any x w h hg) bText_small hq (hG.below hb) (shaped_run pairMM ss (shapedMM _ fields)) (plainV text) (leafT text) ?_ (plain_iface text) (tells_plain text) ?_ ?_ hr.2
  · obtain ⟨k, x, e⟩ := plain_iface text
    rw [run_other (by decide +kernel), e]
    rfl
  · exact boosts_run compatMM ss _ (fun p hp => by cases hp) hfit h6
  · exact fun f hf => Nat.le_trans (fields_run ss _ h4 h5 f hf) (by decide)
end Go.Proofs.YtbcnhcpgloncdaaGreatDoor
