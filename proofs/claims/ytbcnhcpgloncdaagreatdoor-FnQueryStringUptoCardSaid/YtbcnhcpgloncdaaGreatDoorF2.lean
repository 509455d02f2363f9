/-
  WHAT Source OF A query_string QUERY GIVES. (Printed by gen/source.py.)
-/
import Derived.Test.YtbcnhcpgloncdaaGreatDoorA4
namespace Go.Proofs.YtbcnhcpgloncdaaGreatDoor
open Go.RowKit Go.Sort Go.ChangeMaps Go.MapKept Go.Lib
open Go.Maps (Keyed has IsMap)

/-- A text, lower-cased. -/
def lowO (o : Option T) : Option T := o.map fun t => tText (lowerB t.text)
theorem app_ne {α : Type} {a b : List α} (h : a ≠ []) : a ++ b ≠ [] := fun e => h (List.append_eq_nil_iff.1 e).1
theorem entF_le (ks : List ByteArray) : (entF ks).length ≤ 1 := by unfold entF; split <;> simp
theorem lower_call (s : ByteArray) (w : World) (hG : Glob w) (hs : s.size < 35184372088832) : Calls Tryz.prog 126 #[.string s] w fun e w' => e = .returned (.string (lowerB s)) ∧ Below w.heap.size w w' :=
  Tryz.strings_ToLower_any s w hs hG.case hG.utf

def entsQS (bt : Nat → List UInt8) (t0 : T) (q : Q) : List (ByteArray × T) := (((((((((((((((((((((((((([(bs [113, 117, 101, 114, 121], t0)] ++ ent [100, 101, 102, 97, 117, 108, 116, 95, 102, 105, 101, 108, 100] (fvT (q.f 1))) ++ entF (fieldTexts bt q)) ++ ent [116, 105, 101, 95, 98, 114, 101, 97, 107, 101, 114] (fvT (q.f 19))) ++ ent [100, 101, 102, 97, 117, 108, 116, 95, 111, 112, 101, 114, 97, 116, 111, 114] (fvT (q.f 2))) ++ ent [97, 110, 97, 108, 121, 122, 101, 114] (fvT (q.f 3))) ++ ent [113, 117, 111, 116, 101, 95, 97, 110, 97, 108, 121, 122, 101, 114] (fvT (q.f 4))) ++ ent [109, 97, 120, 95, 100, 101, 116, 101, 114, 109, 105, 110, 105, 122, 101, 100, 95, 115, 116, 97, 116, 101, 115] (fvT (q.f 25))) ++ ent [97, 108, 108, 111, 119, 95, 108, 101, 97, 100, 105, 110, 103, 95, 119, 105, 108, 100, 99, 97, 114, 100] (fvT (q.f 6))) ++ ent [108, 111, 119, 101, 114, 99, 97, 115, 101, 95, 101, 120, 112, 97, 110, 100, 101, 100, 95, 116, 101, 114, 109, 115] (fvT (q.f 7))) ++ ent [101, 110, 97, 98, 108, 101, 95, 112, 111, 115, 105, 116, 105, 111, 110, 95, 105, 110, 99, 114, 101, 109, 101, 110, 116, 115] (fvT (q.f 8))) ++ ent [102, 117, 122, 122, 105, 110, 101, 115, 115] (fvT (q.f 12))) ++ ent [98, 111, 111, 115, 116] (fvT (q.f 11))) ++ ent [102, 117, 122, 122, 121, 95, 112, 114, 101, 102, 105, 120, 95, 108, 101, 110, 103, 116, 104] (fvT (q.f 13))) ++ ent [102, 117, 122, 122, 121, 95, 109, 97, 120, 95, 101, 120, 112, 97, 110, 115, 105, 111, 110, 115] (fvT (q.f 14))) ++ ent [102, 117, 122, 122, 121, 95, 114, 101, 119, 114, 105, 116, 101] (fvT (q.f 15))) ++ ent [112, 104, 114, 97, 115, 101, 95, 115, 108, 111, 112] (fvT (q.f 16))) ++ ent [97, 110, 97, 108, 121, 122, 101, 95, 119, 105, 108, 100, 99, 97, 114, 100] (fvT (q.f 9))) ++ ent [114, 101, 119, 114, 105, 116, 101] (fvT (q.f 20))) ++ ent [109, 105, 110, 105, 109, 117, 109, 95, 115, 104, 111, 117, 108, 100, 95, 109, 97, 116, 99, 104] (fvT (q.f 21))) ++ ent [113, 117, 111, 116, 101, 95, 102, 105, 101, 108, 100, 95, 115, 117, 102, 102, 105, 120] (fvT (q.f 5))) ++ ent [108, 101, 110, 105, 101, 110, 116] (fvT (q.f 22))) ++ ent [95, 110, 97, 109, 101] (fvT (q.f 23))) ++ ent [108, 111, 99, 97, 108, 101] (fvT (q.f 10))) ++ ent [116, 105, 109, 101, 95, 122, 111, 110, 101] (fvT (q.f 24))) ++ ent [101, 115, 99, 97, 112, 101] (fvT (q.f 26))) ++ ent [116, 121, 112, 101] (fvT (q.f 27)))

set_option maxHeartbeats 16000000 in
set_option maxRecDepth 100000 in
theorem source_120 {W : World} {lo bq : Nat} {q : Q} {okx : Nat → Prop} (bt : Nat → List UInt8) (HFF : ∀ (x : Nat) (w : World), okx x → Glob w → Calls Tryz.prog 128 #[.float .f64 x, .int .u8 102, .int .i64 6, .int .i64 64] w (RetText w (bt x))) (hbt : ∀ x, okx x → (bt x).length ≤ 1000)
    (h : QAt W lo bq gQS q) (hG : Glob W) (hsh : Shaped qtQS q) (s0 : ByteArray) (h0 : q.f 0 = .val (.string s0)) (hx7 : q.f 7 = .nop) (hx10 : q.f 10 = .val (.string ⟨#[]⟩))
    (hbo : ∀ p ∈ q.boosts, okx p.2) (hfs : ∀ f ∈ q.fields, f.size ≤ 1099511627776) (hln : q.fields.length ≤ 4194304) :
    Calls Tryz.prog 120 #[.pointer (some ⟨bq, 0, none⟩)] W (RetSrc W fun t => t = mapTree [(bs [113, 117, 101, 114, 121, 95, 115, 116, 114, 105, 110, 103], mapTree (entsQS bt (tText s0) q))]) := by
  have HFF' := hide HFF
  have HX7 := hide hx7
  have HX10 := hide hx10
  clear hx7 hx10
  have H := hide h
  have HG := hide hG
  have HSH := hide hsh
  have HBO := hide hbo
  have HFS := hide hfs
  obtain ⟨vF, hcF, hsF⟩ := h.fieldsAt
  obtain ⟨bm, hcB, hbA, hbm⟩ := h.boostAt
  obtain ⟨v0, hc0, hf0⟩ := h.field 0 (by decide) (by decide) (by decide)
  rw [h0] at hf0
  obtain rfl : v0 = .string s0 := hf0
  dsimp only [gQS] at hcF hcB
  obtain ⟨aF, capF, rfl, hcapF, hcellF⟩ := hsF
  have HCF := hide hcellF
  have HBA := hide hbA
  have hbq := h.lt
  have hmk : ∀ w : World, (Instr.makeMap 112 none).run Tryz.prog w = .ok (.map (some w.heap.size)) (w.alloc (.map #[] 0)) := run_makeMap 112
  have HFTL : Hid ((fieldTexts bt q).length = q.fields.length) := hide (by simp [fieldTexts])
  clear h hG hsh hbo hfs hcellF hbA h0 HFF
  go_enter Tryz.func120, Tryz.ntmps120
  go_upto_region 4 with (first | (at_mapUpdate; refine wpList_mapUpdate_own _ rfl (.tmp 13) _ (.tmp 15) 112 rfl 9 20 key9 Tryz.underlying112 RV W.heap.size 0 (putAll []) rfl (MapIs.same (MapIs.made W) ((MapKept.heap_alloc _ _).2 _ (by simp))) (by unfold maxLen; omega) _ _ (KL (bs [113, 117, 101, 114, 121, 95, 115, 116, 114, 105, 110, 103])) rfl rfl (key_ok (by decide)) (.held (.iface 112 (.map (some (W.heap.size + 1))))) [] rfl ?_; intro w1 hm1 hg1) | go_in)
  have HB : Hid (Below W.heap.size W w1) := hide ((show Below W.heap.size W ((W.alloc (.map #[] 0)).alloc (.map #[] 0)) by go_grown).trans ⟨hg1.os, hg1.tape, hg1.output, hg1.size, fun k hk => hg1.block k (by simp; omega) (some_ne (by omega))⟩)
  have hi0 : MapIs ((W.alloc (.map #[] 0)).alloc (.map #[] 0)) (W.heap.size + 1) [] := by have := MapIs.made (W.alloc (.map #[] 0)); rw [World.size_alloc] at this; exact this
  have HM : Hid (MapIs w1 W.heap.size [(bs [113, 117, 101, 114, 121, 95, 115, 116, 114, 105, 110, 103], .iface 112 (.map (some (W.heap.size + 1))))]) := hide (mapIs_put (L := []) hm1)
  have HI : Hid (MapIs w1 (W.heap.size + 1) []) := hide (hi0.same (hg1.block _ hi0.lt (some_ne (by omega))))
  clear hm1 hg1 hi0
  have hx0 : w1.cell? ⟨bq, 0, none⟩ = some (.string s0) := (HB.out.cell hbq).trans hc0
  go_upto_region 5 with (first | (at_mapUpdate; refine wpList_mapUpdate_own _ rfl _ _ _ 112 rfl 9 20 key9 Tryz.underlying112 RV (W.heap.size + 1) 0 (putAll []) rfl HI.out (by unfold maxLen; omega) _ _ (KL (bs [113, 117, 101, 114, 121])) rfl rfl (key_ok (by decide)) (.held (.iface 9 (.string s0))) [] rfl ?_; intro wc hm4 hg4; have HM4 := hide hm4; have HG4 := hide hg4; clear hm4 hg4) | go_in)
  have HB2 : Hid (Below W.heap.size W wc) := hide (HB.out.trans ⟨HG4.out.os, HG4.out.tape, HG4.out.output, HG4.out.size, fun k hk => HG4.out.block k (by have := HB.out.size; omega) (some_ne (by omega))⟩)
  have HE2 : Hid (MapE (notB W.heap.size) wc (W.heap.size + 1) ([] ++ [(bs [113, 117, 101, 114, 121], (tText s0))])) := hide (MapE.put (F := notB W.heap.size) .nil (tells_text _ _ s0) HG4.out (by simp [notB]) (mapIs_put (L := []) HM4.out))
  have HM2 : Hid (MapIs wc W.heap.size [(bs [113, 117, 101, 114, 121, 95, 115, 116, 114, 105, 110, 103], .iface 112 (.map (some (W.heap.size + 1))))]) := hide (HM.out.same (HG4.out.block _ HM.out.lt (some_ne (by omega))))
  clear HB HM HI HM4 HG4 hx0
  have HB := HB2
  have HM := HM2
  obtain ⟨E90, hE90⟩ : ∃ x, x = ([] ++ [(bs [113, 117, 101, 114, 121], (tText s0))]) := ⟨_, rfl⟩
  have he := HE2.out
  rw [← hE90] at he
  have HE := hide he
  have HEQ90 := hide hE90
  have hel90 : E90.length ≤ 1 := by rw [hE90]; simp
  clear he hE90
  clear HB2 HM2 HE2
  -- default_field
  obtain ⟨L, hL, hent⟩ := HE.out
  have HL := hide hL
  have HENT := hide hent
  have HLN := hide hent.length
  clear hL hent
  obtain ⟨s, hs⟩ : ∃ s, q.f 1 = .val (.string s) := shape_at 0 1 (by decide) HSH.out
  obtain ⟨u, hu, hfa⟩ := H.out.field 1 (by decide) (by decide) (by decide)
  rw [hs] at hfa
  obtain rfl : u = .string s := hfa
  have hx : wc.cell? ⟨bq, 1, none⟩ = some (.string s) := (HB.out.cell hbq).trans hu
  have HS := hide hs
  clear hs hu
  go_upto_if 26 with fail
  go_cut [] from 22 to 31 (fun wn => Below W.heap.size W wn ∧ MapIs wn W.heap.size [(bs [113, 117, 101, 114, 121, 95, 115, 116, 114, 105, 110, 103], .iface 112 (.map (some (W.heap.size + 1))))] ∧ MapE (notB W.heap.size) wn (W.heap.size + 1) (E90 ++ ent [100, 101, 102, 97, 117, 108, 116, 95, 102, 105, 101, 108, 100] (fvT (q.f 1))))
  case first =>
    cases hts : s.toList.isEmpty
    · have HT9 : Hid (fvT (q.f 1) = some (tText s)) := hide (by rw [HS.out]; simp only [fvT, hts]; rfl)
      go_wp2_with (first | (at_mapUpdate; refine wpList_mapUpdate_own _ rfl _ _ _ 112 rfl 9 20 key9 Tryz.underlying112 RV (W.heap.size + 1) L.length (putAll L) rfl HL.out (by rw [HLN.out]; unfold maxLen; omega) _ _ (KL (bs [100, 101, 102, 97, 117, 108, 116, 95, 102, 105, 101, 108, 100])) rfl rfl (key_ok (by decide)) (.held (.iface 9 (.string s))) [] rfl ?_; intro wn hm4 hg4; have HM4 := hide hm4; have HG4 := hide hg4; clear hm4 hg4) | go_in)
      go_meet
      rw [HT9.out]
      have hbn : Below W.heap.size W wn := HB.out.trans ⟨HG4.out.os, HG4.out.tape, HG4.out.output, HG4.out.size, fun k hk => HG4.out.block k (by have := HB.out.size; omega) (some_ne (by omega))⟩
      have hen := MapE.put (F := notB W.heap.size) HENT.out (tells_text _ _ s) HG4.out (by simp [notB]) (mapIs_put HM4.out)
      have hmn : MapIs wn W.heap.size [(bs [113, 117, 101, 114, 121, 95, 115, 116, 114, 105, 110, 103], .iface 112 (.map (some (W.heap.size + 1))))] := HM.out.same (HG4.out.block _ HM.out.lt (some_ne (by omega)))
      exact ⟨hbn, hmn, hen⟩
    · have HT9 : Hid (fvT (q.f 1) = none) := hide (by rw [HS.out]; simp only [fvT, hts]; rfl)
      go_wp2_with fail
      go_meet
      rw [HT9.out]
      exact ⟨HB.out, HM.out, by simpa [ent] using HE.out⟩
  clear HB HM HE HL HENT HLN
  obtain ⟨hb, hm, he⟩ := hcut
  have HB := hide hb
  have HM := hide hm
  obtain ⟨E91, hE'⟩ : ∃ x, x = E90 ++ ent [100, 101, 102, 97, 117, 108, 116, 95, 102, 105, 101, 108, 100] (fvT (q.f 1)) := ⟨_, rfl⟩
  rw [← hE'] at he
  have HE := hide he
  have HEQ91 : Hid (E91 = E90 ++ ent [100, 101, 102, 97, 117, 108, 116, 95, 102, 105, 101, 108, 100] (fvT (q.f 1))) := hide hE'
  clear hb hm he hE'
  have hel91 : E91.length ≤ 2 := by rw [HEQ91.out, List.length_append]; have := ent_le [100, 101, 102, 97, 117, 108, 116, 95, 102, 105, 101, 108, 100] (fvT (q.f 1)); omega
  have HB2 := HB
  have HM2 := HM
  have HE2 := HE
  clear HB HM HE
  have hxF : wc.cell? ⟨bq, 17, none⟩ = some (.slice aF q.fields.length capF) := (HB2.out.cell hbq).trans hcF
  have hsz2 : W.heap.size + 2 ≤ wc.heap.size := HE2.out.lt
  have hbq2 : bq < wc.heap.size := by omega
  go_upto_if 38 with fail
  generalize hd9 : decide (0 < q.fields.length) = fb at *
  have HD9 := hide hd9
  clear hd9
  go_cut [6, 8, 9, 10] from 39 to 81 (fun _ _ _ _ wn => Below W.heap.size W wn ∧ MapIs wn W.heap.size [(bs [113, 117, 101, 114, 121, 95, 115, 116, 114, 105, 110, 103], .iface 112 (.map (some (W.heap.size + 1))))] ∧ MapE (notB W.heap.size) wn (W.heap.size + 1) (E91 ++ entF (fieldTexts bt q)))
  case first =>
    cases fb with
    | true =>
      have hq0 : 0 < q.fields.length := of_decide_eq_true HD9.out
      have hne : fieldTexts bt q ≠ [] := by intro h; have := HFTL.out; rw [h] at this; simp at this; omega
      have HNE := hide hne
      clear hne
      go_wp2_with fail
      go_loopw [6, 44] (fun vT i wr => ∃ k : Nat, k ≤ q.fields.length ∧ i = .int .i64 k ∧ Below wc.heap.size wc wr ∧ wr.ownsRow wc.heap.size 9 1 vT k (((fieldTexts bt q).take k).map Value.string)) (fun _ i _ => q.fields.length - (intOf i).toNat)
      case atStart => exact ⟨0, Nat.zero_le _, rfl, by go_grown, ownsRow_nil _ _⟩
      case round =>
        obtain ⟨k, hk, rfl, hbl, hown⟩ := hrel
        have HBL := hide hbl
        have HO := hide hown
        have HBW := hide (HB2.out.trans (hbl.mono HB2.out.size))
        clear hbl hown
        by_cases hlt : k < q.fields.length
        · have HFK : Hid (((fieldTexts bt q).take (k + 1)).map Value.string = (((fieldTexts bt q).take k).map Value.string) ++ [.string (fieldText bt q.boosts q.fields[k])]) := hide (by
            have h9 : k < (fieldTexts bt q).length := by rw [HFTL.out]; exact hlt
            rw [List.take_succ_eq_append_getElem h9, List.map_append]
            simp [fieldTexts])
          obtain ⟨b0, o0, rfl, -, hcell⟩ := HCF.out k q.fields[k] (by simp)
          have hbl0 : b0 < W.heap.size := World.block_lt_of_cell? W _ hcell
          have e0 : wr.cell? ⟨b0, o0 + k, none⟩ = some (.string q.fields[k]) := (HBW.out.cell hbl0).trans hcell
          have eB : wr.cell? ⟨bq, 18, none⟩ = some (.map (some bm)) := (HBW.out.cell hbq).trans hcB
          have i1 : (0 : Int) ≤ (k : Int) := by omega
          have i3 : (k : Int) < (q.fields.length : Int) := by omega
          have hks : q.fields[k].size ≤ maxLen := by have := HFS.out _ (List.getElem_mem hlt); unfold maxLen; omega
          have HLKS := hide ((HBA.out.kept (loose_none W) (below_grown HBW.out)).look hks)
          obtain ⟨fk, hfk⟩ : ∃ x, x = q.fields[k] := ⟨_, rfl⟩
          rw [← hfk] at e0 HFK HLKS
          have HFKE := hide hfk
          clear hcell hks hfk
          rcases HLKS.out with ⟨hn, hlk⟩ | ⟨x, p, hsm, hp, hlk⟩
          · have HFT : Hid (fieldText bt q.boosts fk = fk) := hide (by simp [fieldText, hn])
            clear hn
            go_wp2_with (first | (at_builtin; go_loud (refine wpList_append_one _ rfl (.tmp 74) (.tmp 76) 23 rfl wc.heap.size 9 _ 1 16 Tryz.underlying23 Tryz.info9 rfl (by decide) u6 k (((fieldTexts bt q).take k).map Value.string) rfl (HO.out.alloc _) wr.heap.size 1 #[.string fk] 9 rfl (heap_alloc_new _ _) rfl (by simp [Value.oneCell']) (by omega) (by omega) (by have := HBL.out.size; simp; omega) ?_; intro g cp w3 hown3 hgrow3 hat3; have HO3 := hide hown3; have HG3 := hide hgrow3; clear hown3 hgrow3 hat3)) | go_in)
            go_round
            case rel =>
              refine ⟨k + 1, by omega, by go_num, HBL.out.trans ?_, ?_⟩
              · exact (show Below wc.heap.size wr (wr.alloc (.cells #[.string fk] 9 (0, 0))) from (Below.refl _ _).alloc HBL.out.size _).trans ⟨HG3.out.os, HG3.out.tape, HG3.out.output, HG3.out.size, fun j hj => HG3.out.block j (by have := HBL.out.size; simp; omega) (fun e => by have := (own_lt HO.out e.symm).1; omega)⟩
              · rw [HFK.out, HFT.out]; exact HO3.out
            case measure => simp [intOf]; omega
          · have hpc : wr.cell? ⟨p, 0, none⟩ = some (.float .f64 x) := by rw [cell_of_row wr p 0 _ _ _ hp]; rfl
            have hbx := HBO.out _ (lookL_mem hsm)
            have HBX := hide hbx
            have HFT : Hid (fieldText bt q.boosts fk = fk ++ ⟨#[94]⟩ ++ bs (bt x)) := hide (by simp [fieldText, hsm])
            have hfk1 : fk.size ≤ 1099511627776 := by have := HFS.out _ (List.getElem_mem hlt); rw [← HFKE.out] at this; exact this
            have hcat1 : ∀ w : World, (Op.stringOp .add fk ⟨#[94]⟩).run Tryz.prog w = .ok (.string (fk ++ ⟨#[94]⟩)) w := fun w => run_string_add_sum _ _ _ (by have : (⟨#[94]⟩ : ByteArray).size = 1 := rfl; omega)
            have hcat2 : ∀ w : World, (Op.stringOp .add (fk ++ ⟨#[94]⟩) (bs (bt x))).run Tryz.prog w = .ok (.string (fk ++ ⟨#[94]⟩ ++ bs (bt x))) w := fun w => run_string_add_sum _ _ _ (by have h1 : (⟨#[94]⟩ : ByteArray).size = 1 := rfl; have h2 := hbt x hbx; rw [ByteArray.size_append, bs_size]; omega)
            clear hsm hp hbx
            go_wp2_with fail
            refine (HFF'.out x _ HBX.out (HG.out.below HBW.out)).mono ?_
            rintro e w9 ⟨rfl, hb9⟩
            have HB9 := hide hb9
            have HO9 := hide (ownsRow_kept HO.out hb9)
            have hsz9 : wc.heap.size ≤ w9.heap.size := Nat.le_trans HBL.out.size hb9.size
            clear hb9
            go_wp2_with (first | (at_builtin; go_loud (refine wpList_append_one _ rfl (.tmp 60) (.tmp 68) 23 rfl wc.heap.size 9 _ 1 16 Tryz.underlying23 Tryz.info9 rfl (by decide) u6 k (((fieldTexts bt q).take k).map Value.string) rfl (HO9.out.alloc _) w9.heap.size 1 #[.string _] 9 rfl (heap_alloc_new _ _) rfl (by simp [Value.oneCell']) (by omega) (by omega) (by have := HBL.out.size; simp; omega) ?_; intro g cp w3 hown3 hgrow3 hat3; have HO3 := hide hown3; have HG3 := hide hgrow3; clear hown3 hgrow3 hat3)) | go_in)
            go_round
            case rel =>
              refine ⟨k + 1, by omega, by go_num, HBL.out.trans ((HB9.out.mono HBL.out.size).trans ?_), ?_⟩
              · exact (show Below wc.heap.size w9 (w9.alloc _) from (Below.refl _ _).alloc hsz9 _).trans ⟨HG3.out.os, HG3.out.tape, HG3.out.output, HG3.out.size, fun j hj => HG3.out.block j (by simp; omega) (fun e => by have := (own_lt HO9.out e.symm).1; omega)⟩
              · rw [HFK.out, HFT.out]; exact HO3.out
            case measure => simp [intOf]; omega
        · obtain rfl : k = q.fields.length := by omega
          have HOF : Hid (wr.ownsRow wc.heap.size 9 1 u6 (fieldTexts bt q).length ((fieldTexts bt q).map Value.string)) := hide (by have := HO.out; rw [← HFTL.out, List.take_length] at this; exact this)
          have HMr := hide (HM2.out.below (HBL.out))
          have HEr := hide (HE2.out.mono (Same.of_below HBL.out) HBL.out.size (HBL.out.block _ HE2.out.lt))
          obtain ⟨L, hL, hent⟩ := HEr.out
          have HL := hide hL
          have HENT := hide hent
          have HLN := hide hent.length
          obtain ⟨a9, cap9, hv9, -⟩ := World.ownsRow.form HOF.out
          subst hv9
          have HTL : Hid (TellsF (notB W.heap.size) wr (.iface 23 (.slice a9 (fieldTexts bt q).length cap9)) (tList (fieldTexts bt q))) := hide (tells_list (strs_of_own HOF.out (fun j hj => by have := (own_lt HOF.out hj).1; unfold notB; omega)) (by rw [HFTL.out]; omega))
          have HB := hide (HBW.out)
          have HM := hide HMr.out
          clear hL hent HEr HMr HBW HO
          go_wp2_with (first | (at_mapUpdate; refine wpList_mapUpdate_own _ rfl _ _ _ 112 rfl 9 20 key9 Tryz.underlying112 RV (W.heap.size + 1) L.length (putAll L) rfl HL.out (by rw [HLN.out]; unfold maxLen; omega) _ _ (KL (bs [102, 105, 101, 108, 100, 115])) rfl rfl (key_ok (by decide)) (.held (.iface 23 (.slice a9 (fieldTexts bt q).length cap9))) [] rfl ?_; intro wn hm4 hg4; have HM4 := hide hm4; have HG4 := hide hg4; clear hm4 hg4) | go_in)
          go_meet
          have hbn : Below W.heap.size W wn := HB.out.trans ⟨HG4.out.os, HG4.out.tape, HG4.out.output, HG4.out.size, fun k hk => HG4.out.block k (by have := HB.out.size; omega) (some_ne (by omega))⟩
          have hen := MapE.put (F := notB W.heap.size) HENT.out HTL.out HG4.out (by simp [notB]) (mapIs_put HM4.out)
          have hmn : MapIs wn W.heap.size [(bs [113, 117, 101, 114, 121, 95, 115, 116, 114, 105, 110, 103], .iface 112 (.map (some (W.heap.size + 1))))] := HM.out.same (HG4.out.block _ HM.out.lt (some_ne (by omega)))
          have hF9 : entF (fieldTexts bt q) = [(bs [102, 105, 101, 108, 100, 115], tList (fieldTexts bt q))] := by unfold entF; rw [if_neg HNE.out]
          rw [hF9]
          exact ⟨hbn, hmn, hen⟩
    | false =>
      have hq1 : q.fields = [] := List.eq_nil_of_length_eq_zero (by have := of_decide_eq_false HD9.out; omega)
      have hF9 : entF (fieldTexts bt q) = [] := by unfold entF fieldTexts; rw [hq1]; rfl
      have HF9 := hide hF9
      clear hq1 hF9
      go_wp2_with fail
      go_meet
      rw [HF9.out, List.append_nil]
      exact ⟨HB2.out, HM2.out, HE2.out⟩
  case rest =>
      clear HB2 HM2 HE2 hxF
      obtain ⟨hb, hm, he⟩ := hcut
      have HB := hide hb
      have HM := hide hm
      obtain ⟨E0, hE'⟩ : ∃ x, x = (E91 ++ entF (fieldTexts bt q)) := ⟨_, rfl⟩
      rw [← hE'] at he
      have HE := hide he
      have HEQ0 : Hid (E0 = (E91 ++ entF (fieldTexts bt q))) := hide hE'
      have hel0 : E0.length ≤ 3 := by rw [hE', List.length_append]; have := entF_le (fieldTexts bt q); omega
      clear hb hm he hE'
      -- tie_breaker
      obtain ⟨L, hL, hent⟩ := HE.out
      have HL := hide hL
      have HENT := hide hent
      have HLN := hide hent.length
      clear hL hent
      obtain ⟨u, hu, hfa⟩ := H.out.field 19 (by decide) (by decide) (by decide)
      have hshp : q.f 19 = .nop ∨ ∃ x, q.f 19 = .opt 22 (.float .f64 x) := shape_at 1 19 (by decide) HSH.out
      have HSP := hide hshp
      have hux : wc.cell? ⟨bq, 19, none⟩ = some u := (HB.out.cell hbq).trans hu
      have hu2 : (q.f 19 = .nop ∧ u = .pointer none) ∨ ∃ p x, q.f 19 = .opt 22 (.float .f64 x) ∧ u = .pointer (some ⟨p, 0, none⟩) ∧ p < W.heap.size ∧ W.cell? ⟨p, 0, none⟩ = some (.float .f64 x) := by
        rcases hshp with e | ⟨x, e⟩
        · rw [e] at hfa; exact Or.inl ⟨e, hfa⟩
        · rw [e] at hfa
          obtain ⟨p, -, -, -, e1, e2⟩ := hfa
          exact Or.inr ⟨p, x, e, e1, lt_of_block e2, by rw [cell_of_row W p 0 _ _ _ e2]; rfl⟩
      have HU := hide hu2
      obtain ⟨ou, hou⟩ : ∃ ou, u = .pointer ou := by
        rcases hu2 with ⟨-, e⟩ | ⟨p, x, -, e, -⟩ <;> exact ⟨_, e⟩
      subst hou
      clear hshp hu2 hu hfa
      go_upto_if 86 with fail
      go_cut [] from 82 to 94 (fun wn => Below W.heap.size W wn ∧ MapIs wn W.heap.size [(bs [113, 117, 101, 114, 121, 95, 115, 116, 114, 105, 110, 103], .iface 112 (.map (some (W.heap.size + 1))))] ∧ MapE (notB W.heap.size) wn (W.heap.size + 1) (E0 ++ ent [116, 105, 101, 95, 98, 114, 101, 97, 107, 101, 114] (fvT (q.f 19))))
      case first =>
        rcases HU.out with ⟨e1, e2⟩ | ⟨p, x, e1, e2, e3, e4⟩
        · have HT9 : Hid (fvT (q.f 19) = none) := hide (by rw [e1]; rfl)
          cases e2
          clear e1
          go_wp2_with fail
          go_meet
          rw [HT9.out]
          exact ⟨HB.out, HM.out, by simpa [ent] using HE.out⟩
        · have HT9 : Hid (fvT (q.f 19) = some (tNum x)) := hide (by rw [e1]; rfl)
          cases e2
          have hpx : wc.cell? ⟨p, 0, none⟩ = some (.float .f64 x) := (HB.out.cell e3).trans e4
          have HP9 := hide hpx
          clear e1 e4
          go_wp2_with (first | (at_mapUpdate; refine wpList_mapUpdate_own _ rfl _ _ _ 112 rfl 9 20 key9 Tryz.underlying112 RV (W.heap.size + 1) L.length (putAll L) rfl HL.out (by rw [HLN.out]; unfold maxLen; omega) _ _ (KL (bs [116, 105, 101, 95, 98, 114, 101, 97, 107, 101, 114])) rfl rfl (key_ok (by decide)) (.held (.iface 22 (.float .f64 x))) [] rfl ?_; intro wn hm4 hg4; have HM4 := hide hm4; have HG4 := hide hg4; clear hm4 hg4) | go_in)
          go_meet
          rw [HT9.out]
          have hbn : Below W.heap.size W wn := HB.out.trans ⟨HG4.out.os, HG4.out.tape, HG4.out.output, HG4.out.size, fun k hk => HG4.out.block k (by have := HB.out.size; omega) (some_ne (by omega))⟩
          have hen := MapE.put (F := notB W.heap.size) HENT.out (tells_num _ _ x) HG4.out (by simp [notB]) (mapIs_put HM4.out)
          have hmn : MapIs wn W.heap.size [(bs [113, 117, 101, 114, 121, 95, 115, 116, 114, 105, 110, 103], .iface 112 (.map (some (W.heap.size + 1))))] := HM.out.same (HG4.out.block _ HM.out.lt (some_ne (by omega)))
          exact ⟨hbn, hmn, hen⟩
      clear HB HM HE HL HENT HLN
      obtain ⟨hb, hm, he⟩ := hcut
      have HB := hide hb
      have HM := hide hm
      obtain ⟨E1, hE'⟩ : ∃ x, x = E0 ++ ent [116, 105, 101, 95, 98, 114, 101, 97, 107, 101, 114] (fvT (q.f 19)) := ⟨_, rfl⟩
      rw [← hE'] at he
      have HE := hide he
      have HEQ1 : Hid (E1 = E0 ++ ent [116, 105, 101, 95, 98, 114, 101, 97, 107, 101, 114] (fvT (q.f 19))) := hide hE'
      clear hb hm he hE'
      have hel1 : E1.length ≤ 4 := by rw [HEQ1.out, List.length_append]; have := ent_le [116, 105, 101, 95, 98, 114, 101, 97, 107, 101, 114] (fvT (q.f 19)); omega
      -- default_operator
      obtain ⟨L, hL, hent⟩ := HE.out
      have HL := hide hL
      have HENT := hide hent
      have HLN := hide hent.length
      clear hL hent
      obtain ⟨s, hs⟩ : ∃ s, q.f 2 = .val (.string s) := shape_at 0 2 (by decide) HSH.out
      obtain ⟨u, hu, hfa⟩ := H.out.field 2 (by decide) (by decide) (by decide)
      rw [hs] at hfa
      obtain rfl : u = .string s := hfa
      have hx : wc.cell? ⟨bq, 2, none⟩ = some (.string s) := (HB.out.cell hbq).trans hu
      have HS := hide hs
      clear hs hu
      go_upto_if 99 with fail
      go_cut [] from 95 to 105 (fun wn => Below W.heap.size W wn ∧ MapIs wn W.heap.size [(bs [113, 117, 101, 114, 121, 95, 115, 116, 114, 105, 110, 103], .iface 112 (.map (some (W.heap.size + 1))))] ∧ MapE (notB W.heap.size) wn (W.heap.size + 1) (E1 ++ ent [100, 101, 102, 97, 117, 108, 116, 95, 111, 112, 101, 114, 97, 116, 111, 114] (fvT (q.f 2))))
      case first =>
        cases hts : s.toList.isEmpty
        · have HT9 : Hid (fvT (q.f 2) = some (tText s)) := hide (by rw [HS.out]; simp only [fvT, hts]; rfl)
          go_wp2_with (first | (at_mapUpdate; refine wpList_mapUpdate_own _ rfl _ _ _ 112 rfl 9 20 key9 Tryz.underlying112 RV (W.heap.size + 1) L.length (putAll L) rfl HL.out (by rw [HLN.out]; unfold maxLen; omega) _ _ (KL (bs [100, 101, 102, 97, 117, 108, 116, 95, 111, 112, 101, 114, 97, 116, 111, 114])) rfl rfl (key_ok (by decide)) (.held (.iface 9 (.string s))) [] rfl ?_; intro wn hm4 hg4; have HM4 := hide hm4; have HG4 := hide hg4; clear hm4 hg4) | go_in)
          go_meet
          rw [HT9.out]
          have hbn : Below W.heap.size W wn := HB.out.trans ⟨HG4.out.os, HG4.out.tape, HG4.out.output, HG4.out.size, fun k hk => HG4.out.block k (by have := HB.out.size; omega) (some_ne (by omega))⟩
          have hen := MapE.put (F := notB W.heap.size) HENT.out (tells_text _ _ s) HG4.out (by simp [notB]) (mapIs_put HM4.out)
          have hmn : MapIs wn W.heap.size [(bs [113, 117, 101, 114, 121, 95, 115, 116, 114, 105, 110, 103], .iface 112 (.map (some (W.heap.size + 1))))] := HM.out.same (HG4.out.block _ HM.out.lt (some_ne (by omega)))
          exact ⟨hbn, hmn, hen⟩
        · have HT9 : Hid (fvT (q.f 2) = none) := hide (by rw [HS.out]; simp only [fvT, hts]; rfl)
          go_wp2_with fail
          go_meet
          rw [HT9.out]
          exact ⟨HB.out, HM.out, by simpa [ent] using HE.out⟩
      clear HB HM HE HL HENT HLN
      obtain ⟨hb, hm, he⟩ := hcut
      have HB := hide hb
      have HM := hide hm
      obtain ⟨E2, hE'⟩ : ∃ x, x = E1 ++ ent [100, 101, 102, 97, 117, 108, 116, 95, 111, 112, 101, 114, 97, 116, 111, 114] (fvT (q.f 2)) := ⟨_, rfl⟩
      rw [← hE'] at he
      have HE := hide he
      have HEQ2 : Hid (E2 = E1 ++ ent [100, 101, 102, 97, 117, 108, 116, 95, 111, 112, 101, 114, 97, 116, 111, 114] (fvT (q.f 2))) := hide hE'
      clear hb hm he hE'
      have hel2 : E2.length ≤ 5 := by rw [HEQ2.out, List.length_append]; have := ent_le [100, 101, 102, 97, 117, 108, 116, 95, 111, 112, 101, 114, 97, 116, 111, 114] (fvT (q.f 2)); omega
      -- analyzer
      obtain ⟨L, hL, hent⟩ := HE.out
      have HL := hide hL
      have HENT := hide hent
      have HLN := hide hent.length
      clear hL hent
      obtain ⟨s, hs⟩ : ∃ s, q.f 3 = .val (.string s) := shape_at 0 3 (by decide) HSH.out
      obtain ⟨u, hu, hfa⟩ := H.out.field 3 (by decide) (by decide) (by decide)
      rw [hs] at hfa
      obtain rfl : u = .string s := hfa
      have hx : wc.cell? ⟨bq, 3, none⟩ = some (.string s) := (HB.out.cell hbq).trans hu
      have HS := hide hs
      clear hs hu
      go_upto_if 110 with fail
      go_cut [] from 106 to 116 (fun wn => Below W.heap.size W wn ∧ MapIs wn W.heap.size [(bs [113, 117, 101, 114, 121, 95, 115, 116, 114, 105, 110, 103], .iface 112 (.map (some (W.heap.size + 1))))] ∧ MapE (notB W.heap.size) wn (W.heap.size + 1) (E2 ++ ent [97, 110, 97, 108, 121, 122, 101, 114] (fvT (q.f 3))))
      case first =>
        cases hts : s.toList.isEmpty
        · have HT9 : Hid (fvT (q.f 3) = some (tText s)) := hide (by rw [HS.out]; simp only [fvT, hts]; rfl)
          go_wp2_with (first | (at_mapUpdate; refine wpList_mapUpdate_own _ rfl _ _ _ 112 rfl 9 20 key9 Tryz.underlying112 RV (W.heap.size + 1) L.length (putAll L) rfl HL.out (by rw [HLN.out]; unfold maxLen; omega) _ _ (KL (bs [97, 110, 97, 108, 121, 122, 101, 114])) rfl rfl (key_ok (by decide)) (.held (.iface 9 (.string s))) [] rfl ?_; intro wn hm4 hg4; have HM4 := hide hm4; have HG4 := hide hg4; clear hm4 hg4) | go_in)
          go_meet
          rw [HT9.out]
          have hbn : Below W.heap.size W wn := HB.out.trans ⟨HG4.out.os, HG4.out.tape, HG4.out.output, HG4.out.size, fun k hk => HG4.out.block k (by have := HB.out.size; omega) (some_ne (by omega))⟩
          have hen := MapE.put (F := notB W.heap.size) HENT.out (tells_text _ _ s) HG4.out (by simp [notB]) (mapIs_put HM4.out)
          have hmn : MapIs wn W.heap.size [(bs [113, 117, 101, 114, 121, 95, 115, 116, 114, 105, 110, 103], .iface 112 (.map (some (W.heap.size + 1))))] := HM.out.same (HG4.out.block _ HM.out.lt (some_ne (by omega)))
          exact ⟨hbn, hmn, hen⟩
        · have HT9 : Hid (fvT (q.f 3) = none) := hide (by rw [HS.out]; simp only [fvT, hts]; rfl)
          go_wp2_with fail
          go_meet
          rw [HT9.out]
          exact ⟨HB.out, HM.out, by simpa [ent] using HE.out⟩
      clear HB HM HE HL HENT HLN
      obtain ⟨hb, hm, he⟩ := hcut
      have HB := hide hb
      have HM := hide hm
      obtain ⟨E3, hE'⟩ : ∃ x, x = E2 ++ ent [97, 110, 97, 108, 121, 122, 101, 114] (fvT (q.f 3)) := ⟨_, rfl⟩
      rw [← hE'] at he
      have HE := hide he
      have HEQ3 : Hid (E3 = E2 ++ ent [97, 110, 97, 108, 121, 122, 101, 114] (fvT (q.f 3))) := hide hE'
      clear hb hm he hE'
      have hel3 : E3.length ≤ 6 := by rw [HEQ3.out, List.length_append]; have := ent_le [97, 110, 97, 108, 121, 122, 101, 114] (fvT (q.f 3)); omega
      -- quote_analyzer
      obtain ⟨L, hL, hent⟩ := HE.out
      have HL := hide hL
      have HENT := hide hent
      have HLN := hide hent.length
      clear hL hent
      obtain ⟨s, hs⟩ : ∃ s, q.f 4 = .val (.string s) := shape_at 0 4 (by decide) HSH.out
      obtain ⟨u, hu, hfa⟩ := H.out.field 4 (by decide) (by decide) (by decide)
      rw [hs] at hfa
      obtain rfl : u = .string s := hfa
      have hx : wc.cell? ⟨bq, 4, none⟩ = some (.string s) := (HB.out.cell hbq).trans hu
      have HS := hide hs
      clear hs hu
      go_upto_if 121 with fail
      go_cut [] from 117 to 127 (fun wn => Below W.heap.size W wn ∧ MapIs wn W.heap.size [(bs [113, 117, 101, 114, 121, 95, 115, 116, 114, 105, 110, 103], .iface 112 (.map (some (W.heap.size + 1))))] ∧ MapE (notB W.heap.size) wn (W.heap.size + 1) (E3 ++ ent [113, 117, 111, 116, 101, 95, 97, 110, 97, 108, 121, 122, 101, 114] (fvT (q.f 4))))
      case first =>
        cases hts : s.toList.isEmpty
        · have HT9 : Hid (fvT (q.f 4) = some (tText s)) := hide (by rw [HS.out]; simp only [fvT, hts]; rfl)
          go_wp2_with (first | (at_mapUpdate; refine wpList_mapUpdate_own _ rfl _ _ _ 112 rfl 9 20 key9 Tryz.underlying112 RV (W.heap.size + 1) L.length (putAll L) rfl HL.out (by rw [HLN.out]; unfold maxLen; omega) _ _ (KL (bs [113, 117, 111, 116, 101, 95, 97, 110, 97, 108, 121, 122, 101, 114])) rfl rfl (key_ok (by decide)) (.held (.iface 9 (.string s))) [] rfl ?_; intro wn hm4 hg4; have HM4 := hide hm4; have HG4 := hide hg4; clear hm4 hg4) | go_in)
          go_meet
          rw [HT9.out]
          have hbn : Below W.heap.size W wn := HB.out.trans ⟨HG4.out.os, HG4.out.tape, HG4.out.output, HG4.out.size, fun k hk => HG4.out.block k (by have := HB.out.size; omega) (some_ne (by omega))⟩
          have hen := MapE.put (F := notB W.heap.size) HENT.out (tells_text _ _ s) HG4.out (by simp [notB]) (mapIs_put HM4.out)
          have hmn : MapIs wn W.heap.size [(bs [113, 117, 101, 114, 121, 95, 115, 116, 114, 105, 110, 103], .iface 112 (.map (some (W.heap.size + 1))))] := HM.out.same (HG4.out.block _ HM.out.lt (some_ne (by omega)))
          exact ⟨hbn, hmn, hen⟩
        · have HT9 : Hid (fvT (q.f 4) = none) := hide (by rw [HS.out]; simp only [fvT, hts]; rfl)
          go_wp2_with fail
          go_meet
          rw [HT9.out]
          exact ⟨HB.out, HM.out, by simpa [ent] using HE.out⟩
      clear HB HM HE HL HENT HLN
      obtain ⟨hb, hm, he⟩ := hcut
      have HB := hide hb
      have HM := hide hm
      obtain ⟨E4, hE'⟩ : ∃ x, x = E3 ++ ent [113, 117, 111, 116, 101, 95, 97, 110, 97, 108, 121, 122, 101, 114] (fvT (q.f 4)) := ⟨_, rfl⟩
      rw [← hE'] at he
      have HE := hide he
      have HEQ4 : Hid (E4 = E3 ++ ent [113, 117, 111, 116, 101, 95, 97, 110, 97, 108, 121, 122, 101, 114] (fvT (q.f 4))) := hide hE'
      clear hb hm he hE'
      have hel4 : E4.length ≤ 7 := by rw [HEQ4.out, List.length_append]; have := ent_le [113, 117, 111, 116, 101, 95, 97, 110, 97, 108, 121, 122, 101, 114] (fvT (q.f 4)); omega
      -- max_determinized_states
      obtain ⟨L, hL, hent⟩ := HE.out
      have HL := hide hL
      have HENT := hide hent
      have HLN := hide hent.length
      clear hL hent
      obtain ⟨u, hu, hfa⟩ := H.out.field 25 (by decide) (by decide) (by decide)
      have hshp : q.f 25 = .nop ∨ ∃ x, q.f 25 = .opt 3 (.int .i64 x) := shape_at 2 25 (by decide) HSH.out
      have HSP := hide hshp
      have hux : wc.cell? ⟨bq, 25, none⟩ = some u := (HB.out.cell hbq).trans hu
      have hu2 : (q.f 25 = .nop ∧ u = .pointer none) ∨ ∃ p x, q.f 25 = .opt 3 (.int .i64 x) ∧ u = .pointer (some ⟨p, 0, none⟩) ∧ p < W.heap.size ∧ W.cell? ⟨p, 0, none⟩ = some (.int .i64 x) := by
        rcases hshp with e | ⟨x, e⟩
        · rw [e] at hfa; exact Or.inl ⟨e, hfa⟩
        · rw [e] at hfa
          obtain ⟨p, -, -, -, e1, e2⟩ := hfa
          exact Or.inr ⟨p, x, e, e1, lt_of_block e2, by rw [cell_of_row W p 0 _ _ _ e2]; rfl⟩
      have HU := hide hu2
      obtain ⟨ou, hou⟩ : ∃ ou, u = .pointer ou := by
        rcases hu2 with ⟨-, e⟩ | ⟨p, x, -, e, -⟩ <;> exact ⟨_, e⟩
      subst hou
      clear hshp hu2 hu hfa
      go_upto_if 132 with fail
      go_cut [] from 128 to 140 (fun wn => Below W.heap.size W wn ∧ MapIs wn W.heap.size [(bs [113, 117, 101, 114, 121, 95, 115, 116, 114, 105, 110, 103], .iface 112 (.map (some (W.heap.size + 1))))] ∧ MapE (notB W.heap.size) wn (W.heap.size + 1) (E4 ++ ent [109, 97, 120, 95, 100, 101, 116, 101, 114, 109, 105, 110, 105, 122, 101, 100, 95, 115, 116, 97, 116, 101, 115] (fvT (q.f 25))))
      case first =>
        rcases HU.out with ⟨e1, e2⟩ | ⟨p, x, e1, e2, e3, e4⟩
        · have HT9 : Hid (fvT (q.f 25) = none) := hide (by rw [e1]; rfl)
          cases e2
          clear e1
          go_wp2_with fail
          go_meet
          rw [HT9.out]
          exact ⟨HB.out, HM.out, by simpa [ent] using HE.out⟩
        · have HT9 : Hid (fvT (q.f 25) = some (tNum (floatOfInt .f64 x))) := hide (by rw [e1]; rfl)
          cases e2
          have hpx : wc.cell? ⟨p, 0, none⟩ = some (.int .i64 x) := (HB.out.cell e3).trans e4
          have HP9 := hide hpx
          clear e1 e4
          go_wp2_with (first | (at_mapUpdate; refine wpList_mapUpdate_own _ rfl _ _ _ 112 rfl 9 20 key9 Tryz.underlying112 RV (W.heap.size + 1) L.length (putAll L) rfl HL.out (by rw [HLN.out]; unfold maxLen; omega) _ _ (KL (bs [109, 97, 120, 95, 100, 101, 116, 101, 114, 109, 105, 110, 105, 122, 101, 100, 95, 115, 116, 97, 116, 101, 115])) rfl rfl (key_ok (by decide)) (.held (.iface 3 (.int .i64 x))) [] rfl ?_; intro wn hm4 hg4; have HM4 := hide hm4; have HG4 := hide hg4; clear hm4 hg4) | go_in)
          go_meet
          rw [HT9.out]
          have hbn : Below W.heap.size W wn := HB.out.trans ⟨HG4.out.os, HG4.out.tape, HG4.out.output, HG4.out.size, fun k hk => HG4.out.block k (by have := HB.out.size; omega) (some_ne (by omega))⟩
          have hen := MapE.put (F := notB W.heap.size) HENT.out (tells_int _ _ x) HG4.out (by simp [notB]) (mapIs_put HM4.out)
          have hmn : MapIs wn W.heap.size [(bs [113, 117, 101, 114, 121, 95, 115, 116, 114, 105, 110, 103], .iface 112 (.map (some (W.heap.size + 1))))] := HM.out.same (HG4.out.block _ HM.out.lt (some_ne (by omega)))
          exact ⟨hbn, hmn, hen⟩
      clear HB HM HE HL HENT HLN
      obtain ⟨hb, hm, he⟩ := hcut
      have HB := hide hb
      have HM := hide hm
      obtain ⟨E5, hE'⟩ : ∃ x, x = E4 ++ ent [109, 97, 120, 95, 100, 101, 116, 101, 114, 109, 105, 110, 105, 122, 101, 100, 95, 115, 116, 97, 116, 101, 115] (fvT (q.f 25)) := ⟨_, rfl⟩
      rw [← hE'] at he
      have HE := hide he
      have HEQ5 : Hid (E5 = E4 ++ ent [109, 97, 120, 95, 100, 101, 116, 101, 114, 109, 105, 110, 105, 122, 101, 100, 95, 115, 116, 97, 116, 101, 115] (fvT (q.f 25))) := hide hE'
      clear hb hm he hE'
      have hel5 : E5.length ≤ 8 := by rw [HEQ5.out, List.length_append]; have := ent_le [109, 97, 120, 95, 100, 101, 116, 101, 114, 109, 105, 110, 105, 122, 101, 100, 95, 115, 116, 97, 116, 101, 115] (fvT (q.f 25)); omega
      -- allow_leading_wildcard
      obtain ⟨L, hL, hent⟩ := HE.out
      have HL := hide hL
      have HENT := hide hent
      have HLN := hide hent.length
      clear hL hent
      obtain ⟨u, hu, hfa⟩ := H.out.field 6 (by decide) (by decide) (by decide)
      have hshp : q.f 6 = .nop ∨ ∃ x, q.f 6 = .opt 4 (.bool x) := shape_at 3 6 (by decide) HSH.out
      have HSP := hide hshp
      have hux : wc.cell? ⟨bq, 6, none⟩ = some u := (HB.out.cell hbq).trans hu
      have hu2 : (q.f 6 = .nop ∧ u = .pointer none) ∨ ∃ p x, q.f 6 = .opt 4 (.bool x) ∧ u = .pointer (some ⟨p, 0, none⟩) ∧ p < W.heap.size ∧ W.cell? ⟨p, 0, none⟩ = some (.bool x) := by
        rcases hshp with e | ⟨x, e⟩
        · rw [e] at hfa; exact Or.inl ⟨e, hfa⟩
        · rw [e] at hfa
          obtain ⟨p, -, -, -, e1, e2⟩ := hfa
          exact Or.inr ⟨p, x, e, e1, lt_of_block e2, by rw [cell_of_row W p 0 _ _ _ e2]; rfl⟩
      have HU := hide hu2
      obtain ⟨ou, hou⟩ : ∃ ou, u = .pointer ou := by
        rcases hu2 with ⟨-, e⟩ | ⟨p, x, -, e, -⟩ <;> exact ⟨_, e⟩
      subst hou
      clear hshp hu2 hu hfa
      go_upto_if 145 with fail
      go_cut [] from 141 to 153 (fun wn => Below W.heap.size W wn ∧ MapIs wn W.heap.size [(bs [113, 117, 101, 114, 121, 95, 115, 116, 114, 105, 110, 103], .iface 112 (.map (some (W.heap.size + 1))))] ∧ MapE (notB W.heap.size) wn (W.heap.size + 1) (E5 ++ ent [97, 108, 108, 111, 119, 95, 108, 101, 97, 100, 105, 110, 103, 95, 119, 105, 108, 100, 99, 97, 114, 100] (fvT (q.f 6))))
      case first =>
        rcases HU.out with ⟨e1, e2⟩ | ⟨p, x, e1, e2, e3, e4⟩
        · have HT9 : Hid (fvT (q.f 6) = none) := hide (by rw [e1]; rfl)
          cases e2
          clear e1
          go_wp2_with fail
          go_meet
          rw [HT9.out]
          exact ⟨HB.out, HM.out, by simpa [ent] using HE.out⟩
        · have HT9 : Hid (fvT (q.f 6) = some (tYes x)) := hide (by rw [e1]; rfl)
          cases e2
          have hpx : wc.cell? ⟨p, 0, none⟩ = some (.bool x) := (HB.out.cell e3).trans e4
          have HP9 := hide hpx
          clear e1 e4
          go_wp2_with (first | (at_mapUpdate; refine wpList_mapUpdate_own _ rfl _ _ _ 112 rfl 9 20 key9 Tryz.underlying112 RV (W.heap.size + 1) L.length (putAll L) rfl HL.out (by rw [HLN.out]; unfold maxLen; omega) _ _ (KL (bs [97, 108, 108, 111, 119, 95, 108, 101, 97, 100, 105, 110, 103, 95, 119, 105, 108, 100, 99, 97, 114, 100])) rfl rfl (key_ok (by decide)) (.held (.iface 4 (.bool x))) [] rfl ?_; intro wn hm4 hg4; have HM4 := hide hm4; have HG4 := hide hg4; clear hm4 hg4) | go_in)
          go_meet
          rw [HT9.out]
          have hbn : Below W.heap.size W wn := HB.out.trans ⟨HG4.out.os, HG4.out.tape, HG4.out.output, HG4.out.size, fun k hk => HG4.out.block k (by have := HB.out.size; omega) (some_ne (by omega))⟩
          have hen := MapE.put (F := notB W.heap.size) HENT.out (tells_yes _ _ x) HG4.out (by simp [notB]) (mapIs_put HM4.out)
          have hmn : MapIs wn W.heap.size [(bs [113, 117, 101, 114, 121, 95, 115, 116, 114, 105, 110, 103], .iface 112 (.map (some (W.heap.size + 1))))] := HM.out.same (HG4.out.block _ HM.out.lt (some_ne (by omega)))
          exact ⟨hbn, hmn, hen⟩
      clear HB HM HE HL HENT HLN
      obtain ⟨hb, hm, he⟩ := hcut
      have HB := hide hb
      have HM := hide hm
      obtain ⟨E6, hE'⟩ : ∃ x, x = E5 ++ ent [97, 108, 108, 111, 119, 95, 108, 101, 97, 100, 105, 110, 103, 95, 119, 105, 108, 100, 99, 97, 114, 100] (fvT (q.f 6)) := ⟨_, rfl⟩
      rw [← hE'] at he
      have HE := hide he
      have HEQ6 : Hid (E6 = E5 ++ ent [97, 108, 108, 111, 119, 95, 108, 101, 97, 100, 105, 110, 103, 95, 119, 105, 108, 100, 99, 97, 114, 100] (fvT (q.f 6))) := hide hE'
      clear hb hm he hE'
      have hel6 : E6.length ≤ 9 := by rw [HEQ6.out, List.length_append]; have := ent_le [97, 108, 108, 111, 119, 95, 108, 101, 97, 100, 105, 110, 103, 95, 119, 105, 108, 100, 99, 97, 114, 100] (fvT (q.f 6)); omega
      -- lowercase_expanded_terms
      obtain ⟨L, hL, hent⟩ := HE.out
      have HL := hide hL
      have HENT := hide hent
      have HLN := hide hent.length
      clear hL hent
      obtain ⟨u, hu, hfa⟩ := H.out.field 7 (by decide) (by decide) (by decide)
      have hshp : q.f 7 = .nop ∨ ∃ x, q.f 7 = .opt 4 (.bool x) := Or.inl HX7.out
      have HSP := hide hshp
      have hux : wc.cell? ⟨bq, 7, none⟩ = some u := (HB.out.cell hbq).trans hu
      have hu2 : (q.f 7 = .nop ∧ u = .pointer none) ∨ ∃ p x, q.f 7 = .opt 4 (.bool x) ∧ u = .pointer (some ⟨p, 0, none⟩) ∧ p < W.heap.size ∧ W.cell? ⟨p, 0, none⟩ = some (.bool x) := by
        rcases hshp with e | ⟨x, e⟩
        · rw [e] at hfa; exact Or.inl ⟨e, hfa⟩
        · rw [e] at hfa
          obtain ⟨p, -, -, -, e1, e2⟩ := hfa
          exact Or.inr ⟨p, x, e, e1, lt_of_block e2, by rw [cell_of_row W p 0 _ _ _ e2]; rfl⟩
      have HU := hide hu2
      obtain ⟨ou, hou⟩ : ∃ ou, u = .pointer ou := by
        rcases hu2 with ⟨-, e⟩ | ⟨p, x, -, e, -⟩ <;> exact ⟨_, e⟩
      subst hou
      clear hshp hu2 hu hfa
      go_upto_if 158 with fail
      go_cut [] from 154 to 166 (fun wn => Below W.heap.size W wn ∧ MapIs wn W.heap.size [(bs [113, 117, 101, 114, 121, 95, 115, 116, 114, 105, 110, 103], .iface 112 (.map (some (W.heap.size + 1))))] ∧ MapE (notB W.heap.size) wn (W.heap.size + 1) (E6 ++ ent [108, 111, 119, 101, 114, 99, 97, 115, 101, 95, 101, 120, 112, 97, 110, 100, 101, 100, 95, 116, 101, 114, 109, 115] (fvT (q.f 7))))
      case first =>
        rcases HU.out with ⟨e1, e2⟩ | ⟨p, x, e1, e2, e3, e4⟩
        · have HT9 : Hid (fvT (q.f 7) = none) := hide (by rw [e1]; rfl)
          cases e2
          clear e1
          go_wp2_with fail
          go_meet
          rw [HT9.out]
          exact ⟨HB.out, HM.out, by simpa [ent] using HE.out⟩
        · have HT9 : Hid (fvT (q.f 7) = some (tYes x)) := hide (by rw [e1]; rfl)
          cases e2
          have hpx : wc.cell? ⟨p, 0, none⟩ = some (.bool x) := (HB.out.cell e3).trans e4
          have HP9 := hide hpx
          clear e1 e4
          go_wp2_with (first | (at_mapUpdate; refine wpList_mapUpdate_own _ rfl _ _ _ 112 rfl 9 20 key9 Tryz.underlying112 RV (W.heap.size + 1) L.length (putAll L) rfl HL.out (by rw [HLN.out]; unfold maxLen; omega) _ _ (KL (bs [108, 111, 119, 101, 114, 99, 97, 115, 101, 95, 101, 120, 112, 97, 110, 100, 101, 100, 95, 116, 101, 114, 109, 115])) rfl rfl (key_ok (by decide)) (.held (.iface 4 (.bool x))) [] rfl ?_; intro wn hm4 hg4; have HM4 := hide hm4; have HG4 := hide hg4; clear hm4 hg4) | go_in)
          go_meet
          rw [HT9.out]
          have hbn : Below W.heap.size W wn := HB.out.trans ⟨HG4.out.os, HG4.out.tape, HG4.out.output, HG4.out.size, fun k hk => HG4.out.block k (by have := HB.out.size; omega) (some_ne (by omega))⟩
          have hen := MapE.put (F := notB W.heap.size) HENT.out (tells_yes _ _ x) HG4.out (by simp [notB]) (mapIs_put HM4.out)
          have hmn : MapIs wn W.heap.size [(bs [113, 117, 101, 114, 121, 95, 115, 116, 114, 105, 110, 103], .iface 112 (.map (some (W.heap.size + 1))))] := HM.out.same (HG4.out.block _ HM.out.lt (some_ne (by omega)))
          exact ⟨hbn, hmn, hen⟩
      clear HB HM HE HL HENT HLN
      obtain ⟨hb, hm, he⟩ := hcut
      have HB := hide hb
      have HM := hide hm
      obtain ⟨E7, hE'⟩ : ∃ x, x = E6 ++ ent [108, 111, 119, 101, 114, 99, 97, 115, 101, 95, 101, 120, 112, 97, 110, 100, 101, 100, 95, 116, 101, 114, 109, 115] (fvT (q.f 7)) := ⟨_, rfl⟩
      rw [← hE'] at he
      have HE := hide he
      have HEQ7 : Hid (E7 = E6 ++ ent [108, 111, 119, 101, 114, 99, 97, 115, 101, 95, 101, 120, 112, 97, 110, 100, 101, 100, 95, 116, 101, 114, 109, 115] (fvT (q.f 7))) := hide hE'
      clear hb hm he hE'
      have hel7 : E7.length ≤ 10 := by rw [HEQ7.out, List.length_append]; have := ent_le [108, 111, 119, 101, 114, 99, 97, 115, 101, 95, 101, 120, 112, 97, 110, 100, 101, 100, 95, 116, 101, 114, 109, 115] (fvT (q.f 7)); omega
      -- enable_position_increments
      obtain ⟨L, hL, hent⟩ := HE.out
      have HL := hide hL
      have HENT := hide hent
      have HLN := hide hent.length
      clear hL hent
      obtain ⟨u, hu, hfa⟩ := H.out.field 8 (by decide) (by decide) (by decide)
      have hshp : q.f 8 = .nop ∨ ∃ x, q.f 8 = .opt 4 (.bool x) := shape_at 3 8 (by decide) HSH.out
      have HSP := hide hshp
      have hux : wc.cell? ⟨bq, 8, none⟩ = some u := (HB.out.cell hbq).trans hu
      have hu2 : (q.f 8 = .nop ∧ u = .pointer none) ∨ ∃ p x, q.f 8 = .opt 4 (.bool x) ∧ u = .pointer (some ⟨p, 0, none⟩) ∧ p < W.heap.size ∧ W.cell? ⟨p, 0, none⟩ = some (.bool x) := by
        rcases hshp with e | ⟨x, e⟩
        · rw [e] at hfa; exact Or.inl ⟨e, hfa⟩
        · rw [e] at hfa
          obtain ⟨p, -, -, -, e1, e2⟩ := hfa
          exact Or.inr ⟨p, x, e, e1, lt_of_block e2, by rw [cell_of_row W p 0 _ _ _ e2]; rfl⟩
      have HU := hide hu2
      obtain ⟨ou, hou⟩ : ∃ ou, u = .pointer ou := by
        rcases hu2 with ⟨-, e⟩ | ⟨p, x, -, e, -⟩ <;> exact ⟨_, e⟩
      subst hou
      clear hshp hu2 hu hfa
      go_upto_if 171 with fail
      go_cut [] from 167 to 179 (fun wn => Below W.heap.size W wn ∧ MapIs wn W.heap.size [(bs [113, 117, 101, 114, 121, 95, 115, 116, 114, 105, 110, 103], .iface 112 (.map (some (W.heap.size + 1))))] ∧ MapE (notB W.heap.size) wn (W.heap.size + 1) (E7 ++ ent [101, 110, 97, 98, 108, 101, 95, 112, 111, 115, 105, 116, 105, 111, 110, 95, 105, 110, 99, 114, 101, 109, 101, 110, 116, 115] (fvT (q.f 8))))
      case first =>
        rcases HU.out with ⟨e1, e2⟩ | ⟨p, x, e1, e2, e3, e4⟩
        · have HT9 : Hid (fvT (q.f 8) = none) := hide (by rw [e1]; rfl)
          cases e2
          clear e1
          go_wp2_with fail
          go_meet
          rw [HT9.out]
          exact ⟨HB.out, HM.out, by simpa [ent] using HE.out⟩
        · have HT9 : Hid (fvT (q.f 8) = some (tYes x)) := hide (by rw [e1]; rfl)
          cases e2
          have hpx : wc.cell? ⟨p, 0, none⟩ = some (.bool x) := (HB.out.cell e3).trans e4
          have HP9 := hide hpx
          clear e1 e4
          go_wp2_with (first | (at_mapUpdate; refine wpList_mapUpdate_own _ rfl _ _ _ 112 rfl 9 20 key9 Tryz.underlying112 RV (W.heap.size + 1) L.length (putAll L) rfl HL.out (by rw [HLN.out]; unfold maxLen; omega) _ _ (KL (bs [101, 110, 97, 98, 108, 101, 95, 112, 111, 115, 105, 116, 105, 111, 110, 95, 105, 110, 99, 114, 101, 109, 101, 110, 116, 115])) rfl rfl (key_ok (by decide)) (.held (.iface 4 (.bool x))) [] rfl ?_; intro wn hm4 hg4; have HM4 := hide hm4; have HG4 := hide hg4; clear hm4 hg4) | go_in)
          go_meet
          rw [HT9.out]
          have hbn : Below W.heap.size W wn := HB.out.trans ⟨HG4.out.os, HG4.out.tape, HG4.out.output, HG4.out.size, fun k hk => HG4.out.block k (by have := HB.out.size; omega) (some_ne (by omega))⟩
          have hen := MapE.put (F := notB W.heap.size) HENT.out (tells_yes _ _ x) HG4.out (by simp [notB]) (mapIs_put HM4.out)
          have hmn : MapIs wn W.heap.size [(bs [113, 117, 101, 114, 121, 95, 115, 116, 114, 105, 110, 103], .iface 112 (.map (some (W.heap.size + 1))))] := HM.out.same (HG4.out.block _ HM.out.lt (some_ne (by omega)))
          exact ⟨hbn, hmn, hen⟩
      clear HB HM HE HL HENT HLN
      obtain ⟨hb, hm, he⟩ := hcut
      have HB := hide hb
      have HM := hide hm
      obtain ⟨E8, hE'⟩ : ∃ x, x = E7 ++ ent [101, 110, 97, 98, 108, 101, 95, 112, 111, 115, 105, 116, 105, 111, 110, 95, 105, 110, 99, 114, 101, 109, 101, 110, 116, 115] (fvT (q.f 8)) := ⟨_, rfl⟩
      rw [← hE'] at he
      have HE := hide he
      have HEQ8 : Hid (E8 = E7 ++ ent [101, 110, 97, 98, 108, 101, 95, 112, 111, 115, 105, 116, 105, 111, 110, 95, 105, 110, 99, 114, 101, 109, 101, 110, 116, 115] (fvT (q.f 8))) := hide hE'
      clear hb hm he hE'
      have hel8 : E8.length ≤ 11 := by rw [HEQ8.out, List.length_append]; have := ent_le [101, 110, 97, 98, 108, 101, 95, 112, 111, 115, 105, 116, 105, 111, 110, 95, 105, 110, 99, 114, 101, 109, 101, 110, 116, 115] (fvT (q.f 8)); omega
      -- fuzziness
      obtain ⟨L, hL, hent⟩ := HE.out
      have HL := hide hL
      have HENT := hide hent
      have HLN := hide hent.length
      clear hL hent
      obtain ⟨s, hs⟩ : ∃ s, q.f 12 = .val (.string s) := shape_at 0 12 (by decide) HSH.out
      obtain ⟨u, hu, hfa⟩ := H.out.field 12 (by decide) (by decide) (by decide)
      rw [hs] at hfa
      obtain rfl : u = .string s := hfa
      have hx : wc.cell? ⟨bq, 12, none⟩ = some (.string s) := (HB.out.cell hbq).trans hu
      have HS := hide hs
      clear hs hu
      go_upto_if 184 with fail
      go_cut [] from 180 to 190 (fun wn => Below W.heap.size W wn ∧ MapIs wn W.heap.size [(bs [113, 117, 101, 114, 121, 95, 115, 116, 114, 105, 110, 103], .iface 112 (.map (some (W.heap.size + 1))))] ∧ MapE (notB W.heap.size) wn (W.heap.size + 1) (E8 ++ ent [102, 117, 122, 122, 105, 110, 101, 115, 115] (fvT (q.f 12))))
      case first =>
        cases hts : s.toList.isEmpty
        · have HT9 : Hid (fvT (q.f 12) = some (tText s)) := hide (by rw [HS.out]; simp only [fvT, hts]; rfl)
          go_wp2_with (first | (at_mapUpdate; refine wpList_mapUpdate_own _ rfl _ _ _ 112 rfl 9 20 key9 Tryz.underlying112 RV (W.heap.size + 1) L.length (putAll L) rfl HL.out (by rw [HLN.out]; unfold maxLen; omega) _ _ (KL (bs [102, 117, 122, 122, 105, 110, 101, 115, 115])) rfl rfl (key_ok (by decide)) (.held (.iface 9 (.string s))) [] rfl ?_; intro wn hm4 hg4; have HM4 := hide hm4; have HG4 := hide hg4; clear hm4 hg4) | go_in)
          go_meet
          rw [HT9.out]
          have hbn : Below W.heap.size W wn := HB.out.trans ⟨HG4.out.os, HG4.out.tape, HG4.out.output, HG4.out.size, fun k hk => HG4.out.block k (by have := HB.out.size; omega) (some_ne (by omega))⟩
          have hen := MapE.put (F := notB W.heap.size) HENT.out (tells_text _ _ s) HG4.out (by simp [notB]) (mapIs_put HM4.out)
          have hmn : MapIs wn W.heap.size [(bs [113, 117, 101, 114, 121, 95, 115, 116, 114, 105, 110, 103], .iface 112 (.map (some (W.heap.size + 1))))] := HM.out.same (HG4.out.block _ HM.out.lt (some_ne (by omega)))
          exact ⟨hbn, hmn, hen⟩
        · have HT9 : Hid (fvT (q.f 12) = none) := hide (by rw [HS.out]; simp only [fvT, hts]; rfl)
          go_wp2_with fail
          go_meet
          rw [HT9.out]
          exact ⟨HB.out, HM.out, by simpa [ent] using HE.out⟩
      clear HB HM HE HL HENT HLN
      obtain ⟨hb, hm, he⟩ := hcut
      have HB := hide hb
      have HM := hide hm
      obtain ⟨E9, hE'⟩ : ∃ x, x = E8 ++ ent [102, 117, 122, 122, 105, 110, 101, 115, 115] (fvT (q.f 12)) := ⟨_, rfl⟩
      rw [← hE'] at he
      have HE := hide he
      have HEQ9 : Hid (E9 = E8 ++ ent [102, 117, 122, 122, 105, 110, 101, 115, 115] (fvT (q.f 12))) := hide hE'
      clear hb hm he hE'
      have hel9 : E9.length ≤ 12 := by rw [HEQ9.out, List.length_append]; have := ent_le [102, 117, 122, 122, 105, 110, 101, 115, 115] (fvT (q.f 12)); omega
      -- boost
      obtain ⟨L, hL, hent⟩ := HE.out
      have HL := hide hL
      have HENT := hide hent
      have HLN := hide hent.length
      clear hL hent
      obtain ⟨u, hu, hfa⟩ := H.out.field 11 (by decide) (by decide) (by decide)
      have hshp : q.f 11 = .nop ∨ ∃ x, q.f 11 = .opt 22 (.float .f64 x) := shape_at 1 11 (by decide) HSH.out
      have HSP := hide hshp
      have hux : wc.cell? ⟨bq, 11, none⟩ = some u := (HB.out.cell hbq).trans hu
      have hu2 : (q.f 11 = .nop ∧ u = .pointer none) ∨ ∃ p x, q.f 11 = .opt 22 (.float .f64 x) ∧ u = .pointer (some ⟨p, 0, none⟩) ∧ p < W.heap.size ∧ W.cell? ⟨p, 0, none⟩ = some (.float .f64 x) := by
        rcases hshp with e | ⟨x, e⟩
        · rw [e] at hfa; exact Or.inl ⟨e, hfa⟩
        · rw [e] at hfa
          obtain ⟨p, -, -, -, e1, e2⟩ := hfa
          exact Or.inr ⟨p, x, e, e1, lt_of_block e2, by rw [cell_of_row W p 0 _ _ _ e2]; rfl⟩
      have HU := hide hu2
      obtain ⟨ou, hou⟩ : ∃ ou, u = .pointer ou := by
        rcases hu2 with ⟨-, e⟩ | ⟨p, x, -, e, -⟩ <;> exact ⟨_, e⟩
      subst hou
      clear hshp hu2 hu hfa
      go_upto_if 195 with fail
      go_cut [] from 191 to 203 (fun wn => Below W.heap.size W wn ∧ MapIs wn W.heap.size [(bs [113, 117, 101, 114, 121, 95, 115, 116, 114, 105, 110, 103], .iface 112 (.map (some (W.heap.size + 1))))] ∧ MapE (notB W.heap.size) wn (W.heap.size + 1) (E9 ++ ent [98, 111, 111, 115, 116] (fvT (q.f 11))))
      case first =>
        rcases HU.out with ⟨e1, e2⟩ | ⟨p, x, e1, e2, e3, e4⟩
        · have HT9 : Hid (fvT (q.f 11) = none) := hide (by rw [e1]; rfl)
          cases e2
          clear e1
          go_wp2_with fail
          go_meet
          rw [HT9.out]
          exact ⟨HB.out, HM.out, by simpa [ent] using HE.out⟩
        · have HT9 : Hid (fvT (q.f 11) = some (tNum x)) := hide (by rw [e1]; rfl)
          cases e2
          have hpx : wc.cell? ⟨p, 0, none⟩ = some (.float .f64 x) := (HB.out.cell e3).trans e4
          have HP9 := hide hpx
          clear e1 e4
          go_wp2_with (first | (at_mapUpdate; refine wpList_mapUpdate_own _ rfl _ _ _ 112 rfl 9 20 key9 Tryz.underlying112 RV (W.heap.size + 1) L.length (putAll L) rfl HL.out (by rw [HLN.out]; unfold maxLen; omega) _ _ (KL (bs [98, 111, 111, 115, 116])) rfl rfl (key_ok (by decide)) (.held (.iface 22 (.float .f64 x))) [] rfl ?_; intro wn hm4 hg4; have HM4 := hide hm4; have HG4 := hide hg4; clear hm4 hg4) | go_in)
          go_meet
          rw [HT9.out]
          have hbn : Below W.heap.size W wn := HB.out.trans ⟨HG4.out.os, HG4.out.tape, HG4.out.output, HG4.out.size, fun k hk => HG4.out.block k (by have := HB.out.size; omega) (some_ne (by omega))⟩
          have hen := MapE.put (F := notB W.heap.size) HENT.out (tells_num _ _ x) HG4.out (by simp [notB]) (mapIs_put HM4.out)
          have hmn : MapIs wn W.heap.size [(bs [113, 117, 101, 114, 121, 95, 115, 116, 114, 105, 110, 103], .iface 112 (.map (some (W.heap.size + 1))))] := HM.out.same (HG4.out.block _ HM.out.lt (some_ne (by omega)))
          exact ⟨hbn, hmn, hen⟩
      clear HB HM HE HL HENT HLN
      obtain ⟨hb, hm, he⟩ := hcut
      have HB := hide hb
      have HM := hide hm
      obtain ⟨E10, hE'⟩ : ∃ x, x = E9 ++ ent [98, 111, 111, 115, 116] (fvT (q.f 11)) := ⟨_, rfl⟩
      rw [← hE'] at he
      have HE := hide he
      have HEQ10 : Hid (E10 = E9 ++ ent [98, 111, 111, 115, 116] (fvT (q.f 11))) := hide hE'
      clear hb hm he hE'
      have hel10 : E10.length ≤ 13 := by rw [HEQ10.out, List.length_append]; have := ent_le [98, 111, 111, 115, 116] (fvT (q.f 11)); omega
      -- fuzzy_prefix_length
      obtain ⟨L, hL, hent⟩ := HE.out
      have HL := hide hL
      have HENT := hide hent
      have HLN := hide hent.length
      clear hL hent
      obtain ⟨u, hu, hfa⟩ := H.out.field 13 (by decide) (by decide) (by decide)
      have hshp : q.f 13 = .nop ∨ ∃ x, q.f 13 = .opt 3 (.int .i64 x) := shape_at 2 13 (by decide) HSH.out
      have HSP := hide hshp
      have hux : wc.cell? ⟨bq, 13, none⟩ = some u := (HB.out.cell hbq).trans hu
      have hu2 : (q.f 13 = .nop ∧ u = .pointer none) ∨ ∃ p x, q.f 13 = .opt 3 (.int .i64 x) ∧ u = .pointer (some ⟨p, 0, none⟩) ∧ p < W.heap.size ∧ W.cell? ⟨p, 0, none⟩ = some (.int .i64 x) := by
        rcases hshp with e | ⟨x, e⟩
        · rw [e] at hfa; exact Or.inl ⟨e, hfa⟩
        · rw [e] at hfa
          obtain ⟨p, -, -, -, e1, e2⟩ := hfa
          exact Or.inr ⟨p, x, e, e1, lt_of_block e2, by rw [cell_of_row W p 0 _ _ _ e2]; rfl⟩
      have HU := hide hu2
      obtain ⟨ou, hou⟩ : ∃ ou, u = .pointer ou := by
        rcases hu2 with ⟨-, e⟩ | ⟨p, x, -, e, -⟩ <;> exact ⟨_, e⟩
      subst hou
      clear hshp hu2 hu hfa
      go_upto_if 208 with fail
      go_cut [] from 204 to 216 (fun wn => Below W.heap.size W wn ∧ MapIs wn W.heap.size [(bs [113, 117, 101, 114, 121, 95, 115, 116, 114, 105, 110, 103], .iface 112 (.map (some (W.heap.size + 1))))] ∧ MapE (notB W.heap.size) wn (W.heap.size + 1) (E10 ++ ent [102, 117, 122, 122, 121, 95, 112, 114, 101, 102, 105, 120, 95, 108, 101, 110, 103, 116, 104] (fvT (q.f 13))))
      case first =>
        rcases HU.out with ⟨e1, e2⟩ | ⟨p, x, e1, e2, e3, e4⟩
        · have HT9 : Hid (fvT (q.f 13) = none) := hide (by rw [e1]; rfl)
          cases e2
          clear e1
          go_wp2_with fail
          go_meet
          rw [HT9.out]
          exact ⟨HB.out, HM.out, by simpa [ent] using HE.out⟩
        · have HT9 : Hid (fvT (q.f 13) = some (tNum (floatOfInt .f64 x))) := hide (by rw [e1]; rfl)
          cases e2
          have hpx : wc.cell? ⟨p, 0, none⟩ = some (.int .i64 x) := (HB.out.cell e3).trans e4
          have HP9 := hide hpx
          clear e1 e4
          go_wp2_with (first | (at_mapUpdate; refine wpList_mapUpdate_own _ rfl _ _ _ 112 rfl 9 20 key9 Tryz.underlying112 RV (W.heap.size + 1) L.length (putAll L) rfl HL.out (by rw [HLN.out]; unfold maxLen; omega) _ _ (KL (bs [102, 117, 122, 122, 121, 95, 112, 114, 101, 102, 105, 120, 95, 108, 101, 110, 103, 116, 104])) rfl rfl (key_ok (by decide)) (.held (.iface 3 (.int .i64 x))) [] rfl ?_; intro wn hm4 hg4; have HM4 := hide hm4; have HG4 := hide hg4; clear hm4 hg4) | go_in)
          go_meet
          rw [HT9.out]
          have hbn : Below W.heap.size W wn := HB.out.trans ⟨HG4.out.os, HG4.out.tape, HG4.out.output, HG4.out.size, fun k hk => HG4.out.block k (by have := HB.out.size; omega) (some_ne (by omega))⟩
          have hen := MapE.put (F := notB W.heap.size) HENT.out (tells_int _ _ x) HG4.out (by simp [notB]) (mapIs_put HM4.out)
          have hmn : MapIs wn W.heap.size [(bs [113, 117, 101, 114, 121, 95, 115, 116, 114, 105, 110, 103], .iface 112 (.map (some (W.heap.size + 1))))] := HM.out.same (HG4.out.block _ HM.out.lt (some_ne (by omega)))
          exact ⟨hbn, hmn, hen⟩
      clear HB HM HE HL HENT HLN
      obtain ⟨hb, hm, he⟩ := hcut
      have HB := hide hb
      have HM := hide hm
      obtain ⟨E11, hE'⟩ : ∃ x, x = E10 ++ ent [102, 117, 122, 122, 121, 95, 112, 114, 101, 102, 105, 120, 95, 108, 101, 110, 103, 116, 104] (fvT (q.f 13)) := ⟨_, rfl⟩
      rw [← hE'] at he
      have HE := hide he
      have HEQ11 : Hid (E11 = E10 ++ ent [102, 117, 122, 122, 121, 95, 112, 114, 101, 102, 105, 120, 95, 108, 101, 110, 103, 116, 104] (fvT (q.f 13))) := hide hE'
      clear hb hm he hE'
      have hel11 : E11.length ≤ 14 := by rw [HEQ11.out, List.length_append]; have := ent_le [102, 117, 122, 122, 121, 95, 112, 114, 101, 102, 105, 120, 95, 108, 101, 110, 103, 116, 104] (fvT (q.f 13)); omega
      -- fuzzy_max_expansions
      obtain ⟨L, hL, hent⟩ := HE.out
      have HL := hide hL
      have HENT := hide hent
      have HLN := hide hent.length
      clear hL hent
      obtain ⟨u, hu, hfa⟩ := H.out.field 14 (by decide) (by decide) (by decide)
      have hshp : q.f 14 = .nop ∨ ∃ x, q.f 14 = .opt 3 (.int .i64 x) := shape_at 2 14 (by decide) HSH.out
      have HSP := hide hshp
      have hux : wc.cell? ⟨bq, 14, none⟩ = some u := (HB.out.cell hbq).trans hu
      have hu2 : (q.f 14 = .nop ∧ u = .pointer none) ∨ ∃ p x, q.f 14 = .opt 3 (.int .i64 x) ∧ u = .pointer (some ⟨p, 0, none⟩) ∧ p < W.heap.size ∧ W.cell? ⟨p, 0, none⟩ = some (.int .i64 x) := by
        rcases hshp with e | ⟨x, e⟩
        · rw [e] at hfa; exact Or.inl ⟨e, hfa⟩
        · rw [e] at hfa
          obtain ⟨p, -, -, -, e1, e2⟩ := hfa
          exact Or.inr ⟨p, x, e, e1, lt_of_block e2, by rw [cell_of_row W p 0 _ _ _ e2]; rfl⟩
      have HU := hide hu2
      obtain ⟨ou, hou⟩ : ∃ ou, u = .pointer ou := by
        rcases hu2 with ⟨-, e⟩ | ⟨p, x, -, e, -⟩ <;> exact ⟨_, e⟩
      subst hou
      clear hshp hu2 hu hfa
      go_upto_if 221 with fail
      go_cut [] from 217 to 229 (fun wn => Below W.heap.size W wn ∧ MapIs wn W.heap.size [(bs [113, 117, 101, 114, 121, 95, 115, 116, 114, 105, 110, 103], .iface 112 (.map (some (W.heap.size + 1))))] ∧ MapE (notB W.heap.size) wn (W.heap.size + 1) (E11 ++ ent [102, 117, 122, 122, 121, 95, 109, 97, 120, 95, 101, 120, 112, 97, 110, 115, 105, 111, 110, 115] (fvT (q.f 14))))
      case first =>
        rcases HU.out with ⟨e1, e2⟩ | ⟨p, x, e1, e2, e3, e4⟩
        · have HT9 : Hid (fvT (q.f 14) = none) := hide (by rw [e1]; rfl)
          cases e2
          clear e1
          go_wp2_with fail
          go_meet
          rw [HT9.out]
          exact ⟨HB.out, HM.out, by simpa [ent] using HE.out⟩
        · have HT9 : Hid (fvT (q.f 14) = some (tNum (floatOfInt .f64 x))) := hide (by rw [e1]; rfl)
          cases e2
          have hpx : wc.cell? ⟨p, 0, none⟩ = some (.int .i64 x) := (HB.out.cell e3).trans e4
          have HP9 := hide hpx
          clear e1 e4
          go_wp2_with (first | (at_mapUpdate; refine wpList_mapUpdate_own _ rfl _ _ _ 112 rfl 9 20 key9 Tryz.underlying112 RV (W.heap.size + 1) L.length (putAll L) rfl HL.out (by rw [HLN.out]; unfold maxLen; omega) _ _ (KL (bs [102, 117, 122, 122, 121, 95, 109, 97, 120, 95, 101, 120, 112, 97, 110, 115, 105, 111, 110, 115])) rfl rfl (key_ok (by decide)) (.held (.iface 3 (.int .i64 x))) [] rfl ?_; intro wn hm4 hg4; have HM4 := hide hm4; have HG4 := hide hg4; clear hm4 hg4) | go_in)
          go_meet
          rw [HT9.out]
          have hbn : Below W.heap.size W wn := HB.out.trans ⟨HG4.out.os, HG4.out.tape, HG4.out.output, HG4.out.size, fun k hk => HG4.out.block k (by have := HB.out.size; omega) (some_ne (by omega))⟩
          have hen := MapE.put (F := notB W.heap.size) HENT.out (tells_int _ _ x) HG4.out (by simp [notB]) (mapIs_put HM4.out)
          have hmn : MapIs wn W.heap.size [(bs [113, 117, 101, 114, 121, 95, 115, 116, 114, 105, 110, 103], .iface 112 (.map (some (W.heap.size + 1))))] := HM.out.same (HG4.out.block _ HM.out.lt (some_ne (by omega)))
          exact ⟨hbn, hmn, hen⟩
      clear HB HM HE HL HENT HLN
      obtain ⟨hb, hm, he⟩ := hcut
      have HB := hide hb
      have HM := hide hm
      obtain ⟨E12, hE'⟩ : ∃ x, x = E11 ++ ent [102, 117, 122, 122, 121, 95, 109, 97, 120, 95, 101, 120, 112, 97, 110, 115, 105, 111, 110, 115] (fvT (q.f 14)) := ⟨_, rfl⟩
      rw [← hE'] at he
      have HE := hide he
      have HEQ12 : Hid (E12 = E11 ++ ent [102, 117, 122, 122, 121, 95, 109, 97, 120, 95, 101, 120, 112, 97, 110, 115, 105, 111, 110, 115] (fvT (q.f 14))) := hide hE'
      clear hb hm he hE'
      have hel12 : E12.length ≤ 15 := by rw [HEQ12.out, List.length_append]; have := ent_le [102, 117, 122, 122, 121, 95, 109, 97, 120, 95, 101, 120, 112, 97, 110, 115, 105, 111, 110, 115] (fvT (q.f 14)); omega
      -- fuzzy_rewrite
      obtain ⟨L, hL, hent⟩ := HE.out
      have HL := hide hL
      have HENT := hide hent
      have HLN := hide hent.length
      clear hL hent
      obtain ⟨s, hs⟩ : ∃ s, q.f 15 = .val (.string s) := shape_at 0 15 (by decide) HSH.out
      obtain ⟨u, hu, hfa⟩ := H.out.field 15 (by decide) (by decide) (by decide)
      rw [hs] at hfa
      obtain rfl : u = .string s := hfa
      have hx : wc.cell? ⟨bq, 15, none⟩ = some (.string s) := (HB.out.cell hbq).trans hu
      have HS := hide hs
      clear hs hu
      go_upto_if 234 with fail
      go_cut [] from 230 to 240 (fun wn => Below W.heap.size W wn ∧ MapIs wn W.heap.size [(bs [113, 117, 101, 114, 121, 95, 115, 116, 114, 105, 110, 103], .iface 112 (.map (some (W.heap.size + 1))))] ∧ MapE (notB W.heap.size) wn (W.heap.size + 1) (E12 ++ ent [102, 117, 122, 122, 121, 95, 114, 101, 119, 114, 105, 116, 101] (fvT (q.f 15))))
      case first =>
        cases hts : s.toList.isEmpty
        · have HT9 : Hid (fvT (q.f 15) = some (tText s)) := hide (by rw [HS.out]; simp only [fvT, hts]; rfl)
          go_wp2_with (first | (at_mapUpdate; refine wpList_mapUpdate_own _ rfl _ _ _ 112 rfl 9 20 key9 Tryz.underlying112 RV (W.heap.size + 1) L.length (putAll L) rfl HL.out (by rw [HLN.out]; unfold maxLen; omega) _ _ (KL (bs [102, 117, 122, 122, 121, 95, 114, 101, 119, 114, 105, 116, 101])) rfl rfl (key_ok (by decide)) (.held (.iface 9 (.string s))) [] rfl ?_; intro wn hm4 hg4; have HM4 := hide hm4; have HG4 := hide hg4; clear hm4 hg4) | go_in)
          go_meet
          rw [HT9.out]
          have hbn : Below W.heap.size W wn := HB.out.trans ⟨HG4.out.os, HG4.out.tape, HG4.out.output, HG4.out.size, fun k hk => HG4.out.block k (by have := HB.out.size; omega) (some_ne (by omega))⟩
          have hen := MapE.put (F := notB W.heap.size) HENT.out (tells_text _ _ s) HG4.out (by simp [notB]) (mapIs_put HM4.out)
          have hmn : MapIs wn W.heap.size [(bs [113, 117, 101, 114, 121, 95, 115, 116, 114, 105, 110, 103], .iface 112 (.map (some (W.heap.size + 1))))] := HM.out.same (HG4.out.block _ HM.out.lt (some_ne (by omega)))
          exact ⟨hbn, hmn, hen⟩
        · have HT9 : Hid (fvT (q.f 15) = none) := hide (by rw [HS.out]; simp only [fvT, hts]; rfl)
          go_wp2_with fail
          go_meet
          rw [HT9.out]
          exact ⟨HB.out, HM.out, by simpa [ent] using HE.out⟩
      clear HB HM HE HL HENT HLN
      obtain ⟨hb, hm, he⟩ := hcut
      have HB := hide hb
      have HM := hide hm
      obtain ⟨E13, hE'⟩ : ∃ x, x = E12 ++ ent [102, 117, 122, 122, 121, 95, 114, 101, 119, 114, 105, 116, 101] (fvT (q.f 15)) := ⟨_, rfl⟩
      rw [← hE'] at he
      have HE := hide he
      have HEQ13 : Hid (E13 = E12 ++ ent [102, 117, 122, 122, 121, 95, 114, 101, 119, 114, 105, 116, 101] (fvT (q.f 15))) := hide hE'
      clear hb hm he hE'
      have hel13 : E13.length ≤ 16 := by rw [HEQ13.out, List.length_append]; have := ent_le [102, 117, 122, 122, 121, 95, 114, 101, 119, 114, 105, 116, 101] (fvT (q.f 15)); omega
      -- phrase_slop
      obtain ⟨L, hL, hent⟩ := HE.out
      have HL := hide hL
      have HENT := hide hent
      have HLN := hide hent.length
      clear hL hent
      obtain ⟨u, hu, hfa⟩ := H.out.field 16 (by decide) (by decide) (by decide)
      have hshp : q.f 16 = .nop ∨ ∃ x, q.f 16 = .opt 3 (.int .i64 x) := shape_at 2 16 (by decide) HSH.out
      have HSP := hide hshp
      have hux : wc.cell? ⟨bq, 16, none⟩ = some u := (HB.out.cell hbq).trans hu
      have hu2 : (q.f 16 = .nop ∧ u = .pointer none) ∨ ∃ p x, q.f 16 = .opt 3 (.int .i64 x) ∧ u = .pointer (some ⟨p, 0, none⟩) ∧ p < W.heap.size ∧ W.cell? ⟨p, 0, none⟩ = some (.int .i64 x) := by
        rcases hshp with e | ⟨x, e⟩
        · rw [e] at hfa; exact Or.inl ⟨e, hfa⟩
        · rw [e] at hfa
          obtain ⟨p, -, -, -, e1, e2⟩ := hfa
          exact Or.inr ⟨p, x, e, e1, lt_of_block e2, by rw [cell_of_row W p 0 _ _ _ e2]; rfl⟩
      have HU := hide hu2
      obtain ⟨ou, hou⟩ : ∃ ou, u = .pointer ou := by
        rcases hu2 with ⟨-, e⟩ | ⟨p, x, -, e, -⟩ <;> exact ⟨_, e⟩
      subst hou
      clear hshp hu2 hu hfa
      go_upto_if 245 with fail
      go_cut [] from 241 to 253 (fun wn => Below W.heap.size W wn ∧ MapIs wn W.heap.size [(bs [113, 117, 101, 114, 121, 95, 115, 116, 114, 105, 110, 103], .iface 112 (.map (some (W.heap.size + 1))))] ∧ MapE (notB W.heap.size) wn (W.heap.size + 1) (E13 ++ ent [112, 104, 114, 97, 115, 101, 95, 115, 108, 111, 112] (fvT (q.f 16))))
      case first =>
        rcases HU.out with ⟨e1, e2⟩ | ⟨p, x, e1, e2, e3, e4⟩
        · have HT9 : Hid (fvT (q.f 16) = none) := hide (by rw [e1]; rfl)
          cases e2
          clear e1
          go_wp2_with fail
          go_meet
          rw [HT9.out]
          exact ⟨HB.out, HM.out, by simpa [ent] using HE.out⟩
        · have HT9 : Hid (fvT (q.f 16) = some (tNum (floatOfInt .f64 x))) := hide (by rw [e1]; rfl)
          cases e2
          have hpx : wc.cell? ⟨p, 0, none⟩ = some (.int .i64 x) := (HB.out.cell e3).trans e4
          have HP9 := hide hpx
          clear e1 e4
          go_wp2_with (first | (at_mapUpdate; refine wpList_mapUpdate_own _ rfl _ _ _ 112 rfl 9 20 key9 Tryz.underlying112 RV (W.heap.size + 1) L.length (putAll L) rfl HL.out (by rw [HLN.out]; unfold maxLen; omega) _ _ (KL (bs [112, 104, 114, 97, 115, 101, 95, 115, 108, 111, 112])) rfl rfl (key_ok (by decide)) (.held (.iface 3 (.int .i64 x))) [] rfl ?_; intro wn hm4 hg4; have HM4 := hide hm4; have HG4 := hide hg4; clear hm4 hg4) | go_in)
          go_meet
          rw [HT9.out]
          have hbn : Below W.heap.size W wn := HB.out.trans ⟨HG4.out.os, HG4.out.tape, HG4.out.output, HG4.out.size, fun k hk => HG4.out.block k (by have := HB.out.size; omega) (some_ne (by omega))⟩
          have hen := MapE.put (F := notB W.heap.size) HENT.out (tells_int _ _ x) HG4.out (by simp [notB]) (mapIs_put HM4.out)
          have hmn : MapIs wn W.heap.size [(bs [113, 117, 101, 114, 121, 95, 115, 116, 114, 105, 110, 103], .iface 112 (.map (some (W.heap.size + 1))))] := HM.out.same (HG4.out.block _ HM.out.lt (some_ne (by omega)))
          exact ⟨hbn, hmn, hen⟩
      clear HB HM HE HL HENT HLN
      obtain ⟨hb, hm, he⟩ := hcut
      have HB := hide hb
      have HM := hide hm
      obtain ⟨E14, hE'⟩ : ∃ x, x = E13 ++ ent [112, 104, 114, 97, 115, 101, 95, 115, 108, 111, 112] (fvT (q.f 16)) := ⟨_, rfl⟩
      rw [← hE'] at he
      have HE := hide he
      have HEQ14 : Hid (E14 = E13 ++ ent [112, 104, 114, 97, 115, 101, 95, 115, 108, 111, 112] (fvT (q.f 16))) := hide hE'
      clear hb hm he hE'
      have hel14 : E14.length ≤ 17 := by rw [HEQ14.out, List.length_append]; have := ent_le [112, 104, 114, 97, 115, 101, 95, 115, 108, 111, 112] (fvT (q.f 16)); omega
      -- analyze_wildcard
      obtain ⟨L, hL, hent⟩ := HE.out
      have HL := hide hL
      have HENT := hide hent
      have HLN := hide hent.length
      clear hL hent
      obtain ⟨u, hu, hfa⟩ := H.out.field 9 (by decide) (by decide) (by decide)
      have hshp : q.f 9 = .nop ∨ ∃ x, q.f 9 = .opt 4 (.bool x) := shape_at 3 9 (by decide) HSH.out
      have HSP := hide hshp
      have hux : wc.cell? ⟨bq, 9, none⟩ = some u := (HB.out.cell hbq).trans hu
      have hu2 : (q.f 9 = .nop ∧ u = .pointer none) ∨ ∃ p x, q.f 9 = .opt 4 (.bool x) ∧ u = .pointer (some ⟨p, 0, none⟩) ∧ p < W.heap.size ∧ W.cell? ⟨p, 0, none⟩ = some (.bool x) := by
        rcases hshp with e | ⟨x, e⟩
        · rw [e] at hfa; exact Or.inl ⟨e, hfa⟩
        · rw [e] at hfa
          obtain ⟨p, -, -, -, e1, e2⟩ := hfa
          exact Or.inr ⟨p, x, e, e1, lt_of_block e2, by rw [cell_of_row W p 0 _ _ _ e2]; rfl⟩
      have HU := hide hu2
      obtain ⟨ou, hou⟩ : ∃ ou, u = .pointer ou := by
        rcases hu2 with ⟨-, e⟩ | ⟨p, x, -, e, -⟩ <;> exact ⟨_, e⟩
      subst hou
      clear hshp hu2 hu hfa
      go_upto_if 258 with fail
      go_cut [] from 254 to 266 (fun wn => Below W.heap.size W wn ∧ MapIs wn W.heap.size [(bs [113, 117, 101, 114, 121, 95, 115, 116, 114, 105, 110, 103], .iface 112 (.map (some (W.heap.size + 1))))] ∧ MapE (notB W.heap.size) wn (W.heap.size + 1) (E14 ++ ent [97, 110, 97, 108, 121, 122, 101, 95, 119, 105, 108, 100, 99, 97, 114, 100] (fvT (q.f 9))))
      case first =>
        rcases HU.out with ⟨e1, e2⟩ | ⟨p, x, e1, e2, e3, e4⟩
        · have HT9 : Hid (fvT (q.f 9) = none) := hide (by rw [e1]; rfl)
          cases e2
          clear e1
          go_wp2_with fail
          go_meet
          rw [HT9.out]
          exact ⟨HB.out, HM.out, by simpa [ent] using HE.out⟩
        · have HT9 : Hid (fvT (q.f 9) = some (tYes x)) := hide (by rw [e1]; rfl)
          cases e2
          have hpx : wc.cell? ⟨p, 0, none⟩ = some (.bool x) := (HB.out.cell e3).trans e4
          have HP9 := hide hpx
          clear e1 e4
          go_wp2_with (first | (at_mapUpdate; refine wpList_mapUpdate_own _ rfl _ _ _ 112 rfl 9 20 key9 Tryz.underlying112 RV (W.heap.size + 1) L.length (putAll L) rfl HL.out (by rw [HLN.out]; unfold maxLen; omega) _ _ (KL (bs [97, 110, 97, 108, 121, 122, 101, 95, 119, 105, 108, 100, 99, 97, 114, 100])) rfl rfl (key_ok (by decide)) (.held (.iface 4 (.bool x))) [] rfl ?_; intro wn hm4 hg4; have HM4 := hide hm4; have HG4 := hide hg4; clear hm4 hg4) | go_in)
          go_meet
          rw [HT9.out]
          have hbn : Below W.heap.size W wn := HB.out.trans ⟨HG4.out.os, HG4.out.tape, HG4.out.output, HG4.out.size, fun k hk => HG4.out.block k (by have := HB.out.size; omega) (some_ne (by omega))⟩
          have hen := MapE.put (F := notB W.heap.size) HENT.out (tells_yes _ _ x) HG4.out (by simp [notB]) (mapIs_put HM4.out)
          have hmn : MapIs wn W.heap.size [(bs [113, 117, 101, 114, 121, 95, 115, 116, 114, 105, 110, 103], .iface 112 (.map (some (W.heap.size + 1))))] := HM.out.same (HG4.out.block _ HM.out.lt (some_ne (by omega)))
          exact ⟨hbn, hmn, hen⟩
      clear HB HM HE HL HENT HLN
      obtain ⟨hb, hm, he⟩ := hcut
      have HB := hide hb
      have HM := hide hm
      obtain ⟨E15, hE'⟩ : ∃ x, x = E14 ++ ent [97, 110, 97, 108, 121, 122, 101, 95, 119, 105, 108, 100, 99, 97, 114, 100] (fvT (q.f 9)) := ⟨_, rfl⟩
      rw [← hE'] at he
      have HE := hide he
      have HEQ15 : Hid (E15 = E14 ++ ent [97, 110, 97, 108, 121, 122, 101, 95, 119, 105, 108, 100, 99, 97, 114, 100] (fvT (q.f 9))) := hide hE'
      clear hb hm he hE'
      have hel15 : E15.length ≤ 18 := by rw [HEQ15.out, List.length_append]; have := ent_le [97, 110, 97, 108, 121, 122, 101, 95, 119, 105, 108, 100, 99, 97, 114, 100] (fvT (q.f 9)); omega
      -- rewrite
      obtain ⟨L, hL, hent⟩ := HE.out
      have HL := hide hL
      have HENT := hide hent
      have HLN := hide hent.length
      clear hL hent
      obtain ⟨s, hs⟩ : ∃ s, q.f 20 = .val (.string s) := shape_at 0 20 (by decide) HSH.out
      obtain ⟨u, hu, hfa⟩ := H.out.field 20 (by decide) (by decide) (by decide)
      rw [hs] at hfa
      obtain rfl : u = .string s := hfa
      have hx : wc.cell? ⟨bq, 20, none⟩ = some (.string s) := (HB.out.cell hbq).trans hu
      have HS := hide hs
      clear hs hu
      go_upto_if 271 with fail
      go_cut [] from 267 to 277 (fun wn => Below W.heap.size W wn ∧ MapIs wn W.heap.size [(bs [113, 117, 101, 114, 121, 95, 115, 116, 114, 105, 110, 103], .iface 112 (.map (some (W.heap.size + 1))))] ∧ MapE (notB W.heap.size) wn (W.heap.size + 1) (E15 ++ ent [114, 101, 119, 114, 105, 116, 101] (fvT (q.f 20))))
      case first =>
        cases hts : s.toList.isEmpty
        · have HT9 : Hid (fvT (q.f 20) = some (tText s)) := hide (by rw [HS.out]; simp only [fvT, hts]; rfl)
          go_wp2_with (first | (at_mapUpdate; refine wpList_mapUpdate_own _ rfl _ _ _ 112 rfl 9 20 key9 Tryz.underlying112 RV (W.heap.size + 1) L.length (putAll L) rfl HL.out (by rw [HLN.out]; unfold maxLen; omega) _ _ (KL (bs [114, 101, 119, 114, 105, 116, 101])) rfl rfl (key_ok (by decide)) (.held (.iface 9 (.string s))) [] rfl ?_; intro wn hm4 hg4; have HM4 := hide hm4; have HG4 := hide hg4; clear hm4 hg4) | go_in)
          go_meet
          rw [HT9.out]
          have hbn : Below W.heap.size W wn := HB.out.trans ⟨HG4.out.os, HG4.out.tape, HG4.out.output, HG4.out.size, fun k hk => HG4.out.block k (by have := HB.out.size; omega) (some_ne (by omega))⟩
          have hen := MapE.put (F := notB W.heap.size) HENT.out (tells_text _ _ s) HG4.out (by simp [notB]) (mapIs_put HM4.out)
          have hmn : MapIs wn W.heap.size [(bs [113, 117, 101, 114, 121, 95, 115, 116, 114, 105, 110, 103], .iface 112 (.map (some (W.heap.size + 1))))] := HM.out.same (HG4.out.block _ HM.out.lt (some_ne (by omega)))
          exact ⟨hbn, hmn, hen⟩
        · have HT9 : Hid (fvT (q.f 20) = none) := hide (by rw [HS.out]; simp only [fvT, hts]; rfl)
          go_wp2_with fail
          go_meet
          rw [HT9.out]
          exact ⟨HB.out, HM.out, by simpa [ent] using HE.out⟩
      clear HB HM HE HL HENT HLN
      obtain ⟨hb, hm, he⟩ := hcut
      have HB := hide hb
      have HM := hide hm
      obtain ⟨E16, hE'⟩ : ∃ x, x = E15 ++ ent [114, 101, 119, 114, 105, 116, 101] (fvT (q.f 20)) := ⟨_, rfl⟩
      rw [← hE'] at he
      have HE := hide he
      have HEQ16 : Hid (E16 = E15 ++ ent [114, 101, 119, 114, 105, 116, 101] (fvT (q.f 20))) := hide hE'
      clear hb hm he hE'
      have hel16 : E16.length ≤ 19 := by rw [HEQ16.out, List.length_append]; have := ent_le [114, 101, 119, 114, 105, 116, 101] (fvT (q.f 20)); omega
      -- minimum_should_match
      obtain ⟨L, hL, hent⟩ := HE.out
      have HL := hide hL
      have HENT := hide hent
      have HLN := hide hent.length
      clear hL hent
      obtain ⟨s, hs⟩ : ∃ s, q.f 21 = .val (.string s) := shape_at 0 21 (by decide) HSH.out
      obtain ⟨u, hu, hfa⟩ := H.out.field 21 (by decide) (by decide) (by decide)
      rw [hs] at hfa
      obtain rfl : u = .string s := hfa
      have hx : wc.cell? ⟨bq, 21, none⟩ = some (.string s) := (HB.out.cell hbq).trans hu
      have HS := hide hs
      clear hs hu
      go_upto_if 282 with fail
      go_cut [] from 278 to 288 (fun wn => Below W.heap.size W wn ∧ MapIs wn W.heap.size [(bs [113, 117, 101, 114, 121, 95, 115, 116, 114, 105, 110, 103], .iface 112 (.map (some (W.heap.size + 1))))] ∧ MapE (notB W.heap.size) wn (W.heap.size + 1) (E16 ++ ent [109, 105, 110, 105, 109, 117, 109, 95, 115, 104, 111, 117, 108, 100, 95, 109, 97, 116, 99, 104] (fvT (q.f 21))))
      case first =>
        cases hts : s.toList.isEmpty
        · have HT9 : Hid (fvT (q.f 21) = some (tText s)) := hide (by rw [HS.out]; simp only [fvT, hts]; rfl)
          go_wp2_with (first | (at_mapUpdate; refine wpList_mapUpdate_own _ rfl _ _ _ 112 rfl 9 20 key9 Tryz.underlying112 RV (W.heap.size + 1) L.length (putAll L) rfl HL.out (by rw [HLN.out]; unfold maxLen; omega) _ _ (KL (bs [109, 105, 110, 105, 109, 117, 109, 95, 115, 104, 111, 117, 108, 100, 95, 109, 97, 116, 99, 104])) rfl rfl (key_ok (by decide)) (.held (.iface 9 (.string s))) [] rfl ?_; intro wn hm4 hg4; have HM4 := hide hm4; have HG4 := hide hg4; clear hm4 hg4) | go_in)
          go_meet
          rw [HT9.out]
          have hbn : Below W.heap.size W wn := HB.out.trans ⟨HG4.out.os, HG4.out.tape, HG4.out.output, HG4.out.size, fun k hk => HG4.out.block k (by have := HB.out.size; omega) (some_ne (by omega))⟩
          have hen := MapE.put (F := notB W.heap.size) HENT.out (tells_text _ _ s) HG4.out (by simp [notB]) (mapIs_put HM4.out)
          have hmn : MapIs wn W.heap.size [(bs [113, 117, 101, 114, 121, 95, 115, 116, 114, 105, 110, 103], .iface 112 (.map (some (W.heap.size + 1))))] := HM.out.same (HG4.out.block _ HM.out.lt (some_ne (by omega)))
          exact ⟨hbn, hmn, hen⟩
        · have HT9 : Hid (fvT (q.f 21) = none) := hide (by rw [HS.out]; simp only [fvT, hts]; rfl)
          go_wp2_with fail
          go_meet
          rw [HT9.out]
          exact ⟨HB.out, HM.out, by simpa [ent] using HE.out⟩
      clear HB HM HE HL HENT HLN
      obtain ⟨hb, hm, he⟩ := hcut
      have HB := hide hb
      have HM := hide hm
      obtain ⟨E17, hE'⟩ : ∃ x, x = E16 ++ ent [109, 105, 110, 105, 109, 117, 109, 95, 115, 104, 111, 117, 108, 100, 95, 109, 97, 116, 99, 104] (fvT (q.f 21)) := ⟨_, rfl⟩
      rw [← hE'] at he
      have HE := hide he
      have HEQ17 : Hid (E17 = E16 ++ ent [109, 105, 110, 105, 109, 117, 109, 95, 115, 104, 111, 117, 108, 100, 95, 109, 97, 116, 99, 104] (fvT (q.f 21))) := hide hE'
      clear hb hm he hE'
      have hel17 : E17.length ≤ 20 := by rw [HEQ17.out, List.length_append]; have := ent_le [109, 105, 110, 105, 109, 117, 109, 95, 115, 104, 111, 117, 108, 100, 95, 109, 97, 116, 99, 104] (fvT (q.f 21)); omega
      -- quote_field_suffix
      obtain ⟨L, hL, hent⟩ := HE.out
      have HL := hide hL
      have HENT := hide hent
      have HLN := hide hent.length
      clear hL hent
      obtain ⟨s, hs⟩ : ∃ s, q.f 5 = .val (.string s) := shape_at 0 5 (by decide) HSH.out
      obtain ⟨u, hu, hfa⟩ := H.out.field 5 (by decide) (by decide) (by decide)
      rw [hs] at hfa
      obtain rfl : u = .string s := hfa
      have hx : wc.cell? ⟨bq, 5, none⟩ = some (.string s) := (HB.out.cell hbq).trans hu
      have HS := hide hs
      clear hs hu
      go_upto_if 293 with fail
      go_cut [] from 289 to 299 (fun wn => Below W.heap.size W wn ∧ MapIs wn W.heap.size [(bs [113, 117, 101, 114, 121, 95, 115, 116, 114, 105, 110, 103], .iface 112 (.map (some (W.heap.size + 1))))] ∧ MapE (notB W.heap.size) wn (W.heap.size + 1) (E17 ++ ent [113, 117, 111, 116, 101, 95, 102, 105, 101, 108, 100, 95, 115, 117, 102, 102, 105, 120] (fvT (q.f 5))))
      case first =>
        cases hts : s.toList.isEmpty
        · have HT9 : Hid (fvT (q.f 5) = some (tText s)) := hide (by rw [HS.out]; simp only [fvT, hts]; rfl)
          go_wp2_with (first | (at_mapUpdate; refine wpList_mapUpdate_own _ rfl _ _ _ 112 rfl 9 20 key9 Tryz.underlying112 RV (W.heap.size + 1) L.length (putAll L) rfl HL.out (by rw [HLN.out]; unfold maxLen; omega) _ _ (KL (bs [113, 117, 111, 116, 101, 95, 102, 105, 101, 108, 100, 95, 115, 117, 102, 102, 105, 120])) rfl rfl (key_ok (by decide)) (.held (.iface 9 (.string s))) [] rfl ?_; intro wn hm4 hg4; have HM4 := hide hm4; have HG4 := hide hg4; clear hm4 hg4) | go_in)
          go_meet
          rw [HT9.out]
          have hbn : Below W.heap.size W wn := HB.out.trans ⟨HG4.out.os, HG4.out.tape, HG4.out.output, HG4.out.size, fun k hk => HG4.out.block k (by have := HB.out.size; omega) (some_ne (by omega))⟩
          have hen := MapE.put (F := notB W.heap.size) HENT.out (tells_text _ _ s) HG4.out (by simp [notB]) (mapIs_put HM4.out)
          have hmn : MapIs wn W.heap.size [(bs [113, 117, 101, 114, 121, 95, 115, 116, 114, 105, 110, 103], .iface 112 (.map (some (W.heap.size + 1))))] := HM.out.same (HG4.out.block _ HM.out.lt (some_ne (by omega)))
          exact ⟨hbn, hmn, hen⟩
        · have HT9 : Hid (fvT (q.f 5) = none) := hide (by rw [HS.out]; simp only [fvT, hts]; rfl)
          go_wp2_with fail
          go_meet
          rw [HT9.out]
          exact ⟨HB.out, HM.out, by simpa [ent] using HE.out⟩
      clear HB HM HE HL HENT HLN
      obtain ⟨hb, hm, he⟩ := hcut
      have HB := hide hb
      have HM := hide hm
      obtain ⟨E18, hE'⟩ : ∃ x, x = E17 ++ ent [113, 117, 111, 116, 101, 95, 102, 105, 101, 108, 100, 95, 115, 117, 102, 102, 105, 120] (fvT (q.f 5)) := ⟨_, rfl⟩
      rw [← hE'] at he
      have HE := hide he
      have HEQ18 : Hid (E18 = E17 ++ ent [113, 117, 111, 116, 101, 95, 102, 105, 101, 108, 100, 95, 115, 117, 102, 102, 105, 120] (fvT (q.f 5))) := hide hE'
      clear hb hm he hE'
      have hel18 : E18.length ≤ 21 := by rw [HEQ18.out, List.length_append]; have := ent_le [113, 117, 111, 116, 101, 95, 102, 105, 101, 108, 100, 95, 115, 117, 102, 102, 105, 120] (fvT (q.f 5)); omega
      -- lenient
      obtain ⟨L, hL, hent⟩ := HE.out
      have HL := hide hL
      have HENT := hide hent
      have HLN := hide hent.length
      clear hL hent
      obtain ⟨u, hu, hfa⟩ := H.out.field 22 (by decide) (by decide) (by decide)
      have hshp : q.f 22 = .nop ∨ ∃ x, q.f 22 = .opt 4 (.bool x) := shape_at 3 22 (by decide) HSH.out
      have HSP := hide hshp
      have hux : wc.cell? ⟨bq, 22, none⟩ = some u := (HB.out.cell hbq).trans hu
      have hu2 : (q.f 22 = .nop ∧ u = .pointer none) ∨ ∃ p x, q.f 22 = .opt 4 (.bool x) ∧ u = .pointer (some ⟨p, 0, none⟩) ∧ p < W.heap.size ∧ W.cell? ⟨p, 0, none⟩ = some (.bool x) := by
        rcases hshp with e | ⟨x, e⟩
        · rw [e] at hfa; exact Or.inl ⟨e, hfa⟩
        · rw [e] at hfa
          obtain ⟨p, -, -, -, e1, e2⟩ := hfa
          exact Or.inr ⟨p, x, e, e1, lt_of_block e2, by rw [cell_of_row W p 0 _ _ _ e2]; rfl⟩
      have HU := hide hu2
      obtain ⟨ou, hou⟩ : ∃ ou, u = .pointer ou := by
        rcases hu2 with ⟨-, e⟩ | ⟨p, x, -, e, -⟩ <;> exact ⟨_, e⟩
      subst hou
      clear hshp hu2 hu hfa
      go_upto_if 304 with fail
      go_cut [] from 300 to 312 (fun wn => Below W.heap.size W wn ∧ MapIs wn W.heap.size [(bs [113, 117, 101, 114, 121, 95, 115, 116, 114, 105, 110, 103], .iface 112 (.map (some (W.heap.size + 1))))] ∧ MapE (notB W.heap.size) wn (W.heap.size + 1) (E18 ++ ent [108, 101, 110, 105, 101, 110, 116] (fvT (q.f 22))))
      case first =>
        rcases HU.out with ⟨e1, e2⟩ | ⟨p, x, e1, e2, e3, e4⟩
        · have HT9 : Hid (fvT (q.f 22) = none) := hide (by rw [e1]; rfl)
          cases e2
          clear e1
          go_wp2_with fail
          go_meet
          rw [HT9.out]
          exact ⟨HB.out, HM.out, by simpa [ent] using HE.out⟩
        · have HT9 : Hid (fvT (q.f 22) = some (tYes x)) := hide (by rw [e1]; rfl)
          cases e2
          have hpx : wc.cell? ⟨p, 0, none⟩ = some (.bool x) := (HB.out.cell e3).trans e4
          have HP9 := hide hpx
          clear e1 e4
          go_wp2_with (first | (at_mapUpdate; refine wpList_mapUpdate_own _ rfl _ _ _ 112 rfl 9 20 key9 Tryz.underlying112 RV (W.heap.size + 1) L.length (putAll L) rfl HL.out (by rw [HLN.out]; unfold maxLen; omega) _ _ (KL (bs [108, 101, 110, 105, 101, 110, 116])) rfl rfl (key_ok (by decide)) (.held (.iface 4 (.bool x))) [] rfl ?_; intro wn hm4 hg4; have HM4 := hide hm4; have HG4 := hide hg4; clear hm4 hg4) | go_in)
          go_meet
          rw [HT9.out]
          have hbn : Below W.heap.size W wn := HB.out.trans ⟨HG4.out.os, HG4.out.tape, HG4.out.output, HG4.out.size, fun k hk => HG4.out.block k (by have := HB.out.size; omega) (some_ne (by omega))⟩
          have hen := MapE.put (F := notB W.heap.size) HENT.out (tells_yes _ _ x) HG4.out (by simp [notB]) (mapIs_put HM4.out)
          have hmn : MapIs wn W.heap.size [(bs [113, 117, 101, 114, 121, 95, 115, 116, 114, 105, 110, 103], .iface 112 (.map (some (W.heap.size + 1))))] := HM.out.same (HG4.out.block _ HM.out.lt (some_ne (by omega)))
          exact ⟨hbn, hmn, hen⟩
      clear HB HM HE HL HENT HLN
      obtain ⟨hb, hm, he⟩ := hcut
      have HB := hide hb
      have HM := hide hm
      obtain ⟨E19, hE'⟩ : ∃ x, x = E18 ++ ent [108, 101, 110, 105, 101, 110, 116] (fvT (q.f 22)) := ⟨_, rfl⟩
      rw [← hE'] at he
      have HE := hide he
      have HEQ19 : Hid (E19 = E18 ++ ent [108, 101, 110, 105, 101, 110, 116] (fvT (q.f 22))) := hide hE'
      clear hb hm he hE'
      have hel19 : E19.length ≤ 22 := by rw [HEQ19.out, List.length_append]; have := ent_le [108, 101, 110, 105, 101, 110, 116] (fvT (q.f 22)); omega
      -- _name
      obtain ⟨L, hL, hent⟩ := HE.out
      have HL := hide hL
      have HENT := hide hent
      have HLN := hide hent.length
      clear hL hent
      obtain ⟨s, hs⟩ : ∃ s, q.f 23 = .val (.string s) := shape_at 0 23 (by decide) HSH.out
      obtain ⟨u, hu, hfa⟩ := H.out.field 23 (by decide) (by decide) (by decide)
      rw [hs] at hfa
      obtain rfl : u = .string s := hfa
      have hx : wc.cell? ⟨bq, 23, none⟩ = some (.string s) := (HB.out.cell hbq).trans hu
      have HS := hide hs
      clear hs hu
      go_upto_if 317 with fail
      go_cut [] from 313 to 323 (fun wn => Below W.heap.size W wn ∧ MapIs wn W.heap.size [(bs [113, 117, 101, 114, 121, 95, 115, 116, 114, 105, 110, 103], .iface 112 (.map (some (W.heap.size + 1))))] ∧ MapE (notB W.heap.size) wn (W.heap.size + 1) (E19 ++ ent [95, 110, 97, 109, 101] (fvT (q.f 23))))
      case first =>
        cases hts : s.toList.isEmpty
        · have HT9 : Hid (fvT (q.f 23) = some (tText s)) := hide (by rw [HS.out]; simp only [fvT, hts]; rfl)
          go_wp2_with (first | (at_mapUpdate; refine wpList_mapUpdate_own _ rfl _ _ _ 112 rfl 9 20 key9 Tryz.underlying112 RV (W.heap.size + 1) L.length (putAll L) rfl HL.out (by rw [HLN.out]; unfold maxLen; omega) _ _ (KL (bs [95, 110, 97, 109, 101])) rfl rfl (key_ok (by decide)) (.held (.iface 9 (.string s))) [] rfl ?_; intro wn hm4 hg4; have HM4 := hide hm4; have HG4 := hide hg4; clear hm4 hg4) | go_in)
          go_meet
          rw [HT9.out]
          have hbn : Below W.heap.size W wn := HB.out.trans ⟨HG4.out.os, HG4.out.tape, HG4.out.output, HG4.out.size, fun k hk => HG4.out.block k (by have := HB.out.size; omega) (some_ne (by omega))⟩
          have hen := MapE.put (F := notB W.heap.size) HENT.out (tells_text _ _ s) HG4.out (by simp [notB]) (mapIs_put HM4.out)
          have hmn : MapIs wn W.heap.size [(bs [113, 117, 101, 114, 121, 95, 115, 116, 114, 105, 110, 103], .iface 112 (.map (some (W.heap.size + 1))))] := HM.out.same (HG4.out.block _ HM.out.lt (some_ne (by omega)))
          exact ⟨hbn, hmn, hen⟩
        · have HT9 : Hid (fvT (q.f 23) = none) := hide (by rw [HS.out]; simp only [fvT, hts]; rfl)
          go_wp2_with fail
          go_meet
          rw [HT9.out]
          exact ⟨HB.out, HM.out, by simpa [ent] using HE.out⟩
      clear HB HM HE HL HENT HLN
      obtain ⟨hb, hm, he⟩ := hcut
      have HB := hide hb
      have HM := hide hm
      obtain ⟨E20, hE'⟩ : ∃ x, x = E19 ++ ent [95, 110, 97, 109, 101] (fvT (q.f 23)) := ⟨_, rfl⟩
      rw [← hE'] at he
      have HE := hide he
      have HEQ20 : Hid (E20 = E19 ++ ent [95, 110, 97, 109, 101] (fvT (q.f 23))) := hide hE'
      clear hb hm he hE'
      have hel20 : E20.length ≤ 23 := by rw [HEQ20.out, List.length_append]; have := ent_le [95, 110, 97, 109, 101] (fvT (q.f 23)); omega
      -- locale
      obtain ⟨L, hL, hent⟩ := HE.out
      have HL := hide hL
      have HENT := hide hent
      have HLN := hide hent.length
      clear hL hent
      obtain ⟨s, hs⟩ : ∃ s, q.f 10 = .val (.string s) := ⟨_, HX10.out⟩
      obtain ⟨u, hu, hfa⟩ := H.out.field 10 (by decide) (by decide) (by decide)
      rw [hs] at hfa
      obtain rfl : u = .string s := hfa
      have hx : wc.cell? ⟨bq, 10, none⟩ = some (.string s) := (HB.out.cell hbq).trans hu
      have HS := hide hs
      clear hs hu
      go_upto_if 328 with fail
      go_cut [] from 324 to 334 (fun wn => Below W.heap.size W wn ∧ MapIs wn W.heap.size [(bs [113, 117, 101, 114, 121, 95, 115, 116, 114, 105, 110, 103], .iface 112 (.map (some (W.heap.size + 1))))] ∧ MapE (notB W.heap.size) wn (W.heap.size + 1) (E20 ++ ent [108, 111, 99, 97, 108, 101] (fvT (q.f 10))))
      case first =>
        cases hts : s.toList.isEmpty
        · have HT9 : Hid (fvT (q.f 10) = some (tText s)) := hide (by rw [HS.out]; simp only [fvT, hts]; rfl)
          go_wp2_with (first | (at_mapUpdate; refine wpList_mapUpdate_own _ rfl _ _ _ 112 rfl 9 20 key9 Tryz.underlying112 RV (W.heap.size + 1) L.length (putAll L) rfl HL.out (by rw [HLN.out]; unfold maxLen; omega) _ _ (KL (bs [108, 111, 99, 97, 108, 101])) rfl rfl (key_ok (by decide)) (.held (.iface 9 (.string s))) [] rfl ?_; intro wn hm4 hg4; have HM4 := hide hm4; have HG4 := hide hg4; clear hm4 hg4) | go_in)
          go_meet
          rw [HT9.out]
          have hbn : Below W.heap.size W wn := HB.out.trans ⟨HG4.out.os, HG4.out.tape, HG4.out.output, HG4.out.size, fun k hk => HG4.out.block k (by have := HB.out.size; omega) (some_ne (by omega))⟩
          have hen := MapE.put (F := notB W.heap.size) HENT.out (tells_text _ _ s) HG4.out (by simp [notB]) (mapIs_put HM4.out)
          have hmn : MapIs wn W.heap.size [(bs [113, 117, 101, 114, 121, 95, 115, 116, 114, 105, 110, 103], .iface 112 (.map (some (W.heap.size + 1))))] := HM.out.same (HG4.out.block _ HM.out.lt (some_ne (by omega)))
          exact ⟨hbn, hmn, hen⟩
        · have HT9 : Hid (fvT (q.f 10) = none) := hide (by rw [HS.out]; simp only [fvT, hts]; rfl)
          go_wp2_with fail
          go_meet
          rw [HT9.out]
          exact ⟨HB.out, HM.out, by simpa [ent] using HE.out⟩
      clear HB HM HE HL HENT HLN
      obtain ⟨hb, hm, he⟩ := hcut
      have HB := hide hb
      have HM := hide hm
      obtain ⟨E21, hE'⟩ : ∃ x, x = E20 ++ ent [108, 111, 99, 97, 108, 101] (fvT (q.f 10)) := ⟨_, rfl⟩
      rw [← hE'] at he
      have HE := hide he
      have HEQ21 : Hid (E21 = E20 ++ ent [108, 111, 99, 97, 108, 101] (fvT (q.f 10))) := hide hE'
      clear hb hm he hE'
      have hel21 : E21.length ≤ 24 := by rw [HEQ21.out, List.length_append]; have := ent_le [108, 111, 99, 97, 108, 101] (fvT (q.f 10)); omega
      -- time_zone
      obtain ⟨L, hL, hent⟩ := HE.out
      have HL := hide hL
      have HENT := hide hent
      have HLN := hide hent.length
      clear hL hent
      obtain ⟨s, hs⟩ : ∃ s, q.f 24 = .val (.string s) := shape_at 0 24 (by decide) HSH.out
      obtain ⟨u, hu, hfa⟩ := H.out.field 24 (by decide) (by decide) (by decide)
      rw [hs] at hfa
      obtain rfl : u = .string s := hfa
      have hx : wc.cell? ⟨bq, 24, none⟩ = some (.string s) := (HB.out.cell hbq).trans hu
      have HS := hide hs
      clear hs hu
      go_upto_if 339 with fail
      go_cut [] from 335 to 345 (fun wn => Below W.heap.size W wn ∧ MapIs wn W.heap.size [(bs [113, 117, 101, 114, 121, 95, 115, 116, 114, 105, 110, 103], .iface 112 (.map (some (W.heap.size + 1))))] ∧ MapE (notB W.heap.size) wn (W.heap.size + 1) (E21 ++ ent [116, 105, 109, 101, 95, 122, 111, 110, 101] (fvT (q.f 24))))
      case first =>
        cases hts : s.toList.isEmpty
        · have HT9 : Hid (fvT (q.f 24) = some (tText s)) := hide (by rw [HS.out]; simp only [fvT, hts]; rfl)
          go_wp2_with (first | (at_mapUpdate; refine wpList_mapUpdate_own _ rfl _ _ _ 112 rfl 9 20 key9 Tryz.underlying112 RV (W.heap.size + 1) L.length (putAll L) rfl HL.out (by rw [HLN.out]; unfold maxLen; omega) _ _ (KL (bs [116, 105, 109, 101, 95, 122, 111, 110, 101])) rfl rfl (key_ok (by decide)) (.held (.iface 9 (.string s))) [] rfl ?_; intro wn hm4 hg4; have HM4 := hide hm4; have HG4 := hide hg4; clear hm4 hg4) | go_in)
          go_meet
          rw [HT9.out]
          have hbn : Below W.heap.size W wn := HB.out.trans ⟨HG4.out.os, HG4.out.tape, HG4.out.output, HG4.out.size, fun k hk => HG4.out.block k (by have := HB.out.size; omega) (some_ne (by omega))⟩
          have hen := MapE.put (F := notB W.heap.size) HENT.out (tells_text _ _ s) HG4.out (by simp [notB]) (mapIs_put HM4.out)
          have hmn : MapIs wn W.heap.size [(bs [113, 117, 101, 114, 121, 95, 115, 116, 114, 105, 110, 103], .iface 112 (.map (some (W.heap.size + 1))))] := HM.out.same (HG4.out.block _ HM.out.lt (some_ne (by omega)))
          exact ⟨hbn, hmn, hen⟩
        · have HT9 : Hid (fvT (q.f 24) = none) := hide (by rw [HS.out]; simp only [fvT, hts]; rfl)
          go_wp2_with fail
          go_meet
          rw [HT9.out]
          exact ⟨HB.out, HM.out, by simpa [ent] using HE.out⟩
      clear HB HM HE HL HENT HLN
      obtain ⟨hb, hm, he⟩ := hcut
      have HB := hide hb
      have HM := hide hm
      obtain ⟨E22, hE'⟩ : ∃ x, x = E21 ++ ent [116, 105, 109, 101, 95, 122, 111, 110, 101] (fvT (q.f 24)) := ⟨_, rfl⟩
      rw [← hE'] at he
      have HE := hide he
      have HEQ22 : Hid (E22 = E21 ++ ent [116, 105, 109, 101, 95, 122, 111, 110, 101] (fvT (q.f 24))) := hide hE'
      clear hb hm he hE'
      have hel22 : E22.length ≤ 25 := by rw [HEQ22.out, List.length_append]; have := ent_le [116, 105, 109, 101, 95, 122, 111, 110, 101] (fvT (q.f 24)); omega
      -- escape
      obtain ⟨L, hL, hent⟩ := HE.out
      have HL := hide hL
      have HENT := hide hent
      have HLN := hide hent.length
      clear hL hent
      obtain ⟨u, hu, hfa⟩ := H.out.field 26 (by decide) (by decide) (by decide)
      have hshp : q.f 26 = .nop ∨ ∃ x, q.f 26 = .opt 4 (.bool x) := shape_at 3 26 (by decide) HSH.out
      have HSP := hide hshp
      have hux : wc.cell? ⟨bq, 26, none⟩ = some u := (HB.out.cell hbq).trans hu
      have hu2 : (q.f 26 = .nop ∧ u = .pointer none) ∨ ∃ p x, q.f 26 = .opt 4 (.bool x) ∧ u = .pointer (some ⟨p, 0, none⟩) ∧ p < W.heap.size ∧ W.cell? ⟨p, 0, none⟩ = some (.bool x) := by
        rcases hshp with e | ⟨x, e⟩
        · rw [e] at hfa; exact Or.inl ⟨e, hfa⟩
        · rw [e] at hfa
          obtain ⟨p, -, -, -, e1, e2⟩ := hfa
          exact Or.inr ⟨p, x, e, e1, lt_of_block e2, by rw [cell_of_row W p 0 _ _ _ e2]; rfl⟩
      have HU := hide hu2
      obtain ⟨ou, hou⟩ : ∃ ou, u = .pointer ou := by
        rcases hu2 with ⟨-, e⟩ | ⟨p, x, -, e, -⟩ <;> exact ⟨_, e⟩
      subst hou
      clear hshp hu2 hu hfa
      go_upto_if 350 with fail
      go_cut [] from 346 to 358 (fun wn => Below W.heap.size W wn ∧ MapIs wn W.heap.size [(bs [113, 117, 101, 114, 121, 95, 115, 116, 114, 105, 110, 103], .iface 112 (.map (some (W.heap.size + 1))))] ∧ MapE (notB W.heap.size) wn (W.heap.size + 1) (E22 ++ ent [101, 115, 99, 97, 112, 101] (fvT (q.f 26))))
      case first =>
        rcases HU.out with ⟨e1, e2⟩ | ⟨p, x, e1, e2, e3, e4⟩
        · have HT9 : Hid (fvT (q.f 26) = none) := hide (by rw [e1]; rfl)
          cases e2
          clear e1
          go_wp2_with fail
          go_meet
          rw [HT9.out]
          exact ⟨HB.out, HM.out, by simpa [ent] using HE.out⟩
        · have HT9 : Hid (fvT (q.f 26) = some (tYes x)) := hide (by rw [e1]; rfl)
          cases e2
          have hpx : wc.cell? ⟨p, 0, none⟩ = some (.bool x) := (HB.out.cell e3).trans e4
          have HP9 := hide hpx
          clear e1 e4
          go_wp2_with (first | (at_mapUpdate; refine wpList_mapUpdate_own _ rfl _ _ _ 112 rfl 9 20 key9 Tryz.underlying112 RV (W.heap.size + 1) L.length (putAll L) rfl HL.out (by rw [HLN.out]; unfold maxLen; omega) _ _ (KL (bs [101, 115, 99, 97, 112, 101])) rfl rfl (key_ok (by decide)) (.held (.iface 4 (.bool x))) [] rfl ?_; intro wn hm4 hg4; have HM4 := hide hm4; have HG4 := hide hg4; clear hm4 hg4) | go_in)
          go_meet
          rw [HT9.out]
          have hbn : Below W.heap.size W wn := HB.out.trans ⟨HG4.out.os, HG4.out.tape, HG4.out.output, HG4.out.size, fun k hk => HG4.out.block k (by have := HB.out.size; omega) (some_ne (by omega))⟩
          have hen := MapE.put (F := notB W.heap.size) HENT.out (tells_yes _ _ x) HG4.out (by simp [notB]) (mapIs_put HM4.out)
          have hmn : MapIs wn W.heap.size [(bs [113, 117, 101, 114, 121, 95, 115, 116, 114, 105, 110, 103], .iface 112 (.map (some (W.heap.size + 1))))] := HM.out.same (HG4.out.block _ HM.out.lt (some_ne (by omega)))
          exact ⟨hbn, hmn, hen⟩
      clear HB HM HE HL HENT HLN
      obtain ⟨hb, hm, he⟩ := hcut
      have HB := hide hb
      have HM := hide hm
      obtain ⟨E23, hE'⟩ : ∃ x, x = E22 ++ ent [101, 115, 99, 97, 112, 101] (fvT (q.f 26)) := ⟨_, rfl⟩
      rw [← hE'] at he
      have HE := hide he
      have HEQ23 : Hid (E23 = E22 ++ ent [101, 115, 99, 97, 112, 101] (fvT (q.f 26))) := hide hE'
      clear hb hm he hE'
      have hel23 : E23.length ≤ 26 := by rw [HEQ23.out, List.length_append]; have := ent_le [101, 115, 99, 97, 112, 101] (fvT (q.f 26)); omega
      -- type
      obtain ⟨L, hL, hent⟩ := HE.out
      have HL := hide hL
      have HENT := hide hent
      have HLN := hide hent.length
      clear hL hent
      obtain ⟨s, hs⟩ : ∃ s, q.f 27 = .val (.string s) := shape_at 0 27 (by decide) HSH.out
      obtain ⟨u, hu, hfa⟩ := H.out.field 27 (by decide) (by decide) (by decide)
      rw [hs] at hfa
      obtain rfl : u = .string s := hfa
      have hx : wc.cell? ⟨bq, 27, none⟩ = some (.string s) := (HB.out.cell hbq).trans hu
      have HS := hide hs
      clear hs hu
      go_upto_if 363 with fail
      go_cut [] from 359 to 369 (fun wn => Below W.heap.size W wn ∧ MapIs wn W.heap.size [(bs [113, 117, 101, 114, 121, 95, 115, 116, 114, 105, 110, 103], .iface 112 (.map (some (W.heap.size + 1))))] ∧ MapE (notB W.heap.size) wn (W.heap.size + 1) (E23 ++ ent [116, 121, 112, 101] (fvT (q.f 27))))
      case first =>
        cases hts : s.toList.isEmpty
        · have HT9 : Hid (fvT (q.f 27) = some (tText s)) := hide (by rw [HS.out]; simp only [fvT, hts]; rfl)
          go_wp2_with (first | (at_mapUpdate; refine wpList_mapUpdate_own _ rfl _ _ _ 112 rfl 9 20 key9 Tryz.underlying112 RV (W.heap.size + 1) L.length (putAll L) rfl HL.out (by rw [HLN.out]; unfold maxLen; omega) _ _ (KL (bs [116, 121, 112, 101])) rfl rfl (key_ok (by decide)) (.held (.iface 9 (.string s))) [] rfl ?_; intro wn hm4 hg4; have HM4 := hide hm4; have HG4 := hide hg4; clear hm4 hg4) | go_in)
          go_meet
          rw [HT9.out]
          have hbn : Below W.heap.size W wn := HB.out.trans ⟨HG4.out.os, HG4.out.tape, HG4.out.output, HG4.out.size, fun k hk => HG4.out.block k (by have := HB.out.size; omega) (some_ne (by omega))⟩
          have hen := MapE.put (F := notB W.heap.size) HENT.out (tells_text _ _ s) HG4.out (by simp [notB]) (mapIs_put HM4.out)
          have hmn : MapIs wn W.heap.size [(bs [113, 117, 101, 114, 121, 95, 115, 116, 114, 105, 110, 103], .iface 112 (.map (some (W.heap.size + 1))))] := HM.out.same (HG4.out.block _ HM.out.lt (some_ne (by omega)))
          exact ⟨hbn, hmn, hen⟩
        · have HT9 : Hid (fvT (q.f 27) = none) := hide (by rw [HS.out]; simp only [fvT, hts]; rfl)
          go_wp2_with fail
          go_meet
          rw [HT9.out]
          exact ⟨HB.out, HM.out, by simpa [ent] using HE.out⟩
      clear HB HM HE HL HENT HLN
      obtain ⟨hb, hm, he⟩ := hcut
      have HB := hide hb
      have HM := hide hm
      obtain ⟨E24, hE'⟩ : ∃ x, x = E23 ++ ent [116, 121, 112, 101] (fvT (q.f 27)) := ⟨_, rfl⟩
      rw [← hE'] at he
      have HE := hide he
      have HEQ24 : Hid (E24 = E23 ++ ent [116, 121, 112, 101] (fvT (q.f 27))) := hide hE'
      clear hb hm he hE'
      have hel24 : E24.length ≤ 27 := by rw [HEQ24.out, List.length_append]; have := ent_le [116, 121, 112, 101] (fvT (q.f 27)); omega
      have hEE : E24 = entsQS bt (tText s0) q := by unfold entsQS; rw [HEQ24.out, HEQ23.out, HEQ22.out, HEQ21.out, HEQ20.out, HEQ19.out, HEQ18.out, HEQ17.out, HEQ16.out, HEQ15.out, HEQ14.out, HEQ13.out, HEQ12.out, HEQ11.out, HEQ10.out, HEQ9.out, HEQ8.out, HEQ7.out, HEQ6.out, HEQ5.out, HEQ4.out, HEQ3.out, HEQ2.out, HEQ1.out, HEQ0.out, HEQ91.out, HEQ90.out]; rfl
      have hin : TellsF (fun _ => True) wc (.iface 112 (.map (some (W.heap.size + 1)))) (mapTree E24) := tells_map (HE.out.weaken (fun _ _ => trivial)) trivial (by rw [hEE]; unfold entsQS; repeat (refine app_ne ?_); simp) (by omega)
      have hout : MapE (fun _ => True) wc W.heap.size [(bs [113, 117, 101, 114, 121, 95, 115, 116, 114, 105, 110, 103], mapTree (entsQS bt (tText s0) q))] := by
        rw [← hEE]
        exact ⟨_, HM.out, Ents.snoc (L := []) (E := []) .nil hin⟩
      have HOUT := hide hout
      clear hEE hin hout
      go_wp2_with fail
      go_returns
      exact ⟨_, rfl, (tells_map HOUT.out trivial (by simp) (by simp)).tells, HB.out⟩
end Go.Proofs.YtbcnhcpgloncdaaGreatDoor
