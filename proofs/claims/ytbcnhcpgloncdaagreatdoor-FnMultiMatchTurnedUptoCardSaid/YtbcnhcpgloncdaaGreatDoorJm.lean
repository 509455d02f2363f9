/-
  impl.MultiMatch: WHAT IT TELLS, AND THAT IT IS Same WITH ITSELF.
-/
import Derived.Test.YtbcnhcpgloncdaaGreatDoorJn
import Derived.Test.YtbcnhcpgloncdaaGreatDoorQgMM
import Derived.Test.YtbcnhcpgloncdaaGreatDoorQsMM
namespace Go.Proofs.YtbcnhcpgloncdaaGreatDoor
open Go.RowKit Go.Sort

theorem compatMM : Compat qtMM MM := ⟨by rw [rowsMM_is]; decide +kernel, by rw [rowsMM_is]; decide +kernel⟩
theorem pairMM : qtMM.Pairwise (fun a b => a.2.1 ≠ b.2.1) := by decide +kernel
theorem shapedMM (u : Value) (ks : List ByteArray) : Shaped qtMM (initQ (cMM u) ks) := by
  intro r hr
  simp only [qtMM, List.mem_cons, List.not_mem_nil, or_false] at hr
  rcases hr with rfl | rfl | rfl | rfl | rfl | rfl | rfl | rfl | rfl | rfl | rfl | rfl | rfl | rfl | rfl | rfl
  all_goals first | exact Or.inl rfl | exact ⟨_, rfl⟩
theorem initMM_ok (u : Value) (hu : ∃ k x, u = .iface k x) (ks : List ByteArray) : ∀ i, FVok ((initQ (cMM u) ks).f i) := by
  obtain ⟨k, x, rfl⟩ := hu
  intro i
  show FVok (fvOf ((cMM (.iface k x))[i]?.getD .nilIface))
  rcases Nat.lt_or_ge i 19 with h | h
  · have : i = 0 ∨ i = 1 ∨ i = 2 ∨ i = 3 ∨ i = 4 ∨ i = 5 ∨ i = 6 ∨ i = 7 ∨ i = 8 ∨ i = 9 ∨ i = 10 ∨ i = 11 ∨ i = 12 ∨ i = 13 ∨ i = 14 ∨ i = 15 ∨ i = 16 ∨ i = 17 ∨ i = 18 := by omega
    rcases this with rfl | rfl | rfl | rfl | rfl | rfl | rfl | rfl | rfl | rfl | rfl | rfl | rfl | rfl | rfl | rfl | rfl | rfl | rfl
    all_goals first | exact fvok_text ⟨#[]⟩ | exact fun t h => by cases h
  · have e : (cMM (.iface k x))[i]? = none := Array.getElem?_eq_none h
    rw [e]
    exact fun t h => by cases h
theorem len_ent {a : List (ByteArray × T)} {n : Nat} (k : List UInt8) (o : Option T) (h : a.length ≤ n) : (a ++ ent k o).length ≤ n + 1 := by
  rw [List.length_append]
  have := ent_le k o
  omega
def q0MM (text : T) (fields : List ByteArray) : Q := initQ (cMM (plainV text)) fields
noncomputable def treeMM (text : T) (q : Q) : T := mapTree [(bs [109, 117, 108, 116, 105, 95, 109, 97, 116, 99, 104], mapTree (entsMM bText (leafT text) q))]
theorem all_append {α : Type} {P : α → Prop} {a b : List α} (h1 : ∀ p ∈ a, P p) (h2 : ∀ p ∈ b, P p) : ∀ p ∈ a ++ b, P p := fun p hp => (List.mem_append.1 hp).elim (h1 p) (h2 p)

theorem entsMM_ok {text : T} (ht : scalarT text = true) {q : Q} (hq : ∀ i, FVok (q.f i)) : ∀ p ∈ entsMM bText (leafT text) q, sameB p.2 p.2 = true ∧ wT p.2 ≤ 1 + q.fields.length * 2 := by
  have hw : ∀ key i, ∀ p ∈ ent key (fvT (q.f i)), sameB p.2 p.2 = true ∧ wT p.2 ≤ 1 + q.fields.length * 2 := fun key i p hp => by
    have := ent_ok (hq i) p hp
    exact ⟨this.1, by omega⟩
  unfold entsMM
  repeat (refine all_append ?_ (hw _ _))
  refine all_append ?_ ?_
  · intro p hp
    obtain rfl : p = _ := by simpa using hp
    have := leaf_same ht
    exact ⟨this.1, by show wT (leafT text) ≤ _; omega⟩
  · intro p hp
    obtain rfl : p = _ := by simpa using hp
    refine ⟨same_list _, ?_⟩
    have := wT_list (fieldTexts bText q)
    have e : (fieldTexts bText q).length = q.fields.length := by simp [fieldTexts]
    rw [e] at this
    exact this
theorem entsMM_len (t0 : T) (q : Q) : (entsMM bText t0 q).length ≤ 18 := by
  unfold entsMM
  repeat (refine len_ent _ _ ?_)
  simp

theorem treeMM_ok {text : T} (ht : scalarT text = true) {q : Q} (hq : ∀ i, FVok (q.f i)) (hn : q.fields.length ≤ 4194304) : sameB (treeMM text q) (treeMM text q) = true ∧ wT (treeMM text q) ≤ 1073741824 := by
  have he := entsMM_ok ht hq
  have hl := entsMM_len (leafT text) q
  constructor
  · refine same_map fun p hp => ?_
    obtain rfl : p = _ := by simpa using hp
    exact same_map fun p hp => (he p hp).1
  · have h1 := wT_map (E := entsMM bText (leafT text) q) (M := 1 + q.fields.length * 2) fun p hp => (he p hp).2
    have h2 : (entsMM bText (leafT text) q).length * (1 + q.fields.length * 2 + 1) ≤ 18 * (1 + q.fields.length * 2 + 1) := Nat.mul_le_mul_right _ hl
    have h3 := wT_map (E := [(bs [109, 117, 108, 116, 105, 95, 109, 97, 116, 99, 104], mapTree (entsMM bText (leafT text) q))]) (M := 1000000000) fun p hp => by
      obtain rfl : p = _ := by simpa using hp
      show wT (mapTree (entsMM bText (leafT text) q)) ≤ _
      omega
    simp only [List.length_singleton] at h3
    show wT (mapTree _) ≤ _
    omega

theorem run_q {text : T} {fields : List ByteArray} {ss : List S} (h2 : fields.length ≤ 1048576) (h3 : ss.length ≤ 1048576) (hfit : ∀ s ∈ ss, fitsAt MM s = true) :
    (∀ i, FVok ((runQ qtMM (q0MM text fields) ss).f i)) ∧ (runQ qtMM (q0MM text fields) ss).fields.length ≤ 4194304 := by
  refine ⟨fvok_run compatMM ss _ (initMM_ok _ (plain_iface text) fields) hfit, ?_⟩
  have := (runQ_len qtMM ss (q0MM text fields)).1
  have e : (q0MM text fields).fields = fields := rfl
  rw [e] at this
  omega

/-- impl.MultiMatch's contract, whole. -/
theorem mm_any {w : World} {ok : Nat → Prop} {vt vf vs : Value} {text : T} {fields : List ByteArray} {ss : List S} (hG : Glob w) (hsc : scalarT text = true) (h2 : fields.length ≤ 1048576) (h3 : ss.length ≤ 1048576) (h4 : ∀ f ∈ fields, f.size ≤ 1048576) (h5 : ∀ s ∈ ss, s.value.text.size ≤ 1048576)
    (h6 : ∀ s ∈ ss, s.value.num < 18446744073709551616) (hfit : ∀ s ∈ ss, fitsAt MM s = true) (ht : TreeAt w ok vt text) (hf : StrsAt w ok vf fields) (hs : SetsAt w ok vs ss) :
    Calls Tryz.prog 16 #[vt, vf, vs] w (RetTold w fun t => t = treeMM text (runQ qtMM (q0MM text fields) ss)) := by
  have hk := (scalar_kind hsc).1
  refine impl_16 ht hk hf hs hfit (fun s hs => by have := h5 s hs; omega) (by omega) hG (fun q t => t = treeMM text q) ?_
  intro w1 lo bq hb hlo hq
  have hr := run_q (text := text) h2 h3 hfit
  refine source_53 bText (okx := okB) (fun x w h hg => formatFloat_any x w h hg) bText_small hq (hG.below hb) (shaped_run pairMM ss (shapedMM _ fields)) (plainV text) (leafT text) ?_ (plain_iface text) (tells_plain text) ?_ ?_ hr.2
  · obtain ⟨k, x, e⟩ := plain_iface text
    rw [run_other (by decide +kernel), e]
    rfl
  · exact boosts_run compatMM ss _ (fun p hp => by cases hp) hfit h6
  · exact fun f hf => Nat.le_trans (fields_run ss _ h4 h5 f hf) (by decide)
end Go.Proofs.YtbcnhcpgloncdaaGreatDoor
