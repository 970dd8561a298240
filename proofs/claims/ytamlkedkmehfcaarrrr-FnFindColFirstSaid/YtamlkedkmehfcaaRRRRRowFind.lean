/- FnFindColFirst holds: for every list of names and every name, without a condition: FindCol is the first place of the name, or -1. -/
import Derived.Test.YtamlkedkmehfcaaRRRRLawFind
import Derived.Test.YtamlkedkmehfcaaRRRRFrame
namespace Go.Proofs.YtamlkedkmehfcaaRRRR
open Go.ChangeShapes Go.WideShapes Go.ChangeAt Go.WideElems Go.RowKit Go.Deep
open Go.ChangeMaps (open_string)
set_option linter.unusedVariables false
set_option linter.unusedSimpArgs false
theorem strs_at {W : World} {a : Addr} {ss : List ByteArray} (h : ∀ i, i < ss.length → W.cell? (a.add i) = some (.string (ss.getD i ByteArray.empty))) (hp : 0 < ss.length) :
    ∃ b off, a = ⟨b, off, none⟩ ∧ b < W.heap.size ∧ ∀ j, j < ss.length → W.cell? ⟨b, off + j, none⟩ = some (.string (ss.getD j ByteArray.empty)) := by
  obtain ⟨b, off, spot⟩ := a
  have h0 := h 0 hp
  have hspot : spot = none := by simpa [Addr.add] using World.cell?_spot h0
  subst hspot
  refine ⟨b, off, rfl, ?_, fun j hj => by rw [← Go.WideShapes.add_plain]; exact h j hj⟩
  simp only [Addr.add, if_true] at h0
  unfold World.cell? at h0
  split at h0
  · rename_i c t m hx
    exact (Array.getElem?_eq_some_iff.1 hx).1
  · cases h0
theorem cellsStr : Try.prog.cellsOf 9 = 1 := by kernel_rfl

theorem findColFirst_types : ∀ t ∈ Try.f3.params.toList, Try.prog.readableRec t = true ∧ t < Try.prog.types.size := by
  intro t ht
  rw [Try.params3] at ht
  simp only [List.mem_cons, List.not_mem_nil, or_false] at ht
  first
    | (subst ht; exact ⟨by kernel_rfl, of_decide_eq_true (by kernel_rfl)⟩)
    | (rcases ht with rfl | rfl <;> exact ⟨by kernel_rfl, of_decide_eq_true (by kernel_rfl)⟩)
set_option maxRecDepth 100000 in
theorem findColFirst_lifted (os : Os) (started : os.Started) (H : Type) (enc : TypeId × Value → H) :
    ReturnsInHanded {} Try.checked os 3 .any (Rows.fnFindColFirstSpec.pre6 enc Try.prog Try.f3 Rows.fnFindColFirstRow.domain false) (Rows.fnFindColFirstSpec.post enc Try.prog Try.f3 false true false false) := by
  refine returnsInHanded_of_change (C := Try.checked) own started (by kernel_rfl) Try.func3
    (ChangeSpec.witness6 (enc := enc) (C := Try.checked) false ⟨#[], #[.slice none 0 0, .string ⟨#[]⟩], []⟩ 8 (by kernel_rfl) (by kernel_rfl) (by kernel_rfl) (by kernel_rfl)) ?_
  intro W base args ds gs before hval0 hW hcnd _
  have hval : ∀ (j : Nat) t v, Try.f3.params[j]? = some t → args[j]? = some v → Value.okWide Try.prog W .any base t v := hval0
  have hW' := hW
  obtain ⟨p, q, hA0, hV, rfl, hfz, hnd⟩ := hW
  have hA : DataW.TrodAll enc Try.prog W 0 (fun _ => true) true Try.f3.params.toList args.toList ds p := hA0
  have hA1 := hA
  rw [Try.params3] at hA hval
  obtain ⟨v0, v1, d0, d1, p0, p1, rfl, rfl, rfl, h0, h1⟩ := trodAll_two hA
  obtain ⟨rfl, rfl⟩ := trodVars_none hV
  obtain ⟨s1, rfl, rfl, _, ws1⟩ := open_string Try.underlying9 (hval 1 9 v1 rfl rfl) h1
  obtain ⟨a0, len, cap, rfl⟩ := okWide_slice Try.underlying22 (hval 0 22 v0 rfl rfl)
  have hwalk : Calls Try.prog 3 #[.slice a0 len cap, .string s1] W (LawPost7 W) := by
    obtain ⟨fuel, hf⟩ := h0
    have hs1 : s1.size ≤ 9223372036854775807 := ws1
    rcases open_strings Try.underlying22 Try.underlying9 cellsStr hf with ⟨hcs, _⟩ | ⟨a, len', cap', ss, hcs, _, hl, hm, hz, _, hcell, _⟩
    · simp [Value.cells] at hcs
      obtain ⟨rfl, rfl, rfl⟩ := hcs
      exact walk_find_nil none 0 s1 W hs1
    · simp [Value.cells] at hcs
      obtain ⟨rfl, rfl, rfl⟩ := hcs
      simp only [if_true] at hz
      rcases Nat.eq_zero_or_pos len with rfl | hpos
      · exact walk_find_nil _ cap s1 W hs1
      · obtain ⟨b, off, rfl, hb, hc⟩ := strs_at hcell (by omega)
        exact walk_find b off cap len (fun j => ss.getD j ByteArray.empty) s1 W (by unfold maxLen at hm; omega) hs1 hb (fun j hj => hc j (by omega))
  refine (hwalk).mono fun e W' ⟨he, hb⟩ => ?_
  subst he
  exact ⟨_, rfl, law_post (gs := []) (q := []) laidOut findColFirst_types rfl Try.underlying4 rfl (fun _ _ => rfl) hA1 rfl hW' hb⟩
theorem findColFirst : Rows.FnFindColFirstSaid :=
  OpenClaim.holds_of_wide 3 Try.f3 rfl rfl rfl rfl rfl rfl rfl ⟨rfl, rfl, rfl, rfl, rfl⟩ rfl rfl rfl rfl rfl (by kernel_rfl) Try.func3 (by kernel_rfl)
    (of_decide_eq_true (by kernel_rfl)) (by unfold Func.isWrapper; first | (rw [if_pos (by decide +kernel)]; kernel_rfl) | (rw [if_neg (by decide +kernel)]; exact ⟨rfl, rfl⟩))
    (fun os started H enc _ => findColFirst_lifted os started H enc)
end Go.Proofs.YtamlkedkmehfcaaRRRR
