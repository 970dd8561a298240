/- FnIdealOnce holds: for every Value, without a condition: a literal of a kind becomes one of a type, all others stay; twice is once. -/
import Derived.Test.YtamlkedkmehfcaaRRRRLawIdeal
import Derived.Test.YtamlkedkmehfcaaRRRRFrame
namespace Go.Proofs.YtamlkedkmehfcaaRRRR
open Go.ChangeShapes Go.WideShapes Go.ChangeAt Go.WideElems Go.RowKit Go.Deep
open Go.ChangeMaps (open_string)
set_option linter.unusedVariables false
set_option linter.unusedSimpArgs false

theorem idealOnce_types : ∀ t ∈ Try.f5.params.toList, Try.prog.readableRec t = true ∧ t < Try.prog.types.size := by
  intro t ht
  rw [Try.params5] at ht
  simp only [List.mem_cons, List.not_mem_nil, or_false] at ht
  first
    | (subst ht; exact ⟨by kernel_rfl, of_decide_eq_true (by kernel_rfl)⟩)
    | (rcases ht with rfl <;> exact ⟨by kernel_rfl, of_decide_eq_true (by kernel_rfl)⟩)
set_option maxRecDepth 100000 in
theorem idealOnce_lifted (os : Os) (started : os.Started) (H : Type) (enc : TypeId × Value → H) :
    ReturnsInHanded {} Try.checked os 5 .any (Rows.fnIdealOnceSpec.pre6 enc Try.prog Try.f5 Rows.fnIdealOnceRow.domain false) (Rows.fnIdealOnceSpec.post enc Try.prog Try.f5 false true false false) := by
  refine returnsInHanded_of_change (C := Try.checked) own started (by kernel_rfl) Try.func5
    (ChangeSpec.witness6 (enc := enc) (C := Try.checked) false ⟨#[], #[.agg #[.string ⟨#[]⟩, .int .i64 0, .int .u64 0, .float .f64 0, .string ⟨#[]⟩]], []⟩ 8 (by kernel_rfl) (by kernel_rfl) (by kernel_rfl) (by kernel_rfl)) ?_
  intro W base args ds gs before hval0 hW hcnd _
  have hval : ∀ (j : Nat) t v, Try.f5.params[j]? = some t → args[j]? = some v → Value.okWide Try.prog W .any base t v := hval0
  have hW' := hW
  obtain ⟨p, q, hA0, hV, rfl, hfz, hnd⟩ := hW
  have hA : DataW.TrodAll enc Try.prog W 0 (fun _ => true) true Try.f5.params.toList args.toList ds p := hA0
  have hA1 := hA
  rw [Try.params5] at hA hval
  obtain ⟨v0, d0, rfl, rfl, h0⟩ := trodAll_one hA
  obtain ⟨rfl, rfl⟩ := trodVars_none hV
  obtain ⟨k0, n0, u0, f0, s0, i0⟩ := open_value (hval 0 29 v0 rfl rfl) h0
  obtain rfl := i0.eq
  refine (walk_ideal k0 n0 u0 f0 s0 i0.n1 i0.n2 i0.u1 i0.u2 W).mono fun e W' ⟨he, hb⟩ => ?_
  subst he
  exact ⟨_, rfl, law_post (gs := []) (q := []) laidOut idealOnce_types rfl Try.underlying4 rfl (fun _ _ => rfl) hA1 rfl hW' hb⟩
theorem idealOnce : Rows.FnIdealOnceSaid :=
  OpenClaim.holds_of_wide 5 Try.f5 rfl rfl rfl rfl rfl rfl rfl ⟨rfl, rfl, rfl, rfl, rfl⟩ rfl rfl rfl rfl rfl (by kernel_rfl) Try.func5 (by kernel_rfl)
    (of_decide_eq_true (by kernel_rfl)) (by unfold Func.isWrapper; first | (rw [if_pos (by decide +kernel)]; kernel_rfl) | (rw [if_neg (by decide +kernel)]; exact ⟨rfl, rfl⟩))
    (fun os started H enc _ => idealOnce_lifted os started H enc)
end Go.Proofs.YtamlkedkmehfcaaRRRR
