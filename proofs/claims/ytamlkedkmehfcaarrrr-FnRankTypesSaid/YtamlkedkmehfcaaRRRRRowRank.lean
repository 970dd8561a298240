/- FnRankTypes holds: for every two Values, without a condition: the rank of two values is the same exactly where their kinds are. -/
import Derived.Test.YtamlkedkmehfcaaRRRRLawRank
import Derived.Test.YtamlkedkmehfcaaRRRRFrame
namespace Go.Proofs.YtamlkedkmehfcaaRRRR
open Go.ChangeShapes Go.WideShapes Go.ChangeAt Go.WideElems Go.RowKit Go.Deep
open Go.ChangeMaps (open_string)
set_option linter.unusedVariables false
set_option linter.unusedSimpArgs false

theorem rankTypes_types : ∀ t ∈ Try.f4.params.toList, Try.prog.readableRec t = true ∧ t < Try.prog.types.size := by
  intro t ht
  rw [Try.params4] at ht
  simp only [List.mem_cons, List.not_mem_nil, or_false] at ht
  first
    | (subst ht; exact ⟨by kernel_rfl, of_decide_eq_true (by kernel_rfl)⟩)
    | (rcases ht with rfl | rfl <;> exact ⟨by kernel_rfl, of_decide_eq_true (by kernel_rfl)⟩)
set_option maxRecDepth 100000 in
theorem rankTypes_lifted (os : Os) (started : os.Started) (H : Type) (enc : TypeId × Value → H) :
    ReturnsInHanded {} Try.checked os 4 .any (Rows.fnRankTypesSpec.pre6 enc Try.prog Try.f4 Rows.fnRankTypesRow.domain false) (Rows.fnRankTypesSpec.post enc Try.prog Try.f4 false true false false) := by
  refine returnsInHanded_of_change (C := Try.checked) own started (by kernel_rfl) Try.func4
    (ChangeSpec.witness6 (enc := enc) (C := Try.checked) false ⟨#[], #[.agg #[.string ⟨#[]⟩, .int .i64 0, .int .u64 0, .float .f64 0, .string ⟨#[]⟩], .agg #[.string ⟨#[]⟩, .int .i64 0, .int .u64 0, .float .f64 0, .string ⟨#[]⟩]], []⟩ 8 (by kernel_rfl) (by kernel_rfl) (by kernel_rfl) (by kernel_rfl)) ?_
  intro W base args ds gs before hval0 hW hcnd _
  have hval : ∀ (j : Nat) t v, Try.f4.params[j]? = some t → args[j]? = some v → Value.okWide Try.prog W .any base t v := hval0
  have hW' := hW
  obtain ⟨p, q, hA0, hV, rfl, hfz, hnd⟩ := hW
  have hA : DataW.TrodAll enc Try.prog W 0 (fun _ => true) true Try.f4.params.toList args.toList ds p := hA0
  have hA1 := hA
  rw [Try.params4] at hA hval
  obtain ⟨v0, v1, d0, d1, p0, p1, rfl, rfl, rfl, h0, h1⟩ := trodAll_two hA
  obtain ⟨rfl, rfl⟩ := trodVars_none hV
  obtain ⟨k0, n0, u0, f0, s0, i0⟩ := open_value (hval 0 29 v0 rfl rfl) h0
  obtain rfl := i0.eq
  obtain ⟨k1, n1, u1, f1, s1, i1⟩ := open_value (hval 1 29 v1 rfl rfl) h1
  obtain rfl := i1.eq
  refine (walk_rank k0 n0 u0 f0 s0 k1 n1 u1 f1 s1 i0.n1 i0.n2 i0.u1 i0.u2 i1.n1 i1.n2 i1.u1 i1.u2 W).mono fun e W' ⟨he, hb⟩ => ?_
  subst he
  exact ⟨_, rfl, law_post (gs := []) (q := []) laidOut rankTypes_types rfl Try.underlying4 rfl (fun _ _ => rfl) hA1 rfl hW' hb⟩
theorem rankTypes : Rows.FnRankTypesSaid :=
  OpenClaim.holds_of_wide 4 Try.f4 rfl rfl rfl rfl rfl rfl rfl ⟨rfl, rfl, rfl, rfl, rfl⟩ rfl rfl rfl rfl rfl (by kernel_rfl) Try.func4 (by kernel_rfl)
    (of_decide_eq_true (by kernel_rfl)) (by unfold Func.isWrapper; first | (rw [if_pos (by decide +kernel)]; kernel_rfl) | (rw [if_neg (by decide +kernel)]; exact ⟨rfl, rfl⟩))
    (fun os started H enc _ => rankTypes_lifted os started H enc)
end Go.Proofs.YtamlkedkmehfcaaRRRR
