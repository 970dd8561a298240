/- FnExactIndexAt holds, and its tied card. -/
import Derived.Test.YtpkgngpmnapdoaaDoorLawIndex
import Derived.Test.YtpkgngpmnapdoaaDoorLaid
import Derived.Test.YtpkgngpmnapdoaaDoorTie
import Derived.Test.YtpkgngpmnapdoaaDoorCards
import Derived.SevenTiedAt
import Derived.ProofKit
import Derived.LaidMore
import Derived.OpenShut
import Derived.Stop.Joined
namespace Go.Proofs.YtpkgngpmnapdoaaDoor
open Go.ChangeShapes Go.WideShapes Go.ChangeAt Go.WideElems Go.RowKit Go.Deep
open Go.ChangeMaps (open_string)
set_option linter.unusedVariables false
set_option linter.unusedSimpArgs false
set_option maxRecDepth 100000

theorem exactIndexAt_types : ∀ t ∈ Tryd.f5.params.toList, Tryd.prog.readableRec t = true ∧ t < Tryd.prog.types.size := by
  intro t ht
  rw [Tryd.params5] at ht
  simp only [List.mem_cons, List.not_mem_nil, or_false] at ht
  first
    | (subst ht; exact ⟨by kernel_rfl, of_decide_eq_true (by kernel_rfl)⟩)
    | (rcases ht with rfl | rfl | rfl <;> exact ⟨by kernel_rfl, of_decide_eq_true (by kernel_rfl)⟩)
set_option maxRecDepth 100000 in
theorem exactIndexAt_lifted (os : Os) (started : os.Started) (H : Type) (enc : TypeId × Value → H) :
    ReturnsInHanded {} Tryd.checked os 5 .any (fun w args => (Rows.fnExactIndexAtSpec.pre enc Tryd.prog Tryd.f5 [] false w args ∧ laidMetH Tryd.prog laid1 w) ∧ sizedMet enc Tryd.prog Tryd.f5 (OpenSpec.ofChange Rows.fnExactIndexAtSpec) false w args)
      (Rows.fnExactIndexAtSpec.post enc Tryd.prog Tryd.f5 false true false false) := by
  refine returnsInHanded_of_change_and (C := Tryd.checked) (X := fun w _ => laidMetH Tryd.prog laid1 w) (fun _ _ _ hh h => h.of_heap hh) own started (by kernel_rfl) Tryd.func5
    (ChangeSpec.witness_shaped (enc := enc) (C := Tryd.checked) (os := os) (X := fun w _ => laidMetH Tryd.prog laid1 w) false (World.doorLaid Tryd.prog 400 os) #[.string ⟨#[]⟩, .bool false, .agg #[.string ⟨#[]⟩, .int .i64 0, .int .u64 0, .float .f64 0, .string ⟨#[]⟩]] 8 rfl (World.shaped_of_RefB (by kernel_rfl) (by kernel_rfl)) (by kernel_rfl) (by kernel_rfl) (by kernel_rfl) (door_met os _)) ?_
  intro W base args ds gs before hval0 hW _ _ hL _
  have HE := errW_of_laid hL
  have hval : ∀ (j : Nat) t v, Tryd.f5.params[j]? = some t → args[j]? = some v → Value.okWide Tryd.prog W .any base t v := hval0
  have hW' := hW
  obtain ⟨p, q, hA0, hV, rfl, hfz, hnd⟩ := hW
  have hA : DataW.TrodAll enc Tryd.prog W 0 (fun _ => true) true Tryd.f5.params.toList args.toList ds p := hA0
  have hA1 := hA
  rw [Tryd.params5] at hA hval
  obtain ⟨v0, v1, v2, d0, d1, d2, p0, p1, p2, rfl, rfl, rfl, h0, h1, h2⟩ := trodAll_three hA
  obtain ⟨rfl, rfl⟩ := trodVars_none hV
  obtain ⟨s0, rfl, rfl, _, ws0⟩ := open_string Tryd.underlying9 (hval 0 9 v0 rfl rfl) h0
  obtain ⟨b1, rfl, rfl, _⟩ := open_bool Tryd.underlying4 (hval 1 4 v1 rfl rfl) h1
  obtain ⟨k2, n2, u2, f2, s2, i2⟩ := open_value (hval 2 25 v2 rfl rfl) h2
  obtain rfl := i2.eq
  refine (walk_index s0 b1 k2 n2 u2 f2 s2 i2.n1 i2.n2 i2.u1 i2.u2 W HE).mono fun e W' ⟨he, hb⟩ => ?_
  subst he
  exact ⟨_, rfl, law_post (gs := []) (q := []) laidOut exactIndexAt_types rfl Tryd.underlying4 rfl (fun _ _ => rfl) hA1 rfl hW' hb⟩
theorem exactIndexAt : Rows.FnExactIndexAtSaid :=
  OpenClaim.holds_of_wide 5 Tryd.f5 rfl rfl rfl rfl rfl rfl rfl ⟨rfl, rfl, rfl, rfl, rfl⟩ rfl rfl rfl rfl rfl (by kernel_rfl) Tryd.func5 (by kernel_rfl)
    (of_decide_eq_true (by kernel_rfl)) (by unfold Func.isWrapper; first | (rw [if_pos (by decide +kernel)]; kernel_rfl) | (rw [if_neg (by decide +kernel)]; exact ⟨rfl, rfl⟩))
    (fun os started H enc _ => exactIndexAt_lifted os started H enc)
set_option maxRecDepth 100000 in
/-- The tied card. -/
theorem exactIndexAtCard : Rows.FnExactIndexAtCardSaid :=
  Claim7.holds_tied_plain_at .later [] [.sentinel] true (true, "e3828eda2b9025dd42f836d4f9fea8c0f6010bfd8c9a4fa2457e4ee6c9eb7c46") true
    exactIndexAt (fun _ h => by cases h) (by kernel_rfl) (fun _ h => by cases h) fnExactIndexAt_row_tie rfl ⟨rfl, rfl⟩ (by kernel_rfl) rfl
    (fun f fn hf hfn => by
      obtain rfl : f = 5 := Option.some.inj ((show Tryd.prog.funcNamed "pub-quern/laws.FnExactIndexAt" = some 5 by kernel_rfl).symm.trans hf) |>.symm
      obtain rfl : fn = Tryd.f5 := (Option.some.inj (Tryd.func5.symm.trans hfn)).symm
      exact ⟨by kernel_rfl, fun j t ht => by
        rw [Tryd.params5] at ht
        have hm : t ∈ [9, 4, 25] := by simpa using Array.mem_of_getElem? ht
        have hall : ([9, 4, 25].all fun u => !Tryd.prog.wantsStandIn u) = true := by kernel_rfl
        exact (show Tryd.prog.wantsStandIn t = false by simpa using List.all_eq_true.1 hall t hm)⟩)
    (by kernel_rfl)
end Go.Proofs.YtpkgngpmnapdoaaDoor
