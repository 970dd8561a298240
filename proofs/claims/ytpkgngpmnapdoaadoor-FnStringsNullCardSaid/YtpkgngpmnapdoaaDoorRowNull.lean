/- FnStringsNull holds, and its tied card. -/
import Derived.Test.YtpkgngpmnapdoaaDoorLawNull
import Derived.Test.YtpkgngpmnapdoaaDoorLaid
import Derived.Test.YtpkgngpmnapdoaaDoorTie
import Derived.Test.YtpkgngpmnapdoaaDoorCards
import Derived.SevenTiedAt
import Derived.ProofKit
import Derived.LaidMore
import Derived.OpenShut
import Derived.Stop.Joined
namespace Go.Proofs.YtpkgngpmnapdoaaDoor
open Go.ChangeShapes Go.WideShapes Go.ChangeAt Go.WideElems Go.RowKit Go.Deep
open Go.ChangeMaps (open_string)
set_option linter.unusedVariables false
set_option linter.unusedSimpArgs false
set_option maxRecDepth 100000

theorem stringsNull_types : ∀ t ∈ Tryd.f7.params.toList, Tryd.prog.readableRec t = true ∧ t < Tryd.prog.types.size := by
  intro t ht
  rw [Tryd.params7] at ht
  simp only [List.mem_cons, List.not_mem_nil, or_false] at ht
  first
    | (subst ht; exact ⟨by kernel_rfl, of_decide_eq_true (by kernel_rfl)⟩)
    | (rcases ht with rfl <;> exact ⟨by kernel_rfl, of_decide_eq_true (by kernel_rfl)⟩)
set_option maxRecDepth 100000 in
theorem stringsNull_lifted (os : Os) (started : os.Started) (H : Type) (enc : TypeId × Value → H) :
    ReturnsInHanded {} Tryd.checked os 7 .any (fun w args => (Rows.fnStringsNullSpec.pre enc Tryd.prog Tryd.f7 [] false w args ∧ laidMetH Tryd.prog laid1 w) ∧ sizedMet enc Tryd.prog Tryd.f7 (OpenSpec.ofChange Rows.fnStringsNullSpec) false w args)
      (Rows.fnStringsNullSpec.post enc Tryd.prog Tryd.f7 false true false false) := by
  refine returnsInHanded_of_change_and (C := Tryd.checked) (X := fun w _ => laidMetH Tryd.prog laid1 w) (fun _ _ _ hh h => h.of_heap hh) own started (by kernel_rfl) Tryd.func7
    (ChangeSpec.witness_shaped (enc := enc) (C := Tryd.checked) (os := os) (X := fun w _ => laidMetH Tryd.prog laid1 w) false (World.doorLaid Tryd.prog 400 os) #[.string ⟨#[]⟩] 8 rfl (World.shaped_of_RefB (by kernel_rfl) (by kernel_rfl)) (by kernel_rfl) (by kernel_rfl) (by kernel_rfl) (door_met os _)) ?_
  intro W base args ds gs before hval0 hW _ _ hL _
  have HE := errW_of_laid hL
  have hval : ∀ (j : Nat) t v, Tryd.f7.params[j]? = some t → args[j]? = some v → Value.okWide Tryd.prog W .any base t v := hval0
  have hW' := hW
  obtain ⟨p, q, hA0, hV, rfl, hfz, hnd⟩ := hW
  have hA : DataW.TrodAll enc Tryd.prog W 0 (fun _ => true) true Tryd.f7.params.toList args.toList ds p := hA0
  have hA1 := hA
  rw [Tryd.params7] at hA hval
  obtain ⟨v0, d0, rfl, rfl, h0⟩ := trodAll_one hA
  obtain ⟨rfl, rfl⟩ := trodVars_none hV
  obtain ⟨s0, rfl, rfl, _, ws0⟩ := open_string Tryd.underlying9 (hval 0 9 v0 rfl rfl) h0
  refine (walk_null s0 W).mono fun e W' ⟨he, hb⟩ => ?_
  subst he
  exact ⟨_, rfl, law_post (gs := []) (q := []) laidOut stringsNull_types rfl Tryd.underlying4 rfl (fun _ _ => rfl) hA1 rfl hW' hb⟩
theorem stringsNull : Rows.FnStringsNullSaid :=
  OpenClaim.holds_of_wide 7 Tryd.f7 rfl rfl rfl rfl rfl rfl rfl ⟨rfl, rfl, rfl, rfl, rfl⟩ rfl rfl rfl rfl rfl (by kernel_rfl) Tryd.func7 (by kernel_rfl)
    (of_decide_eq_true (by kernel_rfl)) (by unfold Func.isWrapper; first | (rw [if_pos (by decide +kernel)]; kernel_rfl) | (rw [if_neg (by decide +kernel)]; exact ⟨rfl, rfl⟩))
    (fun os started H enc _ => stringsNull_lifted os started H enc)
set_option maxRecDepth 100000 in
/-- The tied card. -/
theorem stringsNullCard : Rows.FnStringsNullCardSaid :=
  Claim7.holds_tied_plain_at .later [] [.sentinel] true (true, "e3828eda2b9025dd42f836d4f9fea8c0f6010bfd8c9a4fa2457e4ee6c9eb7c46") true
    stringsNull (fun _ h => by cases h) (by kernel_rfl) (fun _ h => by cases h) fnStringsNull_row_tie rfl ⟨rfl, rfl⟩ (by kernel_rfl) rfl
    (fun f fn hf hfn => by
      obtain rfl : f = 7 := Option.some.inj ((show Tryd.prog.funcNamed "pub-quern/laws.FnStringsNull" = some 7 by kernel_rfl).symm.trans hf) |>.symm
      obtain rfl : fn = Tryd.f7 := (Option.some.inj (Tryd.func7.symm.trans hfn)).symm
      exact ⟨by kernel_rfl, fun j t ht => by
        rw [Tryd.params7] at ht
        have hm : t ∈ [9] := by simpa using Array.mem_of_getElem? ht
        have hall : ([9].all fun u => !Tryd.prog.wantsStandIn u) = true := by kernel_rfl
        exact (show Tryd.prog.wantsStandIn t = false by simpa using List.all_eq_true.1 hall t hm)⟩)
    (by kernel_rfl)
end Go.Proofs.YtpkgngpmnapdoaaDoor
