/- FnFormatIntReads holds, and its tied card. -/
import Derived.Test.YtpkgngpmnapdoaaDoorLawFmt
import Derived.Test.YtpkgngpmnapdoaaDoorLaidFmt
import Derived.Test.YtpkgngpmnapdoaaDoorFrame
import Derived.Test.YtpkgngpmnapdoaaDoorTie
import Derived.Test.YtpkgngpmnapdoaaDoorCards
import Derived.SevenTiedAt
import Derived.ProofKit
import Derived.LaidMore
import Derived.OpenShut
import Derived.Stop.Joined
namespace Go.Proofs.YtpkgngpmnapdoaaDoor
open Go.ChangeShapes Go.WideShapes Go.ChangeAt Go.WideElems Go.RowKit Go.Deep
open Go.ChangeMaps (open_string)
set_option linter.unusedVariables false
set_option linter.unusedSimpArgs false
set_option maxRecDepth 100000

theorem formatIntReads_types : ∀ t ∈ Tryd.f8.params.toList, Tryd.prog.readableRec t = true ∧ t < Tryd.prog.types.size := by
  intro t ht
  rw [Tryd.params8] at ht
  simp only [List.mem_cons, List.not_mem_nil, or_false] at ht
  first
    | (subst ht; exact ⟨by kernel_rfl, of_decide_eq_true (by kernel_rfl)⟩)
    | (rcases ht with rfl | rfl <;> exact ⟨by kernel_rfl, of_decide_eq_true (by kernel_rfl)⟩)
set_option maxRecDepth 100000 in
theorem formatIntReads_lifted (os : Os) (started : os.Started) (H : Type) (enc : TypeId × Value → H) :
    ReturnsInHanded {} Tryd.checked os 8 .any (fun w args => (Rows.fnFormatIntReadsSpec.pre enc Tryd.prog Tryd.f8 [] false w args ∧ laidMetH Tryd.prog laid4 w) ∧ sizedMet enc Tryd.prog Tryd.f8 (OpenSpec.ofChange Rows.fnFormatIntReadsSpec) false w args)
      (Rows.fnFormatIntReadsSpec.post enc Tryd.prog Tryd.f8 false true false false) := by
  refine returnsInHanded_of_change_and (C := Tryd.checked) (X := fun w _ => laidMetH Tryd.prog laid4 w) (fun _ _ _ hh h => h.of_heap hh) own started (by kernel_rfl) Tryd.func8
    (ChangeSpec.witness_shaped (enc := enc) (C := Tryd.checked) (os := os) (X := fun w _ => laidMetH Tryd.prog laid4 w) false (World.doorLaid Tryd.prog 400 os) #[.agg #[.string ⟨#[]⟩, .int .i64 0, .int .u64 0, .float .f64 0, .string ⟨#[]⟩], .int .i64 0] 8 rfl (World.shaped_of_RefB (by kernel_rfl) (by kernel_rfl)) (by kernel_rfl) (by kernel_rfl) (by kernel_rfl) (door_met4 os _)) ?_
  intro W base args ds gs before hval0 hW _ _ hL _
  have HE := fmtW_of_laid hL
  have hval : ∀ (j : Nat) t v, Tryd.f8.params[j]? = some t → args[j]? = some v → Value.okWide Tryd.prog W .any base t v := hval0
  have hW' := hW
  obtain ⟨p, q, hA0, hV, rfl, hfz, hnd⟩ := hW
  have hA : DataW.TrodAll enc Tryd.prog W 0 (fun _ => true) true Tryd.f8.params.toList args.toList ds p := hA0
  have hA1 := hA
  rw [Tryd.params8] at hA hval
  obtain ⟨v0, v1, d0, d1, p0, p1, rfl, rfl, rfl, h0, h1⟩ := trodAll_two hA
  obtain ⟨rfl, rfl⟩ := trodVars_none hV
  obtain ⟨k0, n0, u0, f0, s0, i0⟩ := open_value (hval 0 25 v0 rfl rfl) h0
  obtain rfl := i0.eq
  obtain ⟨x1, rfl, rfl, _, wx1⟩ := open_int Tryd.underlying2 (hval 1 2 v1 rfl rfl) h1
  refine (walk_fmt k0 n0 u0 f0 s0 i0.n1 i0.n2 i0.u1 i0.u2 x1 W HE).mono fun e W' ⟨he, hb⟩ => ?_
  subst he
  exact ⟨_, rfl, law_post (gs := []) (q := []) laidOut formatIntReads_types rfl Tryd.underlying4 rfl (fun _ _ => rfl) hA1 rfl hW' hb⟩
theorem formatIntReads : Rows.FnFormatIntReadsSaid :=
  OpenClaim.holds_of_wide 8 Tryd.f8 rfl rfl rfl rfl rfl rfl rfl ⟨rfl, rfl, rfl, rfl, rfl⟩ rfl rfl rfl rfl rfl (by kernel_rfl) Tryd.func8 (by kernel_rfl)
    (of_decide_eq_true (by kernel_rfl)) (by unfold Func.isWrapper; first | (rw [if_pos (by decide +kernel)]; kernel_rfl) | (rw [if_neg (by decide +kernel)]; exact ⟨rfl, rfl⟩))
    (fun os started H enc _ => formatIntReads_lifted os started H enc)
set_option maxRecDepth 100000 in
/-- The tied card. -/
theorem formatIntReadsCard : Rows.FnFormatIntReadsCardSaid :=
  Claim7.holds_tied_plain_at .later [] [.data, .data, .data, .sentinel] true (true, "e3828eda2b9025dd42f836d4f9fea8c0f6010bfd8c9a4fa2457e4ee6c9eb7c46") true
    formatIntReads (fun _ h => by cases h) (by kernel_rfl) (fun _ h => by cases h) fnFormatIntReads_row_tie rfl ⟨rfl, rfl⟩ (by kernel_rfl) rfl
    (fun f fn hf hfn => by
      obtain rfl : f = 8 := Option.some.inj ((show Tryd.prog.funcNamed "pub-quern/laws.FnFormatIntReads" = some 8 by kernel_rfl).symm.trans hf) |>.symm
      obtain rfl : fn = Tryd.f8 := (Option.some.inj (Tryd.func8.symm.trans hfn)).symm
      exact ⟨by kernel_rfl, fun j t ht => by
        rw [Tryd.params8] at ht
        have hm : t ∈ [25, 2] := by simpa using Array.mem_of_getElem? ht
        have hall : ([25, 2].all fun u => !Tryd.prog.wantsStandIn u) = true := by kernel_rfl
        exact (show Tryd.prog.wantsStandIn t = false by simpa using List.all_eq_true.1 hall t hm)⟩)
    (by kernel_rfl)
end Go.Proofs.YtpkgngpmnapdoaaDoor
