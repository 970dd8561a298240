/- What a region keeps of one struct. -/
import Derived.Test.YtpkgngpmnapdoaaDoorTold
namespace Go.Proofs.YtpkgngpmnapdoaaDoor
open Go.RowKit
set_option linter.unusedVariables false
set_option linter.unusedSimpArgs false
set_option maxRecDepth 100000
attribute [local go_sem] store_flt
def LawPost (w : World) (e : Ending) (w' : World) : Prop := e = .returned (.bool true) ∧ Below w.heap.size w w'
theorem keep_one {h : Nat} {c0 c1 c2 c3 c4 : Option Value} {W0 W w' : World} (hb : Below W.heap.size W w') (hh : W.cell? ⟨h, 0, none⟩ = c0 ∧ W.cell? ⟨h, 1, none⟩ = c1 ∧ W.cell? ⟨h, 2, none⟩ = c2 ∧ W.cell? ⟨h, 3, none⟩ = c3 ∧ W.cell? ⟨h, 4, none⟩ = c4 ∧ h < W.heap.size ∧ Below W0.heap.size W0 W) :
    w'.cell? ⟨h, 0, none⟩ = c0 ∧ w'.cell? ⟨h, 1, none⟩ = c1 ∧ w'.cell? ⟨h, 2, none⟩ = c2 ∧ w'.cell? ⟨h, 3, none⟩ = c3 ∧ w'.cell? ⟨h, 4, none⟩ = c4 ∧ h < w'.heap.size ∧ Below W0.heap.size W0 w' := by
  obtain ⟨a0, a1, a2, a3, a4, hs, hw⟩ := hh
  have e0 : ∀ j, w'.cell? ⟨h, j, none⟩ = W.cell? ⟨h, j, none⟩ := fun j => hb.cell (p := ⟨h, j, none⟩) hs
  have := hb.size
  exact ⟨(e0 0).trans a0, (e0 1).trans a1, (e0 2).trans a2, (e0 3).trans a3, (e0 4).trans a4, by omega, hw.trans (hb.mono hw.size)⟩
theorem last_one {h : Nat} {c0 c1 c2 c3 c4 : Option Value} {W0 W : World} (hh : W.cell? ⟨h, 0, none⟩ = c0 ∧ W.cell? ⟨h, 1, none⟩ = c1 ∧ W.cell? ⟨h, 2, none⟩ = c2 ∧ W.cell? ⟨h, 3, none⟩ = c3 ∧ W.cell? ⟨h, 4, none⟩ = c4 ∧ h < W.heap.size ∧ Below W0.heap.size W0 W) : Below W0.heap.size W0 W := hh.2.2.2.2.2.2
theorem last_below {h g : Nat} {c0 c1 c2 c3 c4 c5 c6 c7 c8 c9 : Option Value} {W0 W : World} (hh : W.cell? ⟨h, 0, none⟩ = c0 ∧ W.cell? ⟨h, 1, none⟩ = c1 ∧ W.cell? ⟨h, 2, none⟩ = c2 ∧ W.cell? ⟨h, 3, none⟩ = c3 ∧ W.cell? ⟨h, 4, none⟩ = c4 ∧ W.cell? ⟨g, 0, none⟩ = c5 ∧ W.cell? ⟨g, 1, none⟩ = c6 ∧ W.cell? ⟨g, 2, none⟩ = c7 ∧ W.cell? ⟨g, 3, none⟩ = c8 ∧ W.cell? ⟨g, 4, none⟩ = c9 ∧ h < W.heap.size ∧ g < W.heap.size ∧ Below W0.heap.size W0 W) : Below W0.heap.size W0 W := hh.2.2.2.2.2.2.2.2.2.2.2.2
end Go.Proofs.YtpkgngpmnapdoaaDoor
