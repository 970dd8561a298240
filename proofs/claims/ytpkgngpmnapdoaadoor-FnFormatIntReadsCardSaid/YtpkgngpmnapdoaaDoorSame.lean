/- laws.same of two values that have the same fields; what a region keeps of two structs' cells. -/
import Derived.Test.YtpkgngpmnapdoaaDoorSmall
namespace Go.Proofs.YtpkgngpmnapdoaaDoor
open Go.RowKit
set_option linter.unusedVariables false
set_option linter.unusedSimpArgs false
set_option maxRecDepth 100000
attribute [local go_sem] store_flt

set_option maxRecDepth 100000 in
set_option maxHeartbeats 1000000 in
theorem same_true (k : ByteArray) (n u : Int) (f f' : Nat) (s : ByteArray) (h : (((bitsB f : Nat) : Int) == ((bitsB f' : Nat) : Int)) = true) (w : World) :
    Calls Tryd.prog 16 #[.agg #[.string k, .int .i64 n, .int .u64 u, .float .f64 f, .string s], .agg #[.string k, .int .i64 n, .int .u64 u, .float .f64 f', .string s]] w fun e w' => e = .returned (.bool true) ∧ Below w.heap.size w w' := by
  go_enter Tryd.func16, Tryd.ntmps16
  go_wp2
  go_quiet ((go_at_call 35; exact Calls.quiet_of_same (bits_any _ _)))
  go_wp2
  go_ret
  exact ⟨rfl, (by repeat (first | exact Below.refl _ _ | refine below_drewN ?_ _ | refine Below.drew ?_ | refine Below.alloc ?_ (by simp) _))⟩
theorem same_any (a b : V) (hK : a.K = b.K) (hN : a.N = b.N) (hU : a.U = b.U) (hF : bitsB a.F = bitsB b.F) (hS : a.S = b.S) (w : World) :
    Calls Tryd.prog 16 #[.agg #[.string a.K, .int .i64 a.N, .int .u64 a.U, .float .f64 a.F, .string a.S], .agg #[.string b.K, .int .i64 b.N, .int .u64 b.U, .float .f64 b.F, .string b.S]] w fun e w' => e = .returned (.bool true) ∧ Below w.heap.size w w' := by
  rw [hK, hN, hU, hS]
  exact same_true b.K b.N b.U a.F b.F b.S (by rw [hF]; simp) w
/-- What a call keeps that turns nothing below. -/
theorem keep_two {h g : Nat} {c0 c1 c2 c3 c4 c5 c6 c7 c8 c9 : Option Value} {W0 W w' : World} (hb : Below W.heap.size W w')
    (hh : W.cell? ⟨h, 0, none⟩ = c0 ∧ W.cell? ⟨h, 1, none⟩ = c1 ∧ W.cell? ⟨h, 2, none⟩ = c2 ∧ W.cell? ⟨h, 3, none⟩ = c3 ∧ W.cell? ⟨h, 4, none⟩ = c4 ∧ W.cell? ⟨g, 0, none⟩ = c5 ∧ W.cell? ⟨g, 1, none⟩ = c6 ∧ W.cell? ⟨g, 2, none⟩ = c7 ∧ W.cell? ⟨g, 3, none⟩ = c8 ∧ W.cell? ⟨g, 4, none⟩ = c9 ∧ h < W.heap.size ∧ g < W.heap.size ∧ Below W0.heap.size W0 W) :
    w'.cell? ⟨h, 0, none⟩ = c0 ∧ w'.cell? ⟨h, 1, none⟩ = c1 ∧ w'.cell? ⟨h, 2, none⟩ = c2 ∧ w'.cell? ⟨h, 3, none⟩ = c3 ∧ w'.cell? ⟨h, 4, none⟩ = c4 ∧ w'.cell? ⟨g, 0, none⟩ = c5 ∧ w'.cell? ⟨g, 1, none⟩ = c6 ∧ w'.cell? ⟨g, 2, none⟩ = c7 ∧ w'.cell? ⟨g, 3, none⟩ = c8 ∧ w'.cell? ⟨g, 4, none⟩ = c9 ∧ h < w'.heap.size ∧ g < w'.heap.size ∧ Below W0.heap.size W0 w' := by
  obtain ⟨a0, a1, a2, a3, a4, a5, a6, a7, a8, a9, hs, gs, hw⟩ := hh
  have e0 : ∀ j, w'.cell? ⟨h, j, none⟩ = W.cell? ⟨h, j, none⟩ := fun j => hb.cell (p := ⟨h, j, none⟩) hs
  have e1 : ∀ j, w'.cell? ⟨g, j, none⟩ = W.cell? ⟨g, j, none⟩ := fun j => hb.cell (p := ⟨g, j, none⟩) gs
  have := hb.size
  refine ⟨(e0 0).trans a0, (e0 1).trans a1, (e0 2).trans a2, (e0 3).trans a3, (e0 4).trans a4, (e1 0).trans a5, (e1 1).trans a6, (e1 2).trans a7, (e1 3).trans a8, (e1 4).trans a9, by omega, by omega, hw.trans (hb.mono hw.size)⟩
theorem last_two {h g : Nat} {c0 c1 c2 c3 c4 c5 c6 c7 c8 c9 : Option Value} {W0 W : World} (hh : W.cell? ⟨h, 0, none⟩ = c0 ∧ W.cell? ⟨h, 1, none⟩ = c1 ∧ W.cell? ⟨h, 2, none⟩ = c2 ∧ W.cell? ⟨h, 3, none⟩ = c3 ∧ W.cell? ⟨h, 4, none⟩ = c4 ∧ W.cell? ⟨g, 0, none⟩ = c5 ∧ W.cell? ⟨g, 1, none⟩ = c6 ∧ W.cell? ⟨g, 2, none⟩ = c7 ∧ W.cell? ⟨g, 3, none⟩ = c8 ∧ W.cell? ⟨g, 4, none⟩ = c9 ∧ h < W.heap.size ∧ g < W.heap.size ∧ Below W0.heap.size W0 W) : Below W0.heap.size W0 W := by
  obtain ⟨a0, a1, a2, a3, a4, a5, a6, a7, a8, a9, hs, gs, hw⟩ := hh
  exact hw
end Go.Proofs.YtpkgngpmnapdoaaDoor
