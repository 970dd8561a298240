/- What the laid condition gives the walks: the sentinel's cell and block. -/
import Derived.Test.YtdhnhgcdajlpjaaDoorErr
namespace Go.Proofs.YtdhnhgcdajlpjaaDoor
open Go.ChangeShapes Go.WideShapes Go.RowKit
set_option linter.unusedVariables false
set_option linter.unusedSimpArgs false
set_option maxRecDepth 100000
def laid1 : List (String × DataW Unit) := [("pub-quern/pub/ql.errDivByZero", Rows.laid_pub_quern_pub_ql_errDivByZero)]
theorem gErr : Tryd.prog.globalNamed "pub-quern/pub/ql.errDivByZero" = some 1 := by kernel_rfl
theorem tErr : (Tryd.prog.globals[1]?).map (·.type) = some 46 := by kernel_rfl
theorem starErr : "*" ++ "errors.errorString" = "*errors.errorString" := by decide
theorem cellsTS : Tryd.prog.cellsOf 101 = 1 := by kernel_rfl
theorem cellsST : Tryd.prog.cellsOf 9 = 1 := by kernel_rfl
theorem rowErr (u : TypeId) (h : Tryd.prog.typeName? 3 u = some "*errors.errorString") : u = 99 :=
  typeName_ptr_named (nm := "errors.errorString") (by rw [starErr]; kernel_rfl) (by kernel_rfl) (by decide) u (by rw [starErr]; exact h)
theorem errW_of_laid {W : World} (h : laidMetH Tryd.prog laid1 W) : ErrW W := by
  rw [MakeChecks.laidMetH_plain _ _ _ (by kernel_rfl)] at h
  obtain ⟨ps, ⟨g0, t0, cs0, f0, p0, q0, hg0, ht0, hv0, hd0, hq0, e0⟩, hnd, hrows⟩ := h
  obtain rfl := Option.some.inj (gErr.symm.trans hg0)
  obtain rfl := Option.some.inj (tErr.symm.trans ht0)
  have hq0' : q0 = [] := hq0
  subst hq0'
  subst e0
  obtain ⟨l0⟩ := cs0
  have ok0 : ∀ u v, l0 = [.iface u v] → Value.okWide Tryd.prog W .any 0 u v := fun u v e => by
    subst e
    exact (hrows 1 0 (by simp [MemPlace.row])).2 u v (by simpa using World.var?_cell hg0 hv0 0)
  obtain ⟨a0, s0, rfl, hc0, hs0, hz0, rfl⟩ := errorString_of_trod Tryd.underlying46 rowErr Tryd.underlying99 Tryd.underlying101 rfl rfl Tryd.underlying9 cellsTS cellsST hd0 ok0
  obtain ⟨c0, t0, hb0⟩ := (hrows a0.block a0.off (by simp [MemPlace.row])).1
  have hc : W.cell? ⟨1, 0, none⟩ = some (.iface 99 (.pointer (some a0))) := by simpa using World.var?_cell hg0 hv0 0
  exact ⟨a0, c0, t0, hc, hb0, World.block_lt_of_cell? _ _ hc⟩
set_option maxRecDepth 100000 in
/-- The door's own heap meets the condition. -/
theorem door_met (os : Os) (args : Array Value) : laidMetH Tryd.prog laid1 ((World.doorLaid Tryd.prog 400 os).forCall (fun _ _ => 0) ⟨#[], args, []⟩).memory :=
  laidMetH_of_parts3 (fuel := 8) (laidMet_of_run' 8 (by kernel_rfl) (by kernel_rfl)) (by kernel_rfl) (by kernel_rfl)
end Go.Proofs.YtdhnhgcdajlpjaaDoor
