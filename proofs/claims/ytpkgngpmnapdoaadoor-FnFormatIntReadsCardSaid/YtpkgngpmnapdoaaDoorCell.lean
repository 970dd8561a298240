/- contains, hasPrefix and hasSuffix of texts and of NULL; spells. -/
import Derived.Deep.RegionWith
import Derived.Test.YtpkgngpmnapdoaaDoorSearch
import Derived.Test.YtpkgngpmnapdoaaDoorTa
import Derived.Test.YtpkgngpmnapdoaaDoorTold
namespace Go.Proofs.YtpkgngpmnapdoaaDoor
open Go.RowKit
set_option linter.unusedVariables false
set_option linter.unusedSimpArgs false
set_option maxRecDepth 100000
attribute [local go_sem] store_flt
attribute [local go_sem] ta4 tn4 ta74 tn74 ta75 tn75 ta21 tn21 ta2 tn2 ta5 tn5 ta76 tn76 ta77 tn77 ta22 tn22 ta3 tn3 ta30 tn30 ta68 tn68 ta23 tn23 ta9 tn9 ta78 tn78 ta88 tn88 ta90 tn90 ta91 tn91 ta93 tn93 ta82 tn82

theorem new_cell (w : World) (A : Array Value) (t : TypeId) (j : Nat) : (w.alloc (.cells A t)).cell? ⟨w.heap.size, j, none⟩ = A[j]? := by
  rw [cell_of_row _ _ j _ _ _ (show (w.alloc (.cells A t)).heap[w.heap.size]? = some (.cells A t (0, 0)) from by show (w.heap.push _)[w.heap.size]? = _; simp)]
theorem out_bool (b : Bool) (w : World) : Calls Tryd.prog 54 #[.iface 4 (.bool b)] w (OutPost (.bool b) w) := by
  cases b
  · exact out_false w
  · exact out_true w
theorem told_bool (b : Bool) (w : World) : Calls Tryd.prog 33 #[.iface 4 (.bool b), .nilIface] w (ToldPost (.bool b) w) := told_out _ _ (out_bool b) w
theorem told_null (w : World) : Calls Tryd.prog 33 #[.nilIface, .nilIface] w (ToldPost .null w) := told_out _ _ out_null w
end Go.Proofs.YtpkgngpmnapdoaaDoor
