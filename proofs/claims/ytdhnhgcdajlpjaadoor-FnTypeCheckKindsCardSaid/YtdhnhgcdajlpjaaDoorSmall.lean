/- The contracts of num, str, zzFits1. -/
import Derived.Test.YtdhnhgcdajlpjaaDoorIn
namespace Go.Proofs.YtdhnhgcdajlpjaaDoor
open Go.RowKit
set_option linter.unusedVariables false
set_option linter.unusedSimpArgs false
set_option maxRecDepth 100000
attribute [local go_sem] store_flt
def SomeBool (w : World) (e : Ending) (w' : World) : Prop := ∃ b : Bool, e = .returned (.bool b) ∧ Below w.heap.size w w'
theorem fits_any (k : ByteArray) (n u : Int) (f : Nat) (s : ByteArray) (w : World) : Calls Tryd.prog 5 #[.agg #[.string k, .int .i64 n, .int .u64 u, .float .f64 f, .string s]] w (SomeBool w) := by
  go_enter Tryd.func5, Tryd.ntmps5
  go_wp2
  all_goals go_ret
  all_goals exact ⟨_, rfl, (by repeat (first | exact Below.refl _ _ | refine below_drewN ?_ _ | refine Below.drew ?_ | refine Below.alloc ?_ (by simp) _ | refine Below.setCell ?_ (by simp) _))⟩
end Go.Proofs.YtdhnhgcdajlpjaaDoor
