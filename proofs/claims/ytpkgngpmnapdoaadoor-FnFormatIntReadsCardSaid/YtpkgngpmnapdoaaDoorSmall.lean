/- The contracts of num, str, zzFits1. -/
import Derived.Test.YtpkgngpmnapdoaaDoorIn
namespace Go.Proofs.YtpkgngpmnapdoaaDoor
open Go.RowKit
set_option linter.unusedVariables false
set_option linter.unusedSimpArgs false
set_option maxRecDepth 100000
attribute [local go_sem] store_flt
theorem num_any (n : Int) (w : World) : Calls Tryd.prog 11 #[.int .i64 n] w fun e w' => e = .returned (.agg #[.string ⟨#[105, 110, 116, 54, 52]⟩, .int .i64 n, .int .u64 0, .float .f64 0, .string ⟨#[]⟩]) ∧ Below w.heap.size w w' := by
  go_enter Tryd.func11, Tryd.ntmps11
  go_wp2
  go_returns
  exact ⟨rfl, (by repeat (first | exact Below.refl _ _ | refine below_drewN ?_ _ | refine Below.drew ?_ | refine Below.alloc ?_ (by simp) _ | refine Below.setCell ?_ (by simp) _))⟩
theorem str_any (s : ByteArray) (w : World) : Calls Tryd.prog 15 #[.string s] w fun e w' => e = .returned (.agg #[.string ⟨#[115, 116, 114, 105, 110, 103]⟩, .int .i64 0, .int .u64 0, .float .f64 0, .string s]) ∧ Below w.heap.size w w' := by
  go_enter Tryd.func15, Tryd.ntmps15
  go_wp2
  go_returns
  exact ⟨rfl, (by repeat (first | exact Below.refl _ _ | refine below_drewN ?_ _ | refine Below.drew ?_ | refine Below.alloc ?_ (by simp) _ | refine Below.setCell ?_ (by simp) _))⟩
def SomeBool (w : World) (e : Ending) (w' : World) : Prop := ∃ b : Bool, e = .returned (.bool b) ∧ Below w.heap.size w w'
theorem fits_any (k : ByteArray) (n u : Int) (f : Nat) (s : ByteArray) (w : World) : Calls Tryd.prog 9 #[.agg #[.string k, .int .i64 n, .int .u64 u, .float .f64 f, .string s]] w (SomeBool w) := by
  go_enter Tryd.func9, Tryd.ntmps9
  go_wp2
  all_goals go_ret
  all_goals exact ⟨_, rfl, (by repeat (first | exact Below.refl _ _ | refine below_drewN ?_ _ | refine Below.drew ?_ | refine Below.alloc ?_ (by simp) _ | refine Below.setCell ?_ (by simp) _))⟩
end Go.Proofs.YtpkgngpmnapdoaaDoor
