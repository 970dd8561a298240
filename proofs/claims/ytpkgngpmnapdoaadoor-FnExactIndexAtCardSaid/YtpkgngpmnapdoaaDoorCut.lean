/- A float that becomes an integer: its number where the type has it, else what the tape says. Kinds of places. -/
import Derived.Laws.FloatArith
import Derived.Test.YtpkgngpmnapdoaaDoorAt
namespace Go.Proofs.YtpkgngpmnapdoaaDoor
open Go.RowKit
set_option linter.unusedVariables false
set_option linter.unusedSimpArgs false
set_option maxRecDepth 100000
attribute [local go_sem] store_flt
def cutN (d : Nat) (k : IntKind) (w : World) : Int := match floatToIntVal .f64 d k with
  | some n => n
  | none => k.wrap (Question.cut (.floatToInt .f64 d k) (w.tape w.drawn (.floatToInt .f64 d k)))
def cutW (d : Nat) (k : IntKind) (w : World) : World := match floatToIntVal .f64 d k with
  | some _ => w
  | none => w.drew
theorem cutW_or (d : Nat) (k : IntKind) (w : World) : cutW d k w = w ∨ cutW d k w = w.drew := by
  unfold cutW
  split
  · exact .inl rfl
  · exact .inr rfl
theorem run_cut (src dst : TypeId) (k : IntKind) (d : Nat) (hs : (Tryd.prog.underlying src).isSome = true) (hd : Tryd.prog.underlying dst = some (.int k)) (w : World) :
    (convert src dst (.float .f64 d)).run Tryd.prog w = .ok (.int k (cutN d k w)) (cutW d k w) := by
  cases h : floatToIntVal .f64 d k with
  | some n =>
    rw [run_convert_float_int w src dst .f64 k d n hs hd h]
    unfold cutN cutW
    rw [h]
  | none =>
    obtain ⟨u, hs'⟩ := Option.isSome_iff_exists.1 hs
    have hf : Question.forced (.floatToInt .f64 d k) = false := rfl
    unfold cutN cutW
    rw [h]
    unfold floatToIntVal at h
    split at h
    · rename_i m he
      split at h
      · cases h
      · rename_i hb
        cases u <;> simp [convert, run_underlying hs', run_underlying hd, Conv.floatToInt, he, hb, choose, Sem.run, hf] <;> rfl
    · rename_i he
      cases u <;> simp [convert, run_underlying hs', run_underlying hd, Conv.floatToInt, he, choose, Sem.run, hf] <;> rfl
theorem cutW_cell (d : Nat) (k : IntKind) (w : World) (a : Addr) : (cutW d k w).cell? a = w.cell? a := by
  rcases cutW_or d k w with h | h <;> rw [h] <;> rfl
theorem cutW_frozen (d : Nat) (k : IntKind) (w : World) (a : Addr) : (cutW d k w).frozen? a = w.frozen? a := by
  rcases cutW_or d k w with h | h <;> rw [h] <;> rfl
theorem cutW_below {B : Nat} {a w : World} (d : Nat) (k : IntKind) (h : Below B a w) : Below B a (cutW d k w) := by
  rcases cutW_or d k w with e | e <;> rw [e]
  · exact h
  · exact h.drew
/-- Is it said what the place is? -/
def V.said : V → Bool
  | .null | .iFlt _ => false
  | _ => true
def V.fits (v : V) (text : Bool) (s : ByteArray) : Bool := v.whole && decide (0 ≤ v.num) && (!text || decide (v.num < (s.size : Int)))
theorem AtPost.unsaid {a g g' : Bool} {n n' : Int} {w w' : World} {e : Ending} (h : AtPost a g n w e w') : AtPost false g' n' w e w' := by
  obtain ⟨m, x, he, hx, hb⟩ := h
  exact ⟨m, x, he, hx.elim (fun h => .inl ⟨h.1, fun h => nomatch h⟩) (fun h => .inr ⟨h.1, fun h => nomatch h⟩), hb⟩
end Go.Proofs.YtpkgngpmnapdoaaDoor
