/- Conversions of floats whose outcome the tape may say; math.Floor; an integer as a float32; a rune as a text. -/
import Derived.Laws.FloatArith
import Derived.Laws.Closers25b
import Derived.Test.YtdhnhgcdajlpjaaDoorIn
namespace Go.Proofs.YtdhnhgcdajlpjaaDoor
open Go.RowKit
set_option linter.unusedVariables false
set_option linter.unusedSimpArgs false
set_option maxRecDepth 100000
def cutN (d : Nat) (k : IntKind) (w : World) : Int := match floatToIntVal .f64 d k with
  | some n => n
  | none => k.wrap (Question.cut (.floatToInt .f64 d k) (w.tape w.drawn (.floatToInt .f64 d k)))
def cutW (d : Nat) (k : IntKind) (w : World) : World := match floatToIntVal .f64 d k with
  | some _ => w
  | none => w.drew
theorem cutW_or (d : Nat) (k : IntKind) (w : World) : cutW d k w = w ∨ cutW d k w = w.drew := by
  unfold cutW
  split
  · exact .inl rfl
  · exact .inr rfl
theorem cutN_in (d : Nat) (k : IntKind) (w : World) : k.min ≤ cutN d k w ∧ cutN d k w ≤ k.max := by
  unfold cutN
  split
  · rename_i n h
    have := floatToIntVal_wf h
    simpa [Lit.wf] using this
  · exact wrap_within k _
theorem run_cut (src dst : TypeId) (k : IntKind) (d : Nat) (hs : (Tryd.prog.underlying src).isSome = true) (hd : Tryd.prog.underlying dst = some (.int k)) (w : World) :
    (convert src dst (.float .f64 d)).run Tryd.prog w = .ok (.int k (cutN d k w)) (cutW d k w) := by
  cases h : floatToIntVal .f64 d k with
  | some n =>
    rw [run_convert_float_int w src dst .f64 k d n hs hd h]
    unfold cutN cutW
    rw [h]
  | none =>
    obtain ⟨u, hs'⟩ := Option.isSome_iff_exists.1 hs
    have hf : Question.forced (.floatToInt .f64 d k) = false := rfl
    unfold cutN cutW
    rw [h]
    unfold floatToIntVal at h
    split at h
    · rename_i m he
      split at h
      · cases h
      · rename_i hb
        cases u <;> simp [convert, run_underlying hs', run_underlying hd, Conv.floatToInt, he, hb, choose, Sem.run, hf] <;> rfl
    · rename_i he
      cases u <;> simp [convert, run_underlying hs', run_underlying hd, Conv.floatToInt, he, choose, Sem.run, hf] <;> rfl
theorem or_cell {w w' : World} (h : w' = w ∨ w' = w.drew) (a : Addr) : w'.cell? a = w.cell? a := by rcases h with h | h <;> rw [h] <;> rfl
theorem or_frozen {w w' : World} (h : w' = w ∨ w' = w.drew) (a : Addr) : w'.frozen? a = w.frozen? a := by rcases h with h | h <;> rw [h] <;> rfl
theorem or_below {B : Nat} {a w w' : World} (h : w' = w ∨ w' = w.drew) (hb : Below B a w) : Below B a w' := by
  rcases h with e | e <;> rw [e]
  · exact hb
  · exact hb.drew
theorem cutW_cell (d : Nat) (k : IntKind) (w : World) (a : Addr) : (cutW d k w).cell? a = w.cell? a := or_cell (cutW_or d k w) a
theorem cutW_frozen (d : Nat) (k : IntKind) (w : World) (a : Addr) : (cutW d k w).frozen? a = w.frozen? a := or_frozen (cutW_or d k w) a
theorem cutW_below {B : Nat} {a w : World} (d : Nat) (k : IntKind) (h : Below B a w) : Below B a (cutW d k w) := or_below (cutW_or d k w) h
/-- A float64 as a float32. -/
def oneN (d : Nat) (w : World) : Nat := match floatToFloatBits .f64 d .f32 with
  | some r => r
  | none => if nanK .f64 d then nanOf .f32 d w else overOf d w
def oneW (d : Nat) (w : World) : World := match floatToFloatBits .f64 d .f32 with
  | some _ => w
  | none => w.drew
theorem oneW_or (d : Nat) (w : World) : oneW d w = w ∨ oneW d w = w.drew := by
  unfold oneW
  split
  · exact .inl rfl
  · exact .inr rfl
theorem lt32 {k : FloatKind} (hk : k = .f32) {r : Nat} (h : (Lit.float k r).wf = true) : r < 2 ^ 32 := by
  subst hk
  simpa [Lit.wf] using h
theorem ffb_lt {d r : Nat} (h : floatToFloatBits .f64 d .f32 = some r) : r < 2 ^ 32 := by
  unfold floatToFloatBits at h
  rw [if_neg (by decide)] at h
  split at h
  · cases h
  · cases h
    exact lt32 rfl (encode_wf .f32 _)
  · split at h
    · cases h
    · cases h
      exact lt32 rfl (encode_wf .f32 _)
theorem oneN_lt (d : Nat) (w : World) : oneN d w < 2 ^ 32 := by
  unfold oneN
  split
  · rename_i r h
    exact ffb_lt h
  · split
    · exact (nanOf_nan .f32 _ _).2
    · exact overOf_lt _ _
theorem run_one (src dst : TypeId) (d : Nat) (hs : (Tryd.prog.underlying src).isSome = true) (hd : Tryd.prog.underlying dst = some (.float .f32)) (w : World) :
    (convert src dst (.float .f64 d)).run Tryd.prog w = .ok (.float .f32 (oneN d w)) (oneW d w) := by
  cases h : floatToFloatBits .f64 d .f32 with
  | some r =>
    rw [run_convert_float_float w src dst .f64 .f32 d r hs hd h]
    unfold oneN oneW
    rw [h]
  | none =>
    unfold oneN oneW
    rw [h]
    cases hn : nanK .f64 d with
    | true => rw [run_conv_nan src dst .f64 .f32 d hs hd (by decide) hn]; rfl
    | false => rw [run_conv_over src dst .f64 .f32 d hs hd (by decide) hn h]; rfl
theorem oneW_cell (d : Nat) (w : World) (a : Addr) : (oneW d w).cell? a = w.cell? a := or_cell (oneW_or d w) a
theorem oneW_frozen (d : Nat) (w : World) (a : Addr) : (oneW d w).frozen? a = w.frozen? a := or_frozen (oneW_or d w) a
theorem oneW_below {B : Nat} {a w : World} (d : Nat) (h : Below B a w) : Below B a (oneW d w) := or_below (oneW_or d w) h
/-- Every float32 word is the inside of some value. -/
theorem f32_some (r : Nat) (h : r < 2 ^ 32) : ∃ d, F32ok d ∧ Fl32 d r := by
  cases hn : nanK .f32 r with
  | true =>
    have h1 : nan64 9221120237041090561 = true := by decide +kernel
    exact ⟨9221120237041090561, .inl h1, .inl ⟨h1, hn, h⟩⟩
  | false =>
    obtain ⟨d, h1, h2, h3⟩ := f32_wide h hn
    exact ⟨d, .inr ⟨r, h3, h1⟩, .inr ⟨h2, h3, h1⟩⟩
theorem single_lt (n : Int) : floatOfInt .f32 n < 2 ^ 32 := by
  unfold floatOfInt FloatKind.nearest
  exact lt32 rfl (encode_wf .f32 _)
theorem utf8_small (n : Int) : (Utf8.encode n).size ≤ 65536 := by
  unfold Utf8.encode
  dsimp only
  repeat' split
  all_goals exact Nat.le_of_ble_eq_true rfl
/-- math.Floor. -/
def flrN (x : Nat) (w : World) : Nat := match FloatKind.f64.decode x with
  | .nan s t => if FloatKind.f64.format.quiet t = t then x else if (Question.cut (.extern "math.Floor,Ceil,Trunc,RoundToEven.signallingNaN kept" 2) (w.tape w.drawn (.extern "math.Floor,Ceil,Trunc,RoundToEven.signallingNaN kept" 2)) == 1) = true then x else FloatKind.f64.encode (.nan s (FloatKind.f64.format.quiet t))
  | d => FloatKind.f64.encode (d.integral .down)
def flrW (x : Nat) (w : World) : World := match FloatKind.f64.decode x with
  | .nan s t => if FloatKind.f64.format.quiet t = t then w else w.drew
  | d => w
theorem flrW_or (x : Nat) (w : World) : flrW x w = w ∨ flrW x w = w.drew := by
  unfold flrW
  split
  · split
    · exact .inl rfl
    · exact .inr rfl
  · exact .inl rfl
theorem run_floor0 (x : Nat) (w : World) : (Extern.MathFloor.toIntegral "math.archFloor" .down #[.float .f64 x]).run Tryd.prog w = .ok (.float .f64 (flrN x w)) (flrW x w) := by
  have hf : Question.forced (.extern "math.Floor,Ceil,Trunc,RoundToEven.signallingNaN kept" 2) = false := rfl
  show (match FloatKind.f64.decode x with
    | .nan s t => (if FloatKind.f64.format.quiet t = t then pure (.float .f64 x) else do
      let kept ← choose (.extern "math.Floor,Ceil,Trunc,RoundToEven.signallingNaN kept" 2)
      pure (.float .f64 (if kept == 1 then x else FloatKind.f64.encode (.nan s (FloatKind.f64.format.quiet t)))))
    | d => pure (.float .f64 (FloatKind.f64.encode (d.integral .down))) : Sem Value).run Tryd.prog w = _
  unfold flrN flrW
  cases e : FloatKind.f64.decode x with
  | nan s t =>
    by_cases hq : FloatKind.f64.format.quiet t = t
    · simp [hq, Sem.run]
    · simp [hq, choose, Sem.run, hf]
      try rfl
  | infinity s => rfl
  | number s m e => rfl
theorem run_floor (x : Nat) (w : World) : (callFunc 65 #[.float .f64 x]).run Tryd.prog w = .ok (.value (.float .f64 (flrN x w))) (flrW x w) := by
  rw [run_callFunc_extern (P := Tryd.prog) (f := 65) (fn := Tryd.f65) (e := Extern.MathFloor.toIntegral "math.archFloor" .down) rfl (by kernel_rfl) rfl (by kernel_rfl) (by kernel_rfl)]
  rw [run_floor0]
  rfl
theorem flrW_below {B : Nat} {a w : World} (d : Nat) (h : Below B a w) : Below B a (flrW d w) := or_below (flrW_or d w) h
theorem flrW_cell (d : Nat) (w : World) (a : Addr) : (flrW d w).cell? a = w.cell? a := or_cell (flrW_or d w) a
theorem flrW_frozen (d : Nat) (w : World) (a : Addr) : (flrW d w).frozen? a = w.frozen? a := or_frozen (flrW_or d w) a
theorem floor_any (x : Nat) (w : World) : Calls Tryd.prog 56 #[.float .f64 x] w fun e w' => e = .returned (.float .f64 (flrN x w)) ∧ w' = flrW x w := by
  have hb := run_floor
  go_enter Tryd.func56, Tryd.ntmps56
  go_wp2
  go_ret
  exact ⟨rfl, rfl⟩
end Go.Proofs.YtdhnhgcdajlpjaaDoor
