/- impl.out for every value that is inside. -/
import Derived.Test.YtdhnhgcdajlpjaaDoorOut
import Derived.Test.YtdhnhgcdajlpjaaDoorSmall
namespace Go.Proofs.YtdhnhgcdajlpjaaDoor
open Go.RowKit
set_option linter.unusedVariables false
set_option linter.unusedSimpArgs false
set_option maxRecDepth 100000
attribute [local go_sem] store_flt
attribute [local go_sem] ta4 tn4 ta63 tn63 ta64 tn64 ta21 tn21 ta2 tn2 ta5 tn5 ta65 tn65 ta66 tn66 ta22 tn22 ta3 tn3 ta41 tn41 ta42 tn42 ta23 tn23 ta9 tn9 ta67 tn67 ta91 tn91 ta92 tn92 ta93 tn93 ta87 tn87 ta81 tn81

/-- The same value, but that a float that is no number may be another such. -/
structure V.Like (v v' : V) : Prop where
  ok : v'.ok
  K : v'.K = v.K
  N : v'.N = v.N
  U : v'.U = v.U
  F : bitsB v'.F = bitsB v.F
  S : v'.S = v.S
theorem V.Like.refl {v : V} (h : v.ok) : v.Like v := ⟨h, rfl, rfl, rfl, rfl, rfl⟩
theorem V.Like.trans {a b c : V} (h : a.Like b) (k : b.Like c) : a.Like c := ⟨k.ok, k.K.trans h.K, k.N.trans h.N, k.U.trans h.U, k.F.trans h.F, k.S.trans h.S⟩
/-- The plain data of a value like v. -/
def OutAny (v : V) (w : World) (e : Ending) (w' : World) : Prop := ∃ v' : V, v.Like v' ∧ e = .returned (.agg #[.string v'.K, .int .i64 v'.N, .int .u64 v'.U, .float .f64 v'.F, .string v'.S]) ∧ Below w.heap.size w w'
theorem out_same {v : V} (hv : v.ok) {w : World} {e : Ending} {w' : World} (h : OutPost v w e w') : OutAny v w e w' := ⟨v, .refl hv, h.1, h.2⟩
theorem bitsNan {f : Nat} (h : nanK .f64 f = true) : bitsB f = 1 := by unfold bitsB; rw [nan64_eq, h]; rfl
theorem out_any (v : V) (hv : v.ok) (x : Value) (w : World) (h : v.box w x) : Calls Tryd.prog 33 #[x] w (OutAny v w) := by
  rcases v with _ | b | ⟨k, n⟩ | ⟨k, d⟩ | s | s | n | n | n | d
  · subst h; exact (out_null w).mono fun _ _ h => out_same hv h
  · subst h
    cases b
    · exact (out_false w).mono fun _ _ h => out_same hv h
    · exact (out_true w).mono fun _ _ h => out_same hv h
  · cases k
    · subst h; exact (out_int8 n hv.1 hv.2 w).mono fun _ _ h => out_same hv h
    · subst h; exact (out_int16 n hv.1 hv.2 w).mono fun _ _ h => out_same hv h
    · subst h; exact (out_int32 n hv.1 hv.2 w).mono fun _ _ h => out_same hv h
    · subst h; exact (out_int64 n hv.1 hv.2 w).mono fun _ _ h => out_same hv h
    · subst h; exact (out_uint8 n hv.1 hv.2 w).mono fun _ _ h => out_same hv h
    · subst h; exact (out_uint16 n hv.1 hv.2 w).mono fun _ _ h => out_same hv h
    · subst h; exact (out_uint32 n hv.1 hv.2 w).mono fun _ _ h => out_same hv h
    · subst h; exact (out_uint64 n hv.1 hv.2 w).mono fun _ _ h => out_same hv h
  · cases k
    · obtain ⟨r, rfl, ⟨h1, h2, h3⟩ | ⟨h1, h2, h3⟩⟩ := h
      · exact (out_float32_nan d r h2 w).mono fun _ _ h => ⟨.flt .f32 (nanOf .f64 r (w.alloc (.cells #[.string ⟨#[]⟩, .int .i64 0, .int .u64 0, .float .f64 0, .string ⟨#[]⟩] 25))), ⟨Or.inl (nanOf_nan .f64 _ _).1, rfl, rfl, rfl, (bitsNan (nanOf_nan .f64 _ _).1).trans (bitsNan h1).symm, rfl⟩, h.1, h.2⟩
      · exact (out_float32_num d r h3 w).mono fun _ _ h => out_same hv h
    · subst h; exact (out_float64 d w).mono fun _ _ h => out_same hv h
  · subst h; exact (out_string s w).mono fun _ _ h => out_same hv h
  · obtain ⟨b, c, rfl, h1, h2⟩ := h; exact (out_blob s b c w h1 h2).mono fun _ _ h => out_same hv h
  · subst h; exact (out_idealInt n w).mono fun _ _ h => out_same hv h
  · subst h; exact (out_idealRune n hv.1 hv.2 w).mono fun _ _ h => out_same hv h
  · subst h; exact (out_idealUint n w).mono fun _ _ h => out_same hv h
  · subst h; exact (out_idealFloat d w).mono fun _ _ h => out_same hv h
end Go.Proofs.YtdhnhgcdajlpjaaDoor
