/- Errors: the sentinel errDivByZero in memory, an error that a call has made, and ZZErr of it: a number that is not 0. -/
import Derived.Test.YtdhnhgcdajlpjaaDoorTa
import Derived.Test.YtdhnhgcdajlpjaaDoorFrame
import Derived.WalkSpells
import Derived.WalkLawsBesides
import Derived.Handy
import Derived.Lib.Hide
import Derived.LaidEql
import Derived.LaidLaws
import Derived.LaidMore
import Derived.MakeChecks
import Derived.Stop.ErrReads
namespace Go.Proofs.YtdhnhgcdajlpjaaDoor
open Go.ChangeShapes Go.WideShapes Go.RowKit
set_option linter.unusedVariables false
set_option linter.unusedSimpArgs false
set_option maxRecDepth 100000
attribute [local go_sem] ta4 tn4 ta63 tn63 ta64 tn64 ta21 tn21 ta2 tn2 ta5 tn5 ta65 tn65 ta66 tn66 ta22 tn22 ta3 tn3 ta41 tn41 ta42 tn42 ta23 tn23 ta9 tn9 ta67 tn67 ta91 tn91 ta92 tn92 ta93 tn93 ta87 tn87 ta81 tn81

/-- The sentinel's variable holds a pointer to a block of cells. -/
def ErrW (w : World) : Prop := ∃ (p0 : Addr) (c : Array Value) (t : TypeId), w.cell? ⟨1, 0, none⟩ = some (.iface 99 (.pointer (some p0))) ∧ w.heap[p0.block]? = some (.cells c t (0, 0)) ∧ 1 < w.heap.size
theorem ErrW.below {w w' : World} (h : ErrW w) (hb : Below w.heap.size w w') : ErrW w' := by
  obtain ⟨p0, c, t, h1, h2, h3⟩ := h
  exact ⟨p0, c, t, (hb.cell (p := ⟨1, 0, none⟩) h3).trans h1, (hb.block _ (Array.getElem?_eq_some_iff.1 h2).1).trans h2, Nat.lt_of_lt_of_le h3 hb.size⟩
/-- x is an error of errors.New's make. -/
def IsErr (w : World) (x : Value) : Prop := ∃ (b : Nat) (c : Array Value) (t : TypeId), x = .iface 99 (.pointer (some ⟨b, 0, none⟩)) ∧ w.heap[b]? = some (.cells c t (0, 0))
theorem IsErr.below {w w' : World} {x : Value} (h : IsErr w x) (hb : Below w.heap.size w w') : IsErr w' x := by
  obtain ⟨b, c, t, h1, h2⟩ := h
  exact ⟨b, c, t, h1, (hb.block _ (Array.getElem?_eq_some_iff.1 h2).1).trans h2⟩
/-- .. a new one, at the heap's end. -/
theorem IsErr.new {w : World} {c : Array Value} {t : TypeId} {b : Nat} (hb : b = w.heap.size) : IsErr (w.alloc (.cells c t)) (.iface 99 (.pointer (some ⟨b, 0, none⟩))) := by
  subst hb
  refine ⟨_, c, t, rfl, ?_⟩
  show (w.heap.push _)[w.heap.size]? = _
  simp
def ErrNo (w : World) (e : Ending) (w' : World) : Prop := ∃ n : Int, e = .returned (.int .i64 n) ∧ (n == 0) = false ∧ w' = w
theorem err_no {w w' : World} {e : Ending} {n : Int} (he : e = .returned (.int .i64 n)) (hn : (n == 0) = false) (hw : w' = w) : ErrNo w e w' := ⟨n, he, hn, hw⟩
theorem infoTE : (Tryd.prog.info? 99).map (·.comparable) = some true := by kernel_rfl
theorem infoTS : (Tryd.prog.info? 101).map (·.size) = some 1 := by kernel_rfl
set_option maxRecDepth 100000 in
theorem zzErr_any (x : Value) (w : World) (hE : ErrW w) (hx : IsErr w x) : Calls Tryd.prog 32 #[x] w (ErrNo w) := by
  obtain ⟨p0, c0, t0, hc, hp, _⟩ := hE
  obtain ⟨b, c, t, rfl, hb⟩ := hx
  obtain ⟨i1, hi1, hcomp⟩ := Option.map_eq_some_iff.1 infoTE
  obtain ⟨i2, hi2, hsz⟩ := Option.map_eq_some_iff.1 infoTS
  by_cases h : (⟨b, 0, none⟩ : Addr) = p0
  · have he := run_eql_iface_ptr_same (P := Tryd.prog) w (ti := 46) (⟨b, 0, none⟩ : Addr) Tryd.underlying46 Tryd.underlying99 hi1 hcomp hi2
    subst h
    clear hp hb
    go_enter Tryd.func32, Tryd.ntmps32
    go_wp2
    go_ret
    exact err_no rfl rfl rfl
  · have he := run_eql_iface_ptr_other (P := Tryd.prog) w (ti := 46) Tryd.underlying46 Tryd.underlying99 hi1 hcomp hi2 (by rw [hsz]; decide) h hb hp
    clear hp hb h
    go_enter Tryd.func32, Tryd.ntmps32
    go_wp2
    go_ret
    exact err_no rfl rfl rfl
end Go.Proofs.YtdhnhgcdajlpjaaDoor
