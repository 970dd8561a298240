/- Answers as plain data: told, truth, null, isTrue; texts and NULL that go in. -/
import Derived.Test.YtpkgngpmnapdoaaDoorOut
import Derived.Test.YtpkgngpmnapdoaaDoorSame
namespace Go.Proofs.YtpkgngpmnapdoaaDoor
open Go.RowKit
set_option linter.unusedVariables false
set_option linter.unusedSimpArgs false
set_option maxRecDepth 100000
attribute [local go_sem] store_flt
theorem one_cells {w wi : World} {A : Array Value} {t : TypeId} (h : Below (w.alloc (.cells A t)).heap.size (w.alloc (.cells A t)) wi) : ∀ j, wi.cell? ⟨w.heap.size, j, none⟩ = A[j]? := by
  intro j
  rw [h.cell (p := ⟨w.heap.size, j, none⟩) (by simp)]
  have e : (w.alloc (.cells A t)).heap[w.heap.size]? = some (.cells A t (0, 0)) := by
    show (w.heap.push _)[w.heap.size]? = _
    simp
  rw [cell_of_row _ _ j _ _ _ e]

def InX (y : Value) (w : World) (e : Ending) (w' : World) : Prop := e = .returned y ∧ Below w.heap.size w w'
theorem in_str (s : ByteArray) (w : World) : Calls Tryd.prog 29 #[.agg #[.string ⟨#[115, 116, 114, 105, 110, 103]⟩, .int .i64 0, .int .u64 0, .float .f64 0, .string s]] w (InX (.iface 9 (.string s)) w) :=
  (in_string s w).mono fun e w' h => by
    obtain ⟨x, rfl, hx, hb⟩ := h
    obtain rfl : x = .iface 9 (.string s) := hx
    exact ⟨rfl, hb⟩
theorem in_nil (w : World) : Calls Tryd.prog 29 #[.agg #[.string ⟨#[]⟩, .int .i64 0, .int .u64 0, .float .f64 0, .string ⟨#[]⟩]] w (InX .nilIface w) :=
  (in_null w).mono fun e w' h => by
    obtain ⟨x, rfl, hx, hb⟩ := h
    obtain rfl : x = .nilIface := hx
    exact ⟨rfl, hb⟩
theorem null_any (w : World) : Calls Tryd.prog 25 #[] w (OutPost .null w) := by
  go_enter Tryd.func25, Tryd.ntmps25
  go_wp2
  go_returns
  exact ⟨rfl, (by repeat (first | exact Below.refl _ _ | refine below_drewN ?_ _ | refine Below.drew ?_ | refine Below.alloc ?_ (by simp) _ | refine Below.setCell ?_ (by simp) _))⟩
theorem truths_any (b : Bool) (w : World) : Calls Tryd.prog 17 #[.bool b] w (OutPost (.bool b) w) := by
  cases b
  · go_enter Tryd.func17, Tryd.ntmps17
    go_wp2
    go_returns
    exact ⟨rfl, (by repeat (first | exact Below.refl _ _ | refine below_drewN ?_ _ | refine Below.drew ?_ | refine Below.alloc ?_ (by simp) _ | refine Below.setCell ?_ (by simp) _))⟩
  · go_enter Tryd.func17, Tryd.ntmps17
    go_wp2
    go_returns
    exact ⟨rfl, (by repeat (first | exact Below.refl _ _ | refine below_drewN ?_ _ | refine Below.drew ?_ | refine Below.alloc ?_ (by simp) _ | refine Below.setCell ?_ (by simp) _))⟩
theorem isTrue_any (b : Bool) (w : World) : Calls Tryd.prog 32 #[.agg #[.string (V.bool b).K, .int .i64 (V.bool b).N, .int .u64 (V.bool b).U, .float .f64 (V.bool b).F, .string (V.bool b).S]] w fun e w' => e = .returned (.bool b) ∧ Below w.heap.size w w' := by
  cases b
  · show Calls Tryd.prog 32 #[.agg #[.string ⟨#[98, 111, 111, 108]⟩, .int .i64 0, .int .u64 0, .float .f64 0, .string ⟨#[]⟩]] w _
    go_enter Tryd.func32, Tryd.ntmps32
    go_wp2
    go_ret
    exact ⟨rfl, (by repeat (first | exact Below.refl _ _ | refine below_drewN ?_ _ | refine Below.drew ?_ | refine Below.alloc ?_ (by simp) _ | refine Below.setCell ?_ (by simp) _))⟩
  · show Calls Tryd.prog 32 #[.agg #[.string ⟨#[98, 111, 111, 108]⟩, .int .i64 1, .int .u64 0, .float .f64 0, .string ⟨#[]⟩]] w _
    go_enter Tryd.func32, Tryd.ntmps32
    go_wp2
    go_ret
    exact ⟨rfl, (by repeat (first | exact Below.refl _ _ | refine below_drewN ?_ _ | refine Below.drew ?_ | refine Below.alloc ?_ (by simp) _ | refine Below.setCell ?_ (by simp) _))⟩
def ToldPost (v : V) (w : World) (e : Ending) (w' : World) : Prop := e = .returned (.tuple #[.agg #[.string v.K, .int .i64 v.N, .int .u64 v.U, .float .f64 v.F, .string v.S], .int .i64 0]) ∧ Below w.heap.size w w'
theorem told_out (v : V) (x : Value) (H : ∀ w, Calls Tryd.prog 54 #[x] w (OutPost v w)) (w : World) : Calls Tryd.prog 33 #[x, .nilIface] w (ToldPost v w) := by
  have H' := Lib.hid H
  clear H
  go_enter Tryd.func33, Tryd.ntmps33
  go_wp2_with fail
  refine (H'.out _).mono ?_
  rintro e w1 ⟨rfl, hb1⟩
  have hz := hb1.size
  simp only [World.size_alloc] at hz
  have q0 : w.heap.size < w1.heap.size := (by omega)
  obtain ⟨hc, hf⟩ := bcell hb1
  go_wp2
  exact bodyPost_ret (v := .tuple #[.agg #[.string v.K, .int .i64 v.N, .int .u64 v.U, .float .f64 v.F, .string v.S], .int .i64 0]) (by simp [results, Tryd.results33, go_sem, hc, q0]) rfl
    ⟨rfl, ((((((((Below.refl _ _).alloc (Nat.le_refl _) _).trans (hb1.mono (by simp))).setCell (by simp) _).setCell (by simp) _).setCell (by simp) _).setCell (by simp) _).setCell (by simp) _)⟩
end Go.Proofs.YtpkgngpmnapdoaaDoor
