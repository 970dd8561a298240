/- FnIntExprNumbers: the walk of the law. For every Value. -/
import Derived.Test.YtpkgngpmnapdoaaDoorInt
import Derived.Test.YtpkgngpmnapdoaaDoorSmall
import Derived.Test.YtpkgngpmnapdoaaDoorInteger
namespace Go.Proofs.YtpkgngpmnapdoaaDoor
open Go.RowKit
set_option linter.unusedVariables false
set_option linter.unusedSimpArgs false
set_option maxRecDepth 100000
attribute [local go_sem] store_flt
theorem int_sum (kd : IntKind) (m : Int) (h : (V.int kd m).ok) : (V.int kd m).N + (V.int kd m).U = m := by cases kd <;> simp [V.N, V.U]
theorem int_most (kd : IntKind) (m : Int) (h : (V.int kd m).ok) (hu : (V.int kd m).U ≤ 9223372036854775807) : m ≤ 9223372036854775807 := by
  cases kd <;> simp [V.ok, V.U] at h hu ⊢ <;> omega
theorem int_least (kd : IntKind) (m : Int) (h : (V.int kd m).ok) : -9223372036854775808 ≤ m := by
  cases kd <;> simp [V.ok] at h ⊢ <;> omega
theorem int_negs (kd : IntKind) (m : Int) (h : (V.int kd m).ok) : (V.int kd m).N < 0 ↔ m < 0 := by
  cases kd <;> simp [V.ok, V.N] at h ⊢ <;> omega
def LawPost (w : World) (e : Ending) (w' : World) : Prop := e = .returned (.bool true) ∧ Below w.heap.size w w'
theorem one_cells {w wi : World} {A : Array Value} {t : TypeId} (h : Below (w.alloc (.cells A t)).heap.size (w.alloc (.cells A t)) wi) : ∀ j, wi.cell? ⟨w.heap.size, j, none⟩ = A[j]? := by
  intro j
  rw [h.cell (p := ⟨w.heap.size, j, none⟩) (by simp)]
  have e : (w.alloc (.cells A t)).heap[w.heap.size]? = some (.cells A t (0, 0)) := by
    show (w.heap.push _)[w.heap.size]? = _
    simp
  rw [cell_of_row _ _ j _ _ _ e]
set_option maxRecDepth 100000 in
set_option maxHeartbeats 2000000 in
theorem walk_int (k : ByteArray) (n u : Int) (f : Nat) (s : ByteArray)
    (a1 : -9223372036854775808 ≤ n) (a2 : n ≤ 9223372036854775807) (a3 : 0 ≤ u) (a4 : u ≤ 18446744073709551615) (w : World) (hE : ErrW w) :
    Calls Tryd.prog 3 #[.agg #[.string k, .int .i64 n, .int .u64 u, .float .f64 f, .string s]] w (LawPost w) := by
  have A1 := Lib.hid a1
  have A2 := Lib.hid a2
  have A3 := Lib.hid a3
  have A4 := Lib.hid a4
  clear a1 a2 a3 a4
  go_enter Tryd.func3, Tryd.ntmps3
  have B0 : Below w.heap.size w (w.alloc (.cells #[.string k, .int .i64 n, .int .u64 u, .float .f64 f, .string s] 25)) := (Below.refl _ _).alloc (Nat.le_refl _) _
  have HE0 := Lib.hid (hE.below B0)
  have HB0 := Lib.hid B0
  clear hE B0
  go_wp2_with fail
  refine (fits_any _ _ _ _ _ _).mono ?_
  rintro e w1 ⟨b1, rfl, hb1⟩
  have W1 := hb1
  clear hb1
  have HE1 := Lib.hid (HE0.out.below W1)
  clear HE0
  have ca := one_cells W1
  cases b1 with
  | false =>
    have HW := Lib.hid (HB0.out.trans (W1.mono HB0.out.size))
    clear W1
    go_wp2
    go_ret
    exact ⟨rfl, HW.out⟩
  | true =>
  go_wp2_with fail
  refine (num_any 7 _).mono ?_
  rintro e w2 ⟨rfl, hb2⟩
  have W2 := W1.trans (hb2.mono W1.size)
  have HE2 := Lib.hid (HE1.out.below hb2)
  clear HE1 W1 hb2 ca
  have ca := one_cells W2
  go_wp2_with fail
  refine (IntExpr_any .i64 7 ⟨by decide, by decide⟩ (by decide) _ HE2.out).mono ?_
  rintro e w3 ⟨m, c, rfl, h0, _, hb3⟩
  obtain ⟨rfl, rfl⟩ := h0 (by decide)
  have W3 := W2.trans (hb3.mono W2.size)
  have HE3 := Lib.hid (HE2.out.below hb3)
  clear HE2 W2 hb3 ca
  have ca := one_cells W3
  go_wp2_with fail
  refine (isInteger_any _ _ _ _ _ A1.out A2.out A3.out A4.out _).mono ?_
  rintro e w4 ⟨b4, rfl, hi, hb4⟩
  have HI := Lib.hid hi
  have W4 := W3.trans (hb4.mono W3.size)
  have HE4 := Lib.hid (HE3.out.below hb4)
  clear HE3 W3 hb4 ca hi
  have ca := one_cells W4
  cases b4 with
  | false =>
    have HW := Lib.hid (HB0.out.trans (W4.mono HB0.out.size))
    clear W4
    go_wp2
    go_ret
    exact ⟨rfl, HW.out⟩
  | true =>
  obtain ⟨kd, m, hv, rfl, rfl, rfl, rfl, rfl⟩ := HI.out (by trivial)
  clear HI
  cases hs : ((V.int kd m).U / 9223372036854775808 != 0) with
  | true =>
    have HW := Lib.hid (HB0.out.trans (W4.mono HB0.out.size))
    clear W4
    go_wp2
    go_ret
    exact ⟨rfl, HW.out⟩
  | false =>
  have hu : (V.int kd m).U ≤ 9223372036854775807 := by
    have := A3.out
    simp at hs
    omega
  have hsum := int_sum kd m hv
  have hm : m ≤ 9223372036854775807 := int_most kd m hv hu
  have hwU : IntKind.i64.wrap (V.int kd m).U = (V.int kd m).U := IntWalk.i64_in _ ⟨by have := A3.out; omega, hu⟩
  have hwS : IntKind.i64.wrap ((V.int kd m).N + (V.int kd m).U) = m := by rw [hsum]; exact IntWalk.i64_in _ ⟨int_least kd m hv, hm⟩
  have hneg := int_negs kd m hv
  clear hu
  go_wp2_with fail
  refine (IntExpr_any kd m hv hm _ HE4.out).mono ?_
  rintro e w5 ⟨m5, c5, rfl, h0, h1, hb5⟩
  have W5 := W4.trans (hb5.mono W4.size)
  have HW := Lib.hid (HB0.out.trans (W5.mono HB0.out.size))
  clear HE4 W4 hb5 ca
  have ca := one_cells W5
  clear W5 HB0 A1 A2 A3 A4
  by_cases hN : (V.int kd m).N < 0
  · have hc0 : (c5 != 0) = true := by have := h1 (hneg.1 hN); simpa using this
    clear h0 h1 hneg hv hm hsum
    go_wp2
    go_ret
    exact ⟨rfl, HW.out⟩
  · obtain ⟨rfl, rfl⟩ := h0 (by omega)
    clear h1 h0 hneg hv hm hsum
    go_wp2
    go_ret
    exact ⟨rfl, HW.out⟩
end Go.Proofs.YtpkgngpmnapdoaaDoor
