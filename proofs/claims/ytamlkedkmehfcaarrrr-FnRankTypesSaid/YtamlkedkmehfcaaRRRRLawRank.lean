/- FnRankTypes: a rank is that of a type, whatever the value: the walk of the law. For every two Values. -/
import Derived.Test.YtamlkedkmehfcaaRRRRConc
import Derived.Test.YtamlkedkmehfcaaRRRRRank
import Derived.Deep.RegionHeld3
namespace Go.Proofs.YtamlkedkmehfcaaRRRR
open Go.RowKit
set_option linter.unusedVariables false
set_option linter.unusedSimpArgs false
attribute [local go_sem] store_flt

def LawPost (w : World) (e : Ending) (w' : World) : Prop := e = .returned (.bool true) ∧ Below w.heap.size w w'
theorem eq_toList {a b : ByteArray} (h : a.toList = b.toList) : a = b := by
  rw [ByteArray.toList_eq, ByteArray.toList_eq] at h
  cases a with
  | mk x => cases b with
    | mk y => cases x with
      | mk x => cases y with
        | mk y => simp at h; rw [h]
theorem rank_bool_kind (a b : V) : ((a.rank == b.rank) == (a.K.toList == b.K.toList)) = true := by
  by_cases h : a.K = b.K
  · simp [(rank_kind a b).2 h, h]
  · have h1 : ¬ a.rank = b.rank := fun e => h ((rank_kind a b).1 e)
    have h2 : ¬ a.K.toList = b.K.toList := fun e => h (eq_toList e)
    rw [beq_eq_false_iff_ne.2 h1, beq_eq_false_iff_ne.2 h2]
    rfl
/-- The two parameters' own cells, as long as nothing below turns. -/
theorem two_cells {w wi : World} {A B : Array Value} {t : TypeId} (h : Below ((w.alloc (.cells A t)).alloc (.cells B t)).heap.size ((w.alloc (.cells A t)).alloc (.cells B t)) wi) :
    (∀ j, wi.cell? ⟨w.heap.size, j, none⟩ = A[j]?) ∧ (∀ j, wi.cell? ⟨w.heap.size + 1, j, none⟩ = B[j]?) := by
  constructor
  · intro j
    rw [h.cell (p := ⟨w.heap.size, j, none⟩) (by simp; omega)]
    have e : ((w.alloc (.cells A t)).alloc (.cells B t)).heap[w.heap.size]? = some (.cells A t (0, 0)) := by
      rw [Below.heap_alloc _ _ _ (by simp)]
      show (w.heap.push _)[w.heap.size]? = _
      simp
    rw [cell_of_row _ _ j _ _ _ e]
  · intro j
    rw [h.cell (p := ⟨w.heap.size + 1, j, none⟩) (by simp)]
    have e : ((w.alloc (.cells A t)).alloc (.cells B t)).heap[w.heap.size + 1]? = some (.cells B t (0, 0)) := by
      show ((w.heap.push _).push _)[w.heap.size + 1]? = _
      rw [Array.getElem?_push]
      simp
    rw [cell_of_row _ _ j _ _ _ e]
/-- What a call keeps that turns nothing below. -/
theorem keep_two {h : Nat} {c0 c1 c2 c3 c4 c5 c6 c7 c8 c9 : Option Value} {W0 W w' : World} (hb : Below W.heap.size W w')
    (hh : W.cell? ⟨h, 0, none⟩ = c0 ∧ W.cell? ⟨h, 1, none⟩ = c1 ∧ W.cell? ⟨h, 2, none⟩ = c2 ∧ W.cell? ⟨h, 3, none⟩ = c3 ∧ W.cell? ⟨h, 4, none⟩ = c4 ∧ W.cell? ⟨h + 1, 0, none⟩ = c5 ∧ W.cell? ⟨h + 1, 1, none⟩ = c6 ∧ W.cell? ⟨h + 1, 2, none⟩ = c7 ∧ W.cell? ⟨h + 1, 3, none⟩ = c8 ∧ W.cell? ⟨h + 1, 4, none⟩ = c9 ∧ h + 1 < W.heap.size ∧ Below W0.heap.size W0 W) :
    w'.cell? ⟨h, 0, none⟩ = c0 ∧ w'.cell? ⟨h, 1, none⟩ = c1 ∧ w'.cell? ⟨h, 2, none⟩ = c2 ∧ w'.cell? ⟨h, 3, none⟩ = c3 ∧ w'.cell? ⟨h, 4, none⟩ = c4 ∧ w'.cell? ⟨h + 1, 0, none⟩ = c5 ∧ w'.cell? ⟨h + 1, 1, none⟩ = c6 ∧ w'.cell? ⟨h + 1, 2, none⟩ = c7 ∧ w'.cell? ⟨h + 1, 3, none⟩ = c8 ∧ w'.cell? ⟨h + 1, 4, none⟩ = c9 ∧ h + 1 < w'.heap.size ∧ Below W0.heap.size W0 w' := by
  obtain ⟨a0, a1, a2, a3, a4, a5, a6, a7, a8, a9, hs, hw⟩ := hh
  have e0 : ∀ j, w'.cell? ⟨h, j, none⟩ = W.cell? ⟨h, j, none⟩ := fun j => hb.cell (p := ⟨h, j, none⟩) (by show h < _; omega)
  have e1 : ∀ j, w'.cell? ⟨h + 1, j, none⟩ = W.cell? ⟨h + 1, j, none⟩ := fun j => hb.cell (p := ⟨h + 1, j, none⟩) hs
  have := hb.size
  refine ⟨(e0 0).trans a0, (e0 1).trans a1, (e0 2).trans a2, (e0 3).trans a3, (e0 4).trans a4, (e1 0).trans a5, (e1 1).trans a6, (e1 2).trans a7, (e1 3).trans a8, (e1 4).trans a9, by omega, hw.trans (hb.mono hw.size)⟩
theorem last_two {h : Nat} {c0 c1 c2 c3 c4 c5 c6 c7 c8 c9 : Option Value} {W0 W : World} (hh : W.cell? ⟨h, 0, none⟩ = c0 ∧ W.cell? ⟨h, 1, none⟩ = c1 ∧ W.cell? ⟨h, 2, none⟩ = c2 ∧ W.cell? ⟨h, 3, none⟩ = c3 ∧ W.cell? ⟨h, 4, none⟩ = c4 ∧ W.cell? ⟨h + 1, 0, none⟩ = c5 ∧ W.cell? ⟨h + 1, 1, none⟩ = c6 ∧ W.cell? ⟨h + 1, 2, none⟩ = c7 ∧ W.cell? ⟨h + 1, 3, none⟩ = c8 ∧ W.cell? ⟨h + 1, 4, none⟩ = c9 ∧ h + 1 < W.heap.size ∧ Below W0.heap.size W0 W) : Below W0.heap.size W0 W := by
  obtain ⟨a0, a1, a2, a3, a4, a5, a6, a7, a8, a9, hs, hw⟩ := hh
  exact hw
set_option maxRecDepth 100000 in
set_option maxHeartbeats 1000000 in
theorem walk_rank (k1 : ByteArray) (n1 u1 : Int) (f1 : Nat) (s1 : ByteArray) (k2 : ByteArray) (n2 u2 : Int) (f2 : Nat) (s2 : ByteArray)
    (a1 : -9223372036854775808 ≤ n1) (a2 : n1 ≤ 9223372036854775807) (a3 : 0 ≤ u1) (a4 : u1 ≤ 18446744073709551615)
    (c1 : -9223372036854775808 ≤ n2) (c2 : n2 ≤ 9223372036854775807) (c3 : 0 ≤ u2) (c4 : u2 ≤ 18446744073709551615) (w : World) :
    Calls Try.prog 4 #[.agg #[.string k1, .int .i64 n1, .int .u64 u1, .float .f64 f1, .string s1], .agg #[.string k2, .int .i64 n2, .int .u64 u2, .float .f64 f2, .string s2]] w (LawPost w) := by
  go_enter Try.func4, Try.ntmps4
  have B0 : Below w.heap.size w ((w.alloc (.cells #[.string k1, .int .i64 n1, .int .u64 u1, .float .f64 f1, .string s1] 29)).alloc (.cells #[.string k2, .int .i64 n2, .int .u64 u2, .float .f64 f2, .string s2] 29)) :=
    ((Below.refl _ _).alloc (Nat.le_refl _) _).alloc (by simp) _
  go_wp2_with fail
  refine (fits_any _ _ _ _ _ _).mono ?_
  rintro e w1 ⟨b1, rfl, hb1⟩
  have W1 := hb1
  obtain ⟨ca, cb⟩ := two_cells W1
  clear hb1
  cases b1 with
  | false =>
    go_wp2
    go_ret
    exact ⟨rfl, B0.trans (W1.mono B0.size)⟩
  | true =>
  go_wp2_with fail
  refine (fits_any _ _ _ _ _ _).mono ?_
  rintro e w2 ⟨b2, rfl, hb2⟩
  have W2 := W1.trans (hb2.mono W1.size)
  clear ca cb
  obtain ⟨ca, cb⟩ := two_cells W2
  clear hb2
  cases b2 with
  | false =>
    go_wp2
    go_ret
    exact ⟨rfl, B0.trans (W2.mono B0.size)⟩
  | true =>
  go_wp2_with fail
  refine (num_any _ _).mono ?_
  rintro e w3 ⟨rfl, hb3⟩
  have W3 := W2.trans (hb3.mono W2.size)
  clear ca cb
  obtain ⟨ca, cb⟩ := two_cells W3
  clear hb3
  go_wp2_with fail
  refine (Rank_any (.int .i64 1) ⟨by decide, by decide⟩ _).mono ?_
  rintro e w4 ⟨rfl, hb4⟩
  have W4 := W3.trans (hb4.mono W3.size)
  clear ca cb
  obtain ⟨ca, cb⟩ := two_cells W4
  clear hb4
  go_wp2_with fail
  refine (str_any _ _).mono ?_
  rintro e w5 ⟨rfl, hb5⟩
  have W5 := W4.trans (hb5.mono W4.size)
  clear ca cb
  obtain ⟨ca, cb⟩ := two_cells W5
  clear hb5
  go_wp2_with fail
  refine (Rank_any (.str ⟨#[]⟩) (Nat.zero_le _) _).mono ?_
  rintro e w6 ⟨rfl, hb6⟩
  have W6 := W5.trans (hb6.mono W5.size)
  clear ca cb
  obtain ⟨ca, cb⟩ := two_cells W6
  clear hb6
  have r1 : (V.int .i64 1).rank = 14 := rfl
  have r2 : (V.str ⟨#[]⟩).rank = 23 := rfl
  go_wp2_with fail
  refine (concrete_any _ _ _ _ _ a1 a2 a3 a4 _).mono ?_
  rintro e w7 ⟨b7, rfl, hv1, hb7⟩
  have W7 := W6.trans (hb7.mono W6.size)
  clear ca cb
  obtain ⟨ca, cb⟩ := two_cells W7
  clear hb7
  have HV1 := Lib.hid hv1
  clear hv1
  cases b7 with
  | false =>
    go_wp2
    go_ret
    exact ⟨rfl, B0.trans (W7.mono B0.size)⟩
  | true =>
  go_wp2_with fail
  refine (concrete_any _ _ _ _ _ c1 c2 c3 c4 _).mono ?_
  rintro e w8 ⟨b8, rfl, hv2, hb8⟩
  have W8 := W7.trans (hb8.mono W7.size)
  clear ca cb
  obtain ⟨ca, cb⟩ := two_cells W8
  clear hb8
  have HV2 := Lib.hid hv2
  clear hv2
  cases b8 with
  | false =>
    go_wp2
    go_ret
    exact ⟨rfl, B0.trans (W8.mono B0.size)⟩
  | true =>
  obtain ⟨v1, hv1, rfl, rfl, rfl, rfl, rfl⟩ := HV1.out (by trivial)
  obtain ⟨v2, hv2, rfl, rfl, rfl, rfl, rfl⟩ := HV2.out (by trivial)
  clear HV1 HV2 a1 a2 a3 a4 c1 c2 c3 c4
  have HV1 := Lib.hid hv1
  have HV2 := Lib.hid hv2
  have HE := rank_bool_kind v1 v2
  have hsz : w.heap.size + 1 < w8.heap.size := by have := W8.size; simp at this; omega
  have HW := Lib.hid W8
  clear hv1 hv2 W8 W7 W6 W5 W4 W3 W2 W1 r1 r2
  have hd0 : Below w8.heap.size w8 w8.drew := (Below.refl _ _).drew
  go_wp2_with fail
  go_region_held3 (fun w' => w'.cell? ⟨w.heap.size, 0, none⟩ = some (.string v1.K) ∧ w'.cell? ⟨w.heap.size, 1, none⟩ = some (.int .i64 v1.N) ∧ w'.cell? ⟨w.heap.size, 2, none⟩ = some (.int .u64 v1.U) ∧ w'.cell? ⟨w.heap.size, 3, none⟩ = some (.float .f64 v1.F) ∧ w'.cell? ⟨w.heap.size, 4, none⟩ = some (.string v1.S) ∧ w'.cell? ⟨w.heap.size + 1, 0, none⟩ = some (.string v2.K) ∧ w'.cell? ⟨w.heap.size + 1, 1, none⟩ = some (.int .i64 v2.N) ∧ w'.cell? ⟨w.heap.size + 1, 2, none⟩ = some (.int .u64 v2.U) ∧ w'.cell? ⟨w.heap.size + 1, 3, none⟩ = some (.float .f64 v2.F) ∧ w'.cell? ⟨w.heap.size + 1, 4, none⟩ = some (.string v2.S) ∧ w.heap.size + 1 < w'.heap.size ∧ Below w8.heap.size w8 w') (first | exact keep_two hb (by assumption) | go_keep) (first | (go_at_call 9; refine (Rank_any v1 HV1.out.1 _).mono ?_; rintro e w' ⟨rfl, hb⟩) | (go_at_call 9; refine (Rank_any v2 HV2.out.1 _).mono ?_; rintro e w' ⟨rfl, hb⟩))
  go_wp2
  go_ret
  exact ⟨rfl, B0.trans ((HW.out.trans ((last_two (by assumption)).mono HW.out.size)).mono B0.size)⟩
end Go.Proofs.YtamlkedkmehfcaaRRRR
