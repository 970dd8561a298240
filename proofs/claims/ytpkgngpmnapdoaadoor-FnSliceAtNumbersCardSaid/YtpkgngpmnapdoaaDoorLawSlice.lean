/- FnSliceAtNumbers: the walk of the law. For every Value. -/
import Derived.Laws.Bits64b
import Derived.Test.YtpkgngpmnapdoaaDoorSliceAt
namespace Go.Proofs.YtpkgngpmnapdoaaDoor
open Go.RowKit
set_option linter.unusedVariables false
set_option linter.unusedSimpArgs false
set_option maxRecDepth 100000
attribute [local go_sem] store_flt
theorem whole_of_K (v : V) (h : intK v.K = true) : v.whole = true := by
  rcases v with _ | b | ⟨k, n⟩ | ⟨k, d⟩ | s | s | n | n | n | d <;> (try cases k) <;> first | rfl | (exfalso; revert h; simp [V.K, intK])
theorem whole_parts (v : V) (ho : v.ok) (hw : v.whole = true) (n1 : -9223372036854775808 ≤ v.N) (n2 : v.N ≤ 9223372036854775807) (u1 : 0 ≤ v.U) (u2 : v.U ≤ 18446744073709551615) : (v.N < 0 ↔ v.num < 0) ∧ (0 ≤ v.N → bits .or .u64 v.N v.U = v.num) := by
  have hz : v.N = 0 ∨ v.U = 0 := by
    rcases v with _ | b | ⟨k, n⟩ | ⟨k, d⟩ | s | s | n | n | n | d <;> (try cases k) <;> first | (cases hw; done) | exact .inr rfl | exact .inl rfl
  unfold V.num
  refine ⟨by omega, fun h0 => ?_⟩
  obtain ⟨a, ha⟩ := Int.eq_ofNat_of_zero_le h0
  obtain ⟨b, hb⟩ := Int.eq_ofNat_of_zero_le u1
  rw [ha, hb, bits_or_u64_nat a b (by omega) (by omega)]
  rcases hz with h | h
  · have : a = 0 := by omega
    subst this
    simp
  · have : b = 0 := by omega
    subst this
    simp
def LawPost (w : World) (e : Ending) (w' : World) : Prop := e = .returned (.bool true) ∧ Below w.heap.size w w'
set_option maxHeartbeats 4000000 in
theorem walk_slice (k : ByteArray) (n u : Int) (f : Nat) (s : ByteArray)
    (a1 : -9223372036854775808 ≤ n) (a2 : n ≤ 9223372036854775807) (a3 : 0 ≤ u) (a4 : u ≤ 18446744073709551615) (bm : Bool) (w : World) (hE : ErrW w) :
    Calls Tryd.prog 6 #[.agg #[.string k, .int .i64 n, .int .u64 u, .float .f64 f, .string s], .bool bm] w (LawPost w) := by
  have A1 := Lib.hid a1
  have A2 := Lib.hid a2
  have A3 := Lib.hid a3
  have A4 := Lib.hid a4
  clear a1 a2 a3 a4
  go_enter Tryd.func6, Tryd.ntmps6
  have B0 : Below w.heap.size w (w.alloc (.cells #[.string k, .int .i64 n, .int .u64 u, .float .f64 f, .string s] 25)) := (Below.refl _ _).alloc (Nat.le_refl _) _
  have HE0 := Lib.hid (hE.below B0)
  have HB0 := Lib.hid B0
  clear hE B0
  go_wp2_with fail
  refine (fits_any _ _ _ _ _ _).mono ?_
  rintro e w1 ⟨b1, rfl, hb1⟩
  have W1 := hb1
  clear hb1
  have HE1 := Lib.hid (HE0.out.below W1)
  clear HE0
  have ca := one_cells W1
  cases b1 with
  | false =>
    have HW := Lib.hid (HB0.out.trans (W1.mono HB0.out.size))
    clear W1
    go_wp2
    go_ret
    exact ⟨rfl, HW.out⟩
  | true =>
  cases bm with
  | false =>
    go_wp2_with fail
    refine (num_any 1 _).mono ?_
    rintro e w2 ⟨rfl, hb2⟩
    have W2 := W1.trans (hb2.mono W1.size)
    have HE2 := Lib.hid (HE1.out.below hb2)
    clear HE1 W1 hb2 ca
    have ca := one_cells W2
    go_wp2_with fail
    refine (SliceAt_any (.int .i64 1) ⟨by decide, by decide⟩ rfl ⟨#[]⟩ 0 _ HE2.out).mono ?_
    rintro e w3 ⟨m, c, rfl, h0, _, hb3⟩
    obtain ⟨rfl, rfl⟩ := h0 rfl rfl
    have W3 := W2.trans (hb3.mono W2.size)
    have HE3 := Lib.hid (HE2.out.below hb3)
    clear HE2 W2 hb3 ca h0
    have ca := one_cells W3
    go_wp2_with fail
    refine (width_some k _).mono ?_
    rintro e w4 ⟨m4, b4, rfl, rfl, hm, hk⟩
    have HK := Lib.hid hk
    clear hk
    go_wp2_with fail
    refine (valid_any _ _ _ _ _ A1.out A2.out A3.out A4.out _).mono ?_
    rintro e w5 ⟨b5, rfl, hiff, hb5⟩
    have HI := Lib.hid hiff
    have W5 := W3.trans (hb5.mono W3.size)
    have HE5 := Lib.hid (HE3.out.below hb5)
    clear HE3 W3 hb5 ca hiff
    have ca := one_cells W5
    cases b5 with
    | false =>
      have HW := Lib.hid (HB0.out.trans (W5.mono HB0.out.size))
      clear W5
      go_wp2
      go_ret
      exact ⟨rfl, HW.out⟩
    | true =>
    cases hm0 : (m4 == 0) with
    | true =>
      have HW := Lib.hid (HB0.out.trans (W5.mono HB0.out.size))
      clear W5
      go_wp2
      go_ret
      exact ⟨rfl, HW.out⟩
    | false =>
    have hkk := HK.out hm0
    obtain ⟨v, hv, rfl, rfl, rfl, rfl, rfl⟩ := HI.out.1 (by trivial)
    have hwh := whole_of_K v hkk
    obtain ⟨hneg, hor⟩ := whole_parts v hv hwh A1.out A2.out A3.out A4.out
    have HV := Lib.hid hv
    have HWH := Lib.hid hwh
    have HNEG := Lib.hid hneg
    have HOR := Lib.hid hor
    clear HI HK hkk hv hwh hneg hor
    go_wp2_with fail
    refine (SliceAt_any v HV.out HWH.out ⟨#[]⟩ 0 _ HE5.out).mono ?_
    rintro e w6 ⟨q, c, rfl, h0, h1, hb6⟩
    have H0 := Lib.hid h0
    have H1 := Lib.hid h1
    have W6 := W5.trans (hb6.mono W5.size)
    have HW := Lib.hid (HB0.out.trans (W6.mono HB0.out.size))
    clear HE5 W5 hb6 ca h0 h1
    have ca := one_cells W6
    clear W6
    by_cases hN : v.N < 0
    · have hc0 : (c != 0) = true := by
        have hx := HNEG.out.1 hN
        have := H1.out rfl (by simp; omega)
        simpa using this
      clear H0 H1 HNEG HOR
      go_wp2
      go_ret
      exact ⟨rfl, HW.out⟩
    · obtain ⟨rfl, rfl⟩ := H0.out rfl (by have := HNEG.out; simp; omega)
      have hor := HOR.out (by omega)
      have hwr : IntKind.u64.wrap v.N = v.N := IntWalk.u64_in _ ⟨by omega, by have := A2.out; omega⟩
      clear H0 H1 HNEG HOR
      go_wp2
      go_ret
      exact ⟨rfl, HW.out⟩
  | true =>
    go_wp2_with fail
    refine (num_any 1 _).mono ?_
    rintro e w2 ⟨rfl, hb2⟩
    have W2 := W1.trans (hb2.mono W1.size)
    have HE2 := Lib.hid (HE1.out.below hb2)
    clear HE1 W1 hb2 ca
    have ca := one_cells W2
    go_wp2_with fail
    refine (SliceAt_any (.int .i64 1) ⟨by decide, by decide⟩ rfl ⟨#[]⟩ 1 _ HE2.out).mono ?_
    rintro e w3 ⟨m, c, rfl, h0, _, hb3⟩
    obtain ⟨rfl, rfl⟩ := h0 rfl rfl
    have W3 := W2.trans (hb3.mono W2.size)
    have HE3 := Lib.hid (HE2.out.below hb3)
    clear HE2 W2 hb3 ca h0
    have ca := one_cells W3
    go_wp2_with fail
    refine (width_some k _).mono ?_
    rintro e w4 ⟨m4, b4, rfl, rfl, hm, hk⟩
    have HK := Lib.hid hk
    clear hk
    go_wp2_with fail
    refine (valid_any _ _ _ _ _ A1.out A2.out A3.out A4.out _).mono ?_
    rintro e w5 ⟨b5, rfl, hiff, hb5⟩
    have HI := Lib.hid hiff
    have W5 := W3.trans (hb5.mono W3.size)
    have HE5 := Lib.hid (HE3.out.below hb5)
    clear HE3 W3 hb5 ca hiff
    have ca := one_cells W5
    cases b5 with
    | false =>
      have HW := Lib.hid (HB0.out.trans (W5.mono HB0.out.size))
      clear W5
      go_wp2
      go_ret
      exact ⟨rfl, HW.out⟩
    | true =>
    cases hm0 : (m4 == 0) with
    | true =>
      have HW := Lib.hid (HB0.out.trans (W5.mono HB0.out.size))
      clear W5
      go_wp2
      go_ret
      exact ⟨rfl, HW.out⟩
    | false =>
    have hkk := HK.out hm0
    obtain ⟨v, hv, rfl, rfl, rfl, rfl, rfl⟩ := HI.out.1 (by trivial)
    have hwh := whole_of_K v hkk
    obtain ⟨hneg, hor⟩ := whole_parts v hv hwh A1.out A2.out A3.out A4.out
    have HV := Lib.hid hv
    have HWH := Lib.hid hwh
    have HNEG := Lib.hid hneg
    have HOR := Lib.hid hor
    clear HI HK hkk hv hwh hneg hor
    go_wp2_with fail
    refine (SliceAt_any v HV.out HWH.out ⟨#[]⟩ 1 _ HE5.out).mono ?_
    rintro e w6 ⟨q, c, rfl, h0, h1, hb6⟩
    have H0 := Lib.hid h0
    have H1 := Lib.hid h1
    have W6 := W5.trans (hb6.mono W5.size)
    have HW := Lib.hid (HB0.out.trans (W6.mono HB0.out.size))
    clear HE5 W5 hb6 ca h0 h1
    have ca := one_cells W6
    clear W6
    by_cases hN : v.N < 0
    · have hc0 : (c != 0) = true := by
        have hx := HNEG.out.1 hN
        have := H1.out rfl (by simp; omega)
        simpa using this
      clear H0 H1 HNEG HOR
      go_wp2
      go_ret
      exact ⟨rfl, HW.out⟩
    · obtain ⟨rfl, rfl⟩ := H0.out rfl (by have := HNEG.out; simp; omega)
      have hor := HOR.out (by omega)
      have hwr : IntKind.u64.wrap v.N = v.N := IntWalk.u64_in _ ⟨by omega, by have := A2.out; omega⟩
      clear H0 H1 HNEG HOR
      go_wp2
      go_ret
      exact ⟨rfl, HW.out⟩
end Go.Proofs.YtpkgngpmnapdoaaDoor
