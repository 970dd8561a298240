/- FnExactIndexAt: the walk of the law. For every text and Value. -/
import Derived.Test.YtpkgngpmnapdoaaDoorInteger
import Derived.Test.YtpkgngpmnapdoaaDoorSpecAt
import Derived.Test.YtpkgngpmnapdoaaDoorIndexAt
namespace Go.Proofs.YtpkgngpmnapdoaaDoor
open Go.RowKit
set_option linter.unusedVariables false
set_option linter.unusedSimpArgs false
set_option maxRecDepth 100000
attribute [local go_sem] store_flt
def LawPost (w : World) (e : Ending) (w' : World) : Prop := e = .returned (.bool true) ∧ Below w.heap.size w w'
set_option maxHeartbeats 4000000 in
theorem walk_index (s : ByteArray) (text : Bool) (k : ByteArray) (n u : Int) (f : Nat) (vs : ByteArray)
    (a1 : -9223372036854775808 ≤ n) (a2 : n ≤ 9223372036854775807) (a3 : 0 ≤ u) (a4 : u ≤ 18446744073709551615) (w : World) (hE : ErrW w) :
    Calls Tryd.prog 5 #[.string s, .bool text, .agg #[.string k, .int .i64 n, .int .u64 u, .float .f64 f, .string vs]] w (LawPost w) := by
  have A1 := Lib.hid a1
  have A2 := Lib.hid a2
  have A3 := Lib.hid a3
  have A4 := Lib.hid a4
  clear a1 a2 a3 a4
  go_enter Tryd.func5, Tryd.ntmps5
  have B0 : Below w.heap.size w (w.alloc (.cells #[.string k, .int .i64 n, .int .u64 u, .float .f64 f, .string vs] 25)) := (Below.refl _ _).alloc (Nat.le_refl _) _
  have HE0 := Lib.hid (hE.below B0)
  have HB0 := Lib.hid B0
  clear hE B0
  by_cases z1 : (2147483647 : Int) < (s.size : Int)
  · go_wp2
    go_ret
    exact ⟨rfl, HB0.out⟩
  go_wp2_with fail
  refine (fits_any _ _ _ _ _ _).mono ?_
  rintro e w1 ⟨b1, rfl, hb1⟩
  have W1 := hb1
  clear hb1
  have HE1 := Lib.hid (HE0.out.below W1)
  clear HE0
  have ca := own_cells W1
  cases b1 with
  | false =>
    have HW := Lib.hid (HB0.out.trans (W1.mono HB0.out.size))
    clear W1
    go_wp2
    go_ret
    exact ⟨rfl, HW.out⟩
  | true =>
  go_wp2_with fail
  refine (num_any 1 _).mono ?_
  rintro e w2 ⟨rfl, hb2⟩
  have W2 := W1.trans (hb2.mono W1.size)
  have HE2 := Lib.hid (HE1.out.below hb2)
  clear HE1 W1 hb2 ca
  have ca := own_cells W2
  go_wp2_with fail
  refine (IndexAt_any (.int .i64 1) ⟨by decide, by decide⟩ ⟨#[97, 98, 99]⟩ true (by decide) _ HE2.out).mono ?_
  rintro e w3 ⟨m, c, rfl, h0, _, hb3⟩
  obtain ⟨rfl, rfl⟩ := h0 rfl (by decide)
  have W3 := W2.trans (hb3.mono W2.size)
  have HE3 := Lib.hid (HE2.out.below hb3)
  clear HE2 W2 hb3 ca h0
  have ca := own_cells W3
  go_wp2_with fail
  refine (valid_any _ _ _ _ _ A1.out A2.out A3.out A4.out _).mono ?_
  rintro e w5 ⟨b5, rfl, hiff, hb5⟩
  have HI := Lib.hid hiff
  have W5 := W3.trans (hb5.mono W3.size)
  have HE5 := Lib.hid (HE3.out.below hb5)
  clear HE3 W3 hb5 ca hiff
  have ca := own_cells W5
  cases b5 with
  | false =>
    have HW := Lib.hid (HB0.out.trans (W5.mono HB0.out.size))
    clear W5
    go_wp2
    go_ret
    exact ⟨rfl, HW.out⟩
  | true =>
  by_cases z2 : (2000 : Int) < (s.size : Int)
  · have HW := Lib.hid (HB0.out.trans (W5.mono HB0.out.size))
    clear W5
    go_wp2
    go_ret
    exact ⟨rfl, HW.out⟩
  have hl : s.size ≤ 2000 := by omega
  have HL := Lib.hid hl
  obtain ⟨v, hv, rfl, rfl, rfl, rfl, rfl⟩ := HI.out.1 (by trivial)
  have HV := Lib.hid hv
  clear HI hv hl
  go_wp2_with fail
  refine (IndexAt_any v HV.out s text HL.out _ HE5.out).mono ?_
  rintro e w6 ⟨q, c, rfl, h0, h1, hb6⟩
  have H0 := Lib.hid h0
  have H1 := Lib.hid h1
  have W6 := W5.trans (hb6.mono W5.size)
  clear HE5 W5 hb6 ca h0 h1
  have ca := own_cells W6
  go_wp2_with fail
  refine (specAt_any v HV.out s text HL.out _).mono ?_
  rintro e w7 ⟨m7, c7, sd, rfl, g0, g1, g2, hb7⟩
  have W7 := W6.trans (hb7.mono W6.size)
  have HW := Lib.hid (HB0.out.trans (W7.mono HB0.out.size))
  have G0 := Lib.hid g0
  have G1 := Lib.hid g1
  have G2 := Lib.hid g2
  clear W6 W7 hb7 ca g0 g1 g2 HB0
  cases sd with
  | false =>
    go_wp2
    go_ret
    exact ⟨rfl, HW.out⟩
  | true =>
  have hs := G0.out (by trivial)
  cases hf : v.fits text s with
  | true =>
    obtain ⟨rfl, rfl⟩ := G1.out (by trivial) hf
    obtain ⟨rfl, rfl⟩ := H0.out hs hf
    clear G0 G1 G2 H0 H1 hs hf
    go_wp2
    go_ret
    exact ⟨rfl, HW.out⟩
  | false =>
    obtain rfl := G2.out (by trivial) hf
    have hc := H1.out hs hf
    have hc' : (c != 0) = true := by simpa using hc
    clear G0 G1 G2 H0 H1 hs hf hc
    go_wp2
    go_ret
    exact ⟨rfl, HW.out⟩
end Go.Proofs.YtpkgngpmnapdoaaDoor
