/- impl.IndexAt. -/
import Derived.Deep.RegionWith
import Derived.Test.YtpkgngpmnapdoaaDoorIndexP
namespace Go.Proofs.YtpkgngpmnapdoaaDoor
open Go.RowKit
set_option linter.unusedVariables false
set_option linter.unusedSimpArgs false
set_option maxRecDepth 100000
attribute [local go_sem] store_flt
attribute [local go_sem] ta4 tn4 ta74 tn74 ta75 tn75 ta21 tn21 ta2 tn2 ta5 tn5 ta76 tn76 ta77 tn77 ta22 tn22 ta3 tn3 ta30 tn30 ta68 tn68 ta23 tn23 ta9 tn9 ta78 tn78 ta88 tn88 ta90 tn90 ta91 tn91 ta93 tn93 ta82 tn82
theorem zixn_any (v : V) (hv : v.ok) (s : ByteArray) (x : Value) (w : World) (hx : v.box w x) : Calls Tryd.prog 37 #[(.pointer none), x] w (AtPost v.said (v.fits false s) v.num w) := by
  have H := Lib.hid (ixn_any v hv s x w hx)
  clear hx hv
  go_enter Tryd.func37, Tryd.ntmps37
  go_wp2_with fail
  refine H.out.mono ?_
  rintro e w1 ⟨q, y, rfl, hy, hb⟩
  have HY := Lib.hid hy
  clear hy
  go_wp2
  go_returns
  exact ⟨q, y, rfl, HY.out, hb⟩
theorem zixp_any (v : V) (hv : v.ok) (p : Nat) (s : ByteArray) (hl : s.size ≤ 2000) (x : Value) (w : World) (hx : v.box w x) (hc : w.cell? ⟨p, 0, none⟩ = some (.string s)) : Calls Tryd.prog 37 #[(.pointer (some ⟨p, 0, none⟩)), x] w (AtPost v.said (v.fits true s) v.num w) := by
  have H := Lib.hid (ixp_any v hv p s hl x w hx hc)
  clear hx hv hc
  go_enter Tryd.func37, Tryd.ntmps37
  go_wp2_with fail
  refine H.out.mono ?_
  rintro e w1 ⟨q, y, rfl, hy, hb⟩
  have HY := Lib.hid hy
  clear hy
  go_wp2
  go_returns
  exact ⟨q, y, rfl, HY.out, hb⟩
set_option maxHeartbeats 2000000 in
theorem IndexAt_none (v : V) (hv : v.ok) (s : ByteArray) (w : World) (hE : ErrW w) :
    Calls Tryd.prog 18 #[.string s, .bool false, .agg #[.string v.K, .int .i64 v.N, .int .u64 v.U, .float .f64 v.F, .string v.S]] w (SaidPost v.said (v.fits false s) v.num w) := by
  have HV := Lib.hid hv
  clear hv
  go_enter Tryd.func18, Tryd.ntmps18
  have B0 : Below w.heap.size w (w.alloc (.cells #[.string v.K, .int .i64 v.N, .int .u64 v.U, .float .f64 v.F, .string v.S] 25)).drew := ((Below.refl _ _).alloc (Nat.le_refl _) _).drew
  have HE := Lib.hid (hE.below B0)
  have HB0 := Lib.hid B0
  clear hE B0
  go_wp2_with fail
  go_region_with (first | (go_at_call 38; refine (text_none _ _).mono ?_; rintro e w1 ⟨rfl, hb1⟩; have HB1 := Lib.hid (HB0.out.trans (hb1.mono HB0.out.size)); have HE1 := Lib.hid (HE.out.below hb1); have hz1 := hb1.size; simp at hz1; obtain ⟨hc1, hf1⟩ := bcell hb1; have q1 : w.heap.size < w1.heap.size := (by omega); clear hb1) | (go_at_call 29; refine (in_any v HV.out _).mono ?_; rintro e w2 ⟨x, rfl, hx, hb2⟩; have HX := Lib.hid hx; have HB2 := Lib.hid (HB1.out.trans (hb2.mono HB1.out.size)); have HE2 := Lib.hid (HE1.out.below hb2); have HQ2 := Lib.hid hb2; clear hx hb2) | (go_at_call 37; refine (zixn_any v HV.out s _ _ HX.out).mono ?_; rintro e w3 ⟨q, y, rfl, hy, hb3⟩; have HY := Lib.hid hy; have HB3 := Lib.hid (HB2.out.trans (hb3.mono HB2.out.size)); have HE3 := Lib.hid (HE2.out.below hb3); clear hy hb3) | (go_at_call 36; refine (number_any w _ HE3.out HY.out HB3.out).mono ?_; rintro e w4 ⟨q', c, rfl, h0, h1, hb4⟩; have H0 := Lib.hid h0; have H1 := Lib.hid h1; have HB4 := Lib.hid hb4; clear h0 h1 hb4))
  all_goals go_wp2
  all_goals go_returns
  all_goals exact said_post rfl H0.out H1.out HB4.out
set_option maxHeartbeats 2000000 in
theorem IndexAt_some (v : V) (hv : v.ok) (s : ByteArray) (hl : s.size ≤ 2000) (w : World) (hE : ErrW w) :
    Calls Tryd.prog 18 #[.string s, .bool true, .agg #[.string v.K, .int .i64 v.N, .int .u64 v.U, .float .f64 v.F, .string v.S]] w (SaidPost v.said (v.fits true s) v.num w) := by
  have HV := Lib.hid hv
  have HL := Lib.hid hl
  clear hl
  clear hv
  go_enter Tryd.func18, Tryd.ntmps18
  have B0 : Below w.heap.size w (w.alloc (.cells #[.string v.K, .int .i64 v.N, .int .u64 v.U, .float .f64 v.F, .string v.S] 25)).drew := ((Below.refl _ _).alloc (Nat.le_refl _) _).drew
  have HE := Lib.hid (hE.below B0)
  have HB0 := Lib.hid B0
  clear hE B0
  go_wp2_with fail
  go_region_with (first | (go_at_call 38; refine (text_some _ _).mono ?_; rintro e w1 ⟨rfl, ht1, hl1, hb1⟩; simp at ht1 hl1; have HT1 := Lib.hid ht1; have HL1 := Lib.hid hl1; clear ht1 hl1; have HB1 := Lib.hid (HB0.out.trans (hb1.mono HB0.out.size)); have HE1 := Lib.hid (HE.out.below hb1); have hz1 := hb1.size; simp at hz1; obtain ⟨hc1, hf1⟩ := bcell hb1; have q1 : w.heap.size < w1.heap.size := (by omega); clear hb1) | (go_at_call 29; refine (in_any v HV.out _).mono ?_; rintro e w2 ⟨x, rfl, hx, hb2⟩; have HX := Lib.hid hx; have HB2 := Lib.hid (HB1.out.trans (hb2.mono HB1.out.size)); have HE2 := Lib.hid (HE1.out.below hb2); have HQ2 := Lib.hid hb2; clear hx hb2) | (go_at_call 37; refine (zixp_any v HV.out (w.heap.size + 1) s HL.out _ _ HX.out ((HQ2.out.cell (p := ⟨w.heap.size + 1, 0, none⟩) HL1.out).trans HT1.out)).mono ?_; rintro e w3 ⟨q, y, rfl, hy, hb3⟩; have HY := Lib.hid hy; have HB3 := Lib.hid (HB2.out.trans (hb3.mono HB2.out.size)); have HE3 := Lib.hid (HE2.out.below hb3); clear hy hb3) | (go_at_call 36; refine (number_any w _ HE3.out HY.out HB3.out).mono ?_; rintro e w4 ⟨q', c, rfl, h0, h1, hb4⟩; have H0 := Lib.hid h0; have H1 := Lib.hid h1; have HB4 := Lib.hid hb4; clear h0 h1 hb4))
  all_goals go_wp2
  all_goals go_returns
  all_goals exact said_post rfl H0.out H1.out HB4.out
theorem IndexAt_any (v : V) (hv : v.ok) (s : ByteArray) (text : Bool) (hl : s.size ≤ 2000) (w : World) (hE : ErrW w) :
    Calls Tryd.prog 18 #[.string s, .bool text, .agg #[.string v.K, .int .i64 v.N, .int .u64 v.U, .float .f64 v.F, .string v.S]] w (SaidPost v.said (v.fits text s) v.num w) := by
  cases text
  · exact IndexAt_none v hv s w hE
  · exact IndexAt_some v hv s hl w hE
end Go.Proofs.YtpkgngpmnapdoaaDoor
