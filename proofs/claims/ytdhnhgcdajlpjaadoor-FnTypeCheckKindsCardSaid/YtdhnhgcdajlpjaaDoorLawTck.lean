/- FnTypeCheckKinds: the walk of the law. For every Value and kind. -/
import Derived.Deep.RegionWith
import Derived.Deep.CutRange
import Derived.Deep.RegionHeld3
import Derived.Deep.QuietTactic
import Derived.BigQuiet
import Derived.Test.YtdhnhgcdajlpjaaDoorValid3
import Derived.Test.YtdhnhgcdajlpjaaDoorTypeCheck
namespace Go.Proofs.YtdhnhgcdajlpjaaDoor
open Go.RowKit
set_option linter.unusedVariables false
set_option linter.unusedSimpArgs false
set_option maxRecDepth 100000
attribute [local go_sem] store_flt
theorem isIdeal_any (v : V) (w : World) : Calls Tryd.prog 13 #[.string v.K] w fun e w' => e = .returned (.bool v.ideal) ∧ w' = w := by
  rcases v with _ | b | ⟨k, n⟩ | ⟨k, d⟩ | s | s | n | n | n | d
  · exact isIdeal_null w
  · exact isIdeal_bool w
  · cases k
    · exact isIdeal_int8 w
    · exact isIdeal_int16 w
    · exact isIdeal_int32 w
    · exact isIdeal_int64 w
    · exact isIdeal_uint8 w
    · exact isIdeal_uint16 w
    · exact isIdeal_uint32 w
    · exact isIdeal_uint64 w
  · cases k
    · exact isIdeal_float32 w
    · exact isIdeal_float64 w
  · exact isIdeal_string w
  · exact isIdeal_blob w
  · exact isIdeal_idealInt w
  · exact isIdeal_idealRune w
  · exact isIdeal_idealUint w
  · exact isIdeal_idealFloat w
theorem ideal_not (v : V) (h : v.ideal = true) (T : Ty) : v.isOf T = false := by
  rcases v with _ | b | ⟨k, n⟩ | ⟨k, d⟩ | s | s | n | n | n | d <;> first | (cases h; done) | exact not_idealInt _ T | exact not_idealRune _ T | exact not_idealUint _ T | exact not_idealFloat _ T
theorem ok_bounds (v : V) (h : v.ok) : -9223372036854775808 ≤ v.N ∧ v.N ≤ 9223372036854775807 ∧ 0 ≤ v.U ∧ v.U ≤ 18446744073709551615 := by
  rcases v with _ | b | ⟨k, n⟩ | ⟨k, d⟩ | s | s | n | n | n | d <;> (try cases k) <;> (try cases b) <;> simp [V.ok, V.N, V.U] at h ⊢ <;> omega
theorem keep_three {h g l j : Nat} {c0 c1 c2 c3 c4 c5 c6 c7 c8 c9 cl : Option Value} {W0 W w' : World} (hb : Below W.heap.size W w')
    (hh : W.cell? ⟨h, 0, none⟩ = c0 ∧ W.cell? ⟨h, 1, none⟩ = c1 ∧ W.cell? ⟨h, 2, none⟩ = c2 ∧ W.cell? ⟨h, 3, none⟩ = c3 ∧ W.cell? ⟨h, 4, none⟩ = c4 ∧ W.cell? ⟨g, 0, none⟩ = c5 ∧ W.cell? ⟨g, 1, none⟩ = c6 ∧ W.cell? ⟨g, 2, none⟩ = c7 ∧ W.cell? ⟨g, 3, none⟩ = c8 ∧ W.cell? ⟨g, 4, none⟩ = c9 ∧ W.cell? ⟨l, j, none⟩ = cl ∧ h < W.heap.size ∧ g < W.heap.size ∧ l < W.heap.size ∧ ErrW W ∧ Below W0.heap.size W0 W) :
    w'.cell? ⟨h, 0, none⟩ = c0 ∧ w'.cell? ⟨h, 1, none⟩ = c1 ∧ w'.cell? ⟨h, 2, none⟩ = c2 ∧ w'.cell? ⟨h, 3, none⟩ = c3 ∧ w'.cell? ⟨h, 4, none⟩ = c4 ∧ w'.cell? ⟨g, 0, none⟩ = c5 ∧ w'.cell? ⟨g, 1, none⟩ = c6 ∧ w'.cell? ⟨g, 2, none⟩ = c7 ∧ w'.cell? ⟨g, 3, none⟩ = c8 ∧ w'.cell? ⟨g, 4, none⟩ = c9 ∧ w'.cell? ⟨l, j, none⟩ = cl ∧ h < w'.heap.size ∧ g < w'.heap.size ∧ l < w'.heap.size ∧ ErrW w' ∧ Below W0.heap.size W0 w' := by
  obtain ⟨a0, a1, a2, a3, a4, a5, a6, a7, a8, a9, al, hs, gs, ls, he, hw⟩ := hh
  have e0 : ∀ j, w'.cell? ⟨h, j, none⟩ = W.cell? ⟨h, j, none⟩ := fun j => hb.cell (p := ⟨h, j, none⟩) hs
  have e1 : ∀ j, w'.cell? ⟨g, j, none⟩ = W.cell? ⟨g, j, none⟩ := fun j => hb.cell (p := ⟨g, j, none⟩) gs
  have := hb.size
  exact ⟨(e0 0).trans a0, (e0 1).trans a1, (e0 2).trans a2, (e0 3).trans a3, (e0 4).trans a4, (e1 0).trans a5, (e1 1).trans a6, (e1 2).trans a7, (e1 3).trans a8, (e1 4).trans a9, (hb.cell (p := ⟨l, j, none⟩) ls).trans al, by omega, by omega, by omega, he.below hb, hw.trans (hb.mono hw.size)⟩
theorem three_err {h g l j : Nat} {c0 c1 c2 c3 c4 c5 c6 c7 c8 c9 cl : Option Value} {W0 W : World} (hh : W.cell? ⟨h, 0, none⟩ = c0 ∧ W.cell? ⟨h, 1, none⟩ = c1 ∧ W.cell? ⟨h, 2, none⟩ = c2 ∧ W.cell? ⟨h, 3, none⟩ = c3 ∧ W.cell? ⟨h, 4, none⟩ = c4 ∧ W.cell? ⟨g, 0, none⟩ = c5 ∧ W.cell? ⟨g, 1, none⟩ = c6 ∧ W.cell? ⟨g, 2, none⟩ = c7 ∧ W.cell? ⟨g, 3, none⟩ = c8 ∧ W.cell? ⟨g, 4, none⟩ = c9 ∧ W.cell? ⟨l, j, none⟩ = cl ∧ h < W.heap.size ∧ g < W.heap.size ∧ l < W.heap.size ∧ ErrW W ∧ Below W0.heap.size W0 W) : ErrW W := hh.2.2.2.2.2.2.2.2.2.2.2.2.2.2.1
theorem three_below {h g l j : Nat} {c0 c1 c2 c3 c4 c5 c6 c7 c8 c9 cl : Option Value} {W0 W : World} (hh : W.cell? ⟨h, 0, none⟩ = c0 ∧ W.cell? ⟨h, 1, none⟩ = c1 ∧ W.cell? ⟨h, 2, none⟩ = c2 ∧ W.cell? ⟨h, 3, none⟩ = c3 ∧ W.cell? ⟨h, 4, none⟩ = c4 ∧ W.cell? ⟨g, 0, none⟩ = c5 ∧ W.cell? ⟨g, 1, none⟩ = c6 ∧ W.cell? ⟨g, 2, none⟩ = c7 ∧ W.cell? ⟨g, 3, none⟩ = c8 ∧ W.cell? ⟨g, 4, none⟩ = c9 ∧ W.cell? ⟨l, j, none⟩ = cl ∧ h < W.heap.size ∧ g < W.heap.size ∧ l < W.heap.size ∧ ErrW W ∧ Below W0.heap.size W0 W) : Below W0.heap.size W0 W := hh.2.2.2.2.2.2.2.2.2.2.2.2.2.2.2
/-- Behind a call of impl.TypeCheck: where its answer lies. -/
def Got (v : V) (T : Ty) (w0 : World) (s6 s7 : Value) (wx : World) : Prop :=
  ∃ (h : Nat) (K : ByteArray) (N U : Int) (F : Nat) (Sx : ByteArray) (c : Int), s6 = .pointer (some ⟨h, 0, none⟩) ∧ s7 = .int .i64 c ∧ (wx.cell? ⟨h, 0, none⟩ = some (.string K) ∧ wx.cell? ⟨h, 1, none⟩ = some (.int .i64 N) ∧ wx.cell? ⟨h, 2, none⟩ = some (.int .u64 U) ∧ wx.cell? ⟨h, 3, none⟩ = some (.float .f64 F) ∧ wx.cell? ⟨h, 4, none⟩ = some (.string Sx)) ∧ (w0.heap.size ≤ h ∧ h < wx.heap.size) ∧ ChRes v T K N U F Sx c ∧ ErrW wx ∧ Below w0.heap.size w0 wx
theorem got {v : V} {T : Ty} {w0 : World} {s6 s7 : Value} {wx : World} {h : Nat} {K : ByteArray} {N U : Int} {F : Nat} {Sx : ByteArray} {c : Int} (e6 : s6 = .pointer (some ⟨h, 0, none⟩)) (e7 : s7 = .int .i64 c)
    (hr : ChRes v T K N U F Sx c) (hE : ErrW w0) (hb : Below w0.heap.size w0 wx) (hl : w0.heap.size ≤ h ∧ h < wx.heap.size) (hc : wx.cell? ⟨h, 0, none⟩ = some (.string K) ∧ wx.cell? ⟨h, 1, none⟩ = some (.int .i64 N) ∧ wx.cell? ⟨h, 2, none⟩ = some (.int .u64 U) ∧ wx.cell? ⟨h, 3, none⟩ = some (.float .f64 F) ∧ wx.cell? ⟨h, 4, none⟩ = some (.string Sx)) : Got v T w0 s6 s7 wx := ⟨h, K, N, U, F, Sx, c, e6, e7, hc, hl, hr, hE.below hb, hb⟩
def LawPost (w : World) (e : Ending) (w' : World) : Prop := e = .returned (.bool true) ∧ Below w.heap.size w w'
set_option maxHeartbeats 4000000 in
theorem walk_tck (k : ByteArray) (n u : Int) (f : Nat) (s : ByteArray)
    (a1 : -9223372036854775808 ≤ n) (a2 : n ≤ 9223372036854775807) (a3 : 0 ≤ u) (a4 : u ≤ 18446744073709551615) (kind : Int) (w : World) (hE : ErrW w) :
    Calls Tryd.prog 4 #[.agg #[.string k, .int .i64 n, .int .u64 u, .float .f64 f, .string s], .int .i64 kind] w (LawPost w) := by
  have A1 := Lib.hid a1
  have A2 := Lib.hid a2
  have A3 := Lib.hid a3
  have A4 := Lib.hid a4
  clear a1 a2 a3 a4
  go_enter Tryd.func4, Tryd.ntmps4
  have B0 : Below w.heap.size w (w.alloc (.cells #[.string k, .int .i64 n, .int .u64 u, .float .f64 f, .string s] 25)) := (Below.refl _ _).alloc (Nat.le_refl _) _
  have HE0 := Lib.hid (hE.below B0)
  have HB0 := Lib.hid B0
  clear hE B0
  go_wp2_with fail
  refine (fits_any _ _ _ _ _ _).mono ?_
  rintro e w1 ⟨b1, rfl, hb1⟩
  have W1 := hb1
  clear hb1
  have HE1 := Lib.hid (HE0.out.below W1)
  clear HE0
  have ca := own_cells W1
  cases b1 with
  | false =>
    have HW := Lib.hid (HB0.out.trans (W1.mono HB0.out.size))
    clear W1
    go_wp2
    go_ret
    exact ⟨rfl, HW.out⟩
  | true =>
  go_wp2_with fail
  refine (kinds_any _).mono ?_
  rintro e w2 ⟨rfl, hk, hks, hb2⟩
  have HK := Lib.hid hk
  have HKS := Lib.hid hks
  have W2 := W1.trans (hb2.mono W1.size)
  have HE2 := Lib.hid (HE1.out.below hb2)
  clear HE1 W1 hb2 ca hk hks
  have ca := own_cells W2
  go_wp2_with fail
  refine (valid_any _ _ _ _ _ A1.out A2.out A3.out A4.out _).mono ?_
  rintro e w3 ⟨b3, rfl, hiff, hb3⟩
  have HI := Lib.hid hiff
  have W3 := W2.trans (hb3.mono W2.size)
  have HE3 := Lib.hid (HE2.out.below hb3)
  have HK3 := Lib.hid (fun (j : Nat) (hj : j < 13) => (hb3.cell (p := ⟨w1.heap.size, j, none⟩) HKS.out).trans (HK.out j hj))
  have HKS3 := Lib.hid (Nat.lt_of_lt_of_le HKS.out hb3.size)
  clear HE2 W2 hb3 ca hiff HK HKS
  have ca := own_cells W3
  have HW3 := Lib.hid (HB0.out.trans (W3.mono HB0.out.size))
  have HC3 := Lib.hid (checks_any _ HE3.out)
  cases b3 with
  | false =>
    clear W3
    go_wp2_with (go_at_call 8; refine HC3.out.mono ?_; rintro e w4 ⟨rfl, hb4⟩; have HW := Lib.hid (HW3.out.trans (hb4.mono HW3.out.size)); clear hb4)
    go_ret
    exact ⟨rfl, HW.out⟩
  | true =>
  by_cases k0 : kind < 0
  · clear W3
    go_wp2_with (go_at_call 8; refine HC3.out.mono ?_; rintro e w4 ⟨rfl, hb4⟩; have HW := Lib.hid (HW3.out.trans (hb4.mono HW3.out.size)); clear hb4)
    go_ret
    exact ⟨rfl, HW.out⟩
  by_cases k1 : 13 ≤ kind
  · clear W3
    go_wp2_with (go_at_call 8; refine HC3.out.mono ?_; rintro e w4 ⟨rfl, hb4⟩; have HW := Lib.hid (HW3.out.trans (hb4.mono HW3.out.size)); clear hb4)
    go_ret
    exact ⟨rfl, HW.out⟩
  obtain ⟨j, rfl⟩ := Int.eq_ofNat_of_zero_le (show 0 ≤ kind by omega)
  have hj : j < 13 := by omega
  have cK : w3.cell? ⟨w1.heap.size, j, none⟩ = some (.string (tyAt j).name) := HK3.out j hj
  have HKS4 := Lib.hid HKS3.out
  clear HC3 HK3
  obtain ⟨v, hv, rfl, rfl, rfl, rfl, rfl⟩ := HI.out.1 (by trivial)
  have HV := Lib.hid hv
  clear HI hv k0 k1 A1 A2 A3 A4
  have HJ := Lib.hid hj
  generalize hT : tyAt j = T at *
  clear hT
  have hz3 : w.heap.size < w3.heap.size := by have := W3.size; simp at this; omega
  have hq1 : w1.heap.size < w3.heap.size := HKS4.out
  have DR : Below w3.heap.size w3 w3.drew := (Below.refl _ _).drew
  have DZ : Below w3.heap.size w3 (w3.alloc (.cells #[.string ⟨#[]⟩, .int .i64 0, .int .u64 0, .float .f64 0, .string ⟨#[]⟩] 25)).drew := ((Below.refl _ _).alloc (Nat.le_refl _) _).drew
  have HEa := Lib.hid (HE3.out.below DR)
  have HEb := Lib.hid (HE3.out.below DZ)
  have HDR := Lib.hid DR
  have HDZ := Lib.hid DZ
  clear DR DZ
  go_upto_region 6 with fail
  go_cut [6, 7] from 28 to 36 (fun s6 s7 wx => Got v T w3 s6 s7 wx)
  case first =>
    go_region_with (first | (go_at_call 9; (with_reducible refine (check_any v HV.out T _ HEa.out).mono ?_); rintro e w5 ⟨K, N, U, F, Sx, c, rfl, hres, hb5⟩; have HR := Lib.hid hres; have HB5 := Lib.hid (HDR.out.trans (hb5.mono HDR.out.size)); have z5 := hb5.size; simp at z5; obtain ⟨hc5, hf5⟩ := bcell hb5; clear hres hb5) | (go_at_call 9; (with_reducible refine (check_any v HV.out T _ HEb.out).mono ?_); rintro e w5 ⟨K, N, U, F, Sx, c, rfl, hres, hb5⟩; have HR := Lib.hid hres; have HB5 := Lib.hid (HDZ.out.trans (hb5.mono HDZ.out.size)); have z5 := hb5.size; simp at z5; obtain ⟨hc5, hf5⟩ := bcell hb5; have q5 : w3.heap.size < w5.heap.size := (by omega); clear hres hb5))
    all_goals (go_wp2_with fail; go_meet; exact got rfl rfl HR.out HE3.out (by repeat (first | exact HB5.out | refine Below.setCell ?_ (by first | omega | (simp; done) | (simp; omega)) _ | refine Below.alloc ?_ (by first | omega | (simp; done) | (simp; omega)) _)) (by first | omega | (simp; done) | (simp; omega)) (by simp [go_sem, hc5]))
  case rest =>
  obtain ⟨h6, K, N, U, F, Sx, c, rfl, rfl, ⟨c60, c61, c62, c63, c64⟩, ⟨hl6, hs6⟩, hres, he6, hb6⟩ := hcut
  have HE6 := Lib.hid he6
  have HR := Lib.hid hres
  have ca6 : ∀ j, wc.cell? ⟨w.heap.size, j, none⟩ = (#[.string v.K, .int .i64 v.N, .int .u64 v.U, .float .f64 v.F, .string v.S] : Array Value)[j]? := fun j => (hb6.cell (p := ⟨w.heap.size, j, none⟩) hz3).trans (ca j)
  have cK6 : wc.cell? ⟨w1.heap.size, j, none⟩ = some (.string T.name) := (hb6.cell (p := ⟨w1.heap.size, j, none⟩) HKS4.out).trans cK
  have HW6 := Lib.hid (HW3.out.trans (hb6.mono HW3.out.size))
  have HL6 := Lib.hid (Nat.lt_of_lt_of_le HKS4.out hb6.size)
  have HZ6 := Lib.hid (Nat.lt_of_lt_of_le hz3 hb6.size)
  have HB6 := Lib.hid hb6
  clear ca cK HE3 HW3 HKS3 HKS4 hz3 hq1 he6 hres hb6 W3 HEa HEb HDR HDZ
  have hk0 := null_K v
  cases hof : v.isOf T with
  | true =>
    have hid : v.ideal = false := by
      cases hd : v.ideal with
      | false => rfl
      | true => rw [ideal_not v hd T] at hof; cases hof
    rcases HR.out with ⟨u, hu, hbad, hlk, rfl, rfl, rfl, rfl, rfl, rfl⟩ | ⟨hn, _⟩
    case inr => rw [hn] at hof; cases hof
    rcases hlk with ⟨_, hlk⟩ | ⟨hd, _⟩
    case inr => rw [hd] at hid; cases hid
    have HLK := Lib.hid hlk
    clear HR hu hbad hlk hid
    have hcond : v.K.toList.isEmpty = true ∨ (v.K.toList.isEmpty = false ∧ (v.K.toList == T.name.toList) = true) := by
      unfold V.isOf at hof
      cases he : v.K.toList.isEmpty with
      | true => exact .inl rfl
      | false => rw [he] at hof; exact .inr ⟨rfl, by simpa using hof⟩
    clear hof hk0
    rcases hcond with h0 | ⟨h0, h1⟩
    · go_upto_region 7 with fail
      go_quiet (fail)
      have HE7 := Lib.hid (HE6.out.below (below_drewN (Below.refl wc.heap.size wc) nq))
      have HW7 := Lib.hid (below_drewN HW6.out nq)
      go_wp2_with fail
      refine (same_any u v HLK.out.K HLK.out.N HLK.out.U HLK.out.F HLK.out.S _).mono ?_
      rintro e w8 ⟨rfl, hb8⟩
      have HE8 := Lib.hid (HE7.out.below hb8)
      have HW8 := Lib.hid (HW7.out.trans (hb8.mono HW7.out.size))
      go_wp2_with fail
      refine (checks_any _ HE8.out).mono ?_
      rintro e w9 ⟨rfl, hb9⟩
      have HW9 := Lib.hid (HW8.out.trans (hb9.mono HW8.out.size))
      go_wp2_with fail
      go_ret
      exact ⟨rfl, HW9.out⟩
    · go_upto_region 7 with fail
      go_quiet (fail)
      have HE7 := Lib.hid (HE6.out.below (below_drewN (Below.refl wc.heap.size wc) nq))
      have HW7 := Lib.hid (below_drewN HW6.out nq)
      go_wp2_with fail
      refine (same_any u v HLK.out.K HLK.out.N HLK.out.U HLK.out.F HLK.out.S _).mono ?_
      rintro e w8 ⟨rfl, hb8⟩
      have HE8 := Lib.hid (HE7.out.below hb8)
      have HW8 := Lib.hid (HW7.out.trans (hb8.mono HW7.out.size))
      go_wp2_with fail
      refine (checks_any _ HE8.out).mono ?_
      rintro e w9 ⟨rfl, hb9⟩
      have HW9 := Lib.hid (HW8.out.trans (hb9.mono HW8.out.size))
      go_wp2_with fail
      go_ret
      exact ⟨rfl, HW9.out⟩
  | false =>
    have h0 : v.K.toList.isEmpty = false := by
      unfold V.isOf at hof
      simp only [Bool.or_eq_false_iff] at hof
      exact hof.1
    have h1 : (v.K.toList == T.name.toList) = false := by
      unfold V.isOf at hof
      simp only [Bool.or_eq_false_iff] at hof
      exact hof.2
    clear hk0
    go_upto_region 7 with fail
    go_quiet (fail)
    have DQ : Below wc.heap.size wc (wc.drewN nq) := below_drewN (Below.refl _ _) nq
    have HE7 := Lib.hid (HE6.out.below DQ)
    have HW7 := Lib.hid (below_drewN HW6.out nq)
    have ca7 : ∀ j, (wc.drewN nq).cell? ⟨w.heap.size, j, none⟩ = (#[.string v.K, .int .i64 v.N, .int .u64 v.U, .float .f64 v.F, .string v.S] : Array Value)[j]? := fun j => (DQ.cell (p := ⟨w.heap.size, j, none⟩) HZ6.out).trans (ca6 j)
    have cK7 : (wc.drewN nq).cell? ⟨w1.heap.size, j, none⟩ = some (.string T.name) := (DQ.cell (p := ⟨w1.heap.size, j, none⟩) HL6.out).trans cK6
    have d60 := (DQ.cell (p := ⟨h6, 0, none⟩) hs6).trans c60
    have d61 := (DQ.cell (p := ⟨h6, 1, none⟩) hs6).trans c61
    have d62 := (DQ.cell (p := ⟨h6, 2, none⟩) hs6).trans c62
    have d63 := (DQ.cell (p := ⟨h6, 3, none⟩) hs6).trans c63
    have d64 := (DQ.cell (p := ⟨h6, 4, none⟩) hs6).trans c64
    have HL7 := Lib.hid (show w1.heap.size < (wc.drewN nq).heap.size from HL6.out)
    have HZ7 := Lib.hid (show w.heap.size < (wc.drewN nq).heap.size from HZ6.out)
    have HS7 := Lib.hid (show h6 < (wc.drewN nq).heap.size from hs6)
    clear ca6 cK6 c60 c61 c62 c63 c64 HE6 HW6 HL6 HZ6 hs6 hl6 DQ h0 h1 HB6
    generalize wc.drewN nq = wd at *
    go_wp2_with fail
    refine (isIdeal_any v _).mono ?_
    rintro e wd' ⟨rfl, hwd⟩
    subst hwd
    cases hd : v.ideal with
    | false =>
      rcases HR.out with ⟨u, hu, hbad, ⟨hq, _⟩ | ⟨hq, _⟩, _⟩ | ⟨_, hc⟩
      · rw [hq] at hof; cases hof
      · rw [hq] at hd; cases hd
      have hc' : (c != 0) = true := by simpa using hc
      have HC := Lib.hid (checks_any _ HE7.out)
      clear HR hof hd hc
      go_wp2_with (go_at_call 8; refine HC.out.mono ?_; rintro e w9 ⟨rfl, hb9⟩; have HB9 := Lib.hid (HW7.out.trans (hb9.mono HW7.out.size)); clear hb9)
      go_ret
      exact ⟨rfl, HB9.out⟩
    | true =>
    rcases HR.out with ⟨u, hu, hbad, hlk, rfl, rfl, rfl, rfl, rfl, rfl⟩ | ⟨_, hc⟩
    case inr =>
      have hc' : (c != 0) = true := by simpa using hc
      have HC := Lib.hid (checks_any _ HE7.out)
      clear HR hof hd hc
      go_wp2_with (go_at_call 8; refine HC.out.mono ?_; rintro e w9 ⟨rfl, hb9⟩; have HB9 := Lib.hid (HW7.out.trans (hb9.mono HW7.out.size)); clear hb9)
      go_ret
      exact ⟨rfl, HB9.out⟩
    rcases hlk with ⟨hq, _⟩ | ⟨_, hk⟩
    case inl => rw [hq] at hof; cases hof
    have HU := Lib.hid hu
    have HKT := Lib.hid hk
    have hkt : (u.K.toList == T.name.toList) = true := by rw [hk]; simp
    clear HR hof hd hu hbad hk
    have hq0 : w.heap.size < wd'.heap.size := HZ7.out
    have hq1 : w1.heap.size < wd'.heap.size := HL7.out
    have hq2 : h6 < wd'.heap.size := HS7.out
    have DR : Below wd'.heap.size wd' wd'.drew := (Below.refl _ _).drew
    have DZ : Below wd'.heap.size wd' (wd'.alloc (.cells #[.string ⟨#[]⟩, .int .i64 0, .int .u64 0, .float .f64 0, .string ⟨#[]⟩] 25)).drew := ((Below.refl _ _).alloc (Nat.le_refl _) _).drew
    have HEa := Lib.hid (HE7.out.below DR)
    have HEb := Lib.hid (HE7.out.below DZ)
    have HDR := Lib.hid DR
    have HDZ := Lib.hid DZ
    clear DR DZ
    go_upto_region 13 with fail
    go_cut [8, 9] from 74 to 82 (fun s6 s7 wx => Got u T wd' s6 s7 wx)
    case first =>
      go_region_with (first | (go_at_call 9; (with_reducible refine (check_any u HU.out T _ HEa.out).mono ?_); rintro e w5 ⟨K, N, U, F, Sx, c, rfl, hres, hb5⟩; have HR := Lib.hid hres; have HB5 := Lib.hid (HDR.out.trans (hb5.mono HDR.out.size)); have z5 := hb5.size; simp at z5; obtain ⟨hc5, hf5⟩ := bcell hb5; clear hres hb5) | (go_at_call 9; (with_reducible refine (check_any u HU.out T _ HEb.out).mono ?_); rintro e w5 ⟨K, N, U, F, Sx, c, rfl, hres, hb5⟩; have HR := Lib.hid hres; have HB5 := Lib.hid (HDZ.out.trans (hb5.mono HDZ.out.size)); have z5 := hb5.size; simp at z5; obtain ⟨hc5, hf5⟩ := bcell hb5; have q5 : wd'.heap.size < w5.heap.size := (by omega); clear hres hb5))
      all_goals (go_wp2_with fail; go_meet; exact got rfl rfl HR.out HE7.out (by repeat (first | exact HB5.out | refine Below.setCell ?_ (by first | omega | (simp; done) | (simp; omega)) _ | refine Below.alloc ?_ (by first | omega | (simp; done) | (simp; omega)) _)) (by first | omega | (simp; done) | (simp; omega)) (by simp [go_sem, hc5]))
    case rest =>
    obtain ⟨h8, K2, N2, U2, F2, Sx2, c2, rfl, rfl, ⟨c80, c81, c82, c83, c84⟩, ⟨hl8, hs8⟩, hres8, he8, hb8⟩ := hcut
    have hiu := isOf_name HKT.out
    rcases hres8 with ⟨u2, hu2, _, hlk2, rfl, rfl, rfl, rfl, rfl, rfl⟩ | ⟨hno, _⟩
    case inr => rw [hno] at hiu; cases hiu
    rcases hlk2 with ⟨_, hlk2⟩ | ⟨hd2, _⟩
    case inr => rw [ideal_not u hd2 T] at hiu; cases hiu
    have HLK := Lib.hid hlk2
    obtain ⟨n1, n2, u1, u2'⟩ := ok_bounds u HU.out
    have HN1 := Lib.hid n1
    have HN2 := Lib.hid n2
    have HU1 := Lib.hid u1
    have HU2 := Lib.hid u2'
    have e60 := (hb8.cell (p := ⟨h6, 0, none⟩) hq2).trans d60
    have e61 := (hb8.cell (p := ⟨h6, 1, none⟩) hq2).trans d61
    have e62 := (hb8.cell (p := ⟨h6, 2, none⟩) hq2).trans d62
    have e63 := (hb8.cell (p := ⟨h6, 3, none⟩) hq2).trans d63
    have e64 := (hb8.cell (p := ⟨h6, 4, none⟩) hq2).trans d64
    have eK : wc.cell? ⟨w1.heap.size, j, none⟩ = some (.string u.K) := by rw [HKT.out]; exact (hb8.cell (p := ⟨w1.heap.size, j, none⟩) hq1).trans cK7
    have z8 := hb8.size
    have p6 : h6 < wc.heap.size := by omega
    have p1 : w1.heap.size < wc.heap.size := by omega
    have HW8 := Lib.hid (HW7.out.trans (hb8.mono HW7.out.size))
    have HE8 := Lib.hid he8
    clear hiu hlk2 n1 n2 u1 u2' d60 d61 d62 d63 d64 cK7 ca7 hb8 HE7 HW7 HL7 HZ7 HS7 hq0 hq1 hq2 hl8 HEa HEb HDR HDZ z8 hu2
    go_wp2_with fail
    have hd0 : Below wc.heap.size wc wc.drew := (Below.refl _ _).drew
    have he0 : ErrW wc.drew := HE8.out.below hd0
    clear he8
    refine wp_region_held_drew (S := fun w' => w'.cell? ⟨h6, 0, none⟩ = some (.string u.K) ∧ w'.cell? ⟨h6, 1, none⟩ = some (.int .i64 u.N) ∧ w'.cell? ⟨h6, 2, none⟩ = some (.int .u64 u.U) ∧ w'.cell? ⟨h6, 3, none⟩ = some (.float .f64 u.F) ∧ w'.cell? ⟨h6, 4, none⟩ = some (.string u.S) ∧ w'.cell? ⟨h8, 0, none⟩ = some (.string u2.K) ∧ w'.cell? ⟨h8, 1, none⟩ = some (.int .i64 u2.N) ∧ w'.cell? ⟨h8, 2, none⟩ = some (.int .u64 u2.U) ∧ w'.cell? ⟨h8, 3, none⟩ = some (.float .f64 u2.F) ∧ w'.cell? ⟨h8, 4, none⟩ = some (.string u2.S) ∧ w'.cell? ⟨w1.heap.size, j, none⟩ = some (.string u.K) ∧ h6 < w'.heap.size ∧ h8 < w'.heap.size ∧ w1.heap.size < w'.heap.size ∧ ErrW w' ∧ Below wc.heap.size wc w') (by kernel_rfl) ?_ (fun hHeld => ?_)
    · go_keep
    refine wpAnyH_take (i := 0) (v := ?v0) rfl (by kernel_rfl) (by kernel_rfl) (by kernel_rfl) (fun _ _ _ h => h) (Or.inl ⟨by rfl, ?hy0⟩) (by assumption) ?rest0
    case hy0 =>
      (intro w hSw; (try dsimp only at hSw); go_simp) <;> with_reducible rfl
    (try simp only [Act.put, List.getElem_toArray, List.getElem_cons_zero, List.getElem_cons_succ, List.setIfInBounds_toArray, List.set_cons_zero, List.set_cons_succ])
    refine wpAnyH_take (i := 1) (v := ?v1) rfl (by kernel_rfl) (by kernel_rfl) (by kernel_rfl) (fun _ _ _ h => h) (Or.inl ⟨by rfl, ?hy1⟩) (by assumption) ?rest1
    case hy1 =>
      (intro w hSw; (try dsimp only at hSw); go_simp) <;> with_reducible rfl
    (try simp only [Act.put, List.getElem_toArray, List.getElem_cons_zero, List.getElem_cons_succ, List.setIfInBounds_toArray, List.set_cons_zero, List.set_cons_succ])
    refine wpAnyH_take (i := 2) (v := ?v2) rfl (by kernel_rfl) (by kernel_rfl) (by kernel_rfl) (fun _ _ _ h => h) (Or.inl ⟨by rfl, ?hy2⟩) (by assumption) ?rest2
    case hy2 =>
      (intro w hSw; (try dsimp only at hSw); go_simp) <;> with_reducible rfl
    (try simp only [Act.put, List.getElem_toArray, List.getElem_cons_zero, List.getElem_cons_succ, List.setIfInBounds_toArray, List.set_cons_zero, List.set_cons_succ])
    refine wpAnyH_take (i := 3) (v := ?v3) rfl (by kernel_rfl) (by kernel_rfl) (by kernel_rfl) (fun _ _ _ h => h) (Or.inl ⟨by rfl, ?hy3⟩) (by assumption) ?rest3
    case hy3 =>
      (intro w hSw; (try dsimp only at hSw); go_simp) <;> with_reducible rfl
    (try simp only [Act.put, List.getElem_toArray, List.getElem_cons_zero, List.getElem_cons_succ, List.setIfInBounds_toArray, List.set_cons_zero, List.set_cons_succ])
    refine wpAnyH_take (i := 4) (v := ?v4) rfl (by kernel_rfl) (by kernel_rfl) (by kernel_rfl) (fun _ _ _ h => h) (Or.inl ⟨by rfl, ?hy4⟩) (by assumption) ?rest4
    case hy4 =>
      (intro w hSw; (try dsimp only at hSw); go_simp) <;> with_reducible rfl
    (try simp only [Act.put, List.getElem_toArray, List.getElem_cons_zero, List.getElem_cons_succ, List.setIfInBounds_toArray, List.set_cons_zero, List.set_cons_succ])
    refine wpAnyH_take (i := 5) (v := ?v5) rfl (by kernel_rfl) (by kernel_rfl) (by kernel_rfl) (fun _ _ _ h => h) (Or.inl ⟨by rfl, ?hy5⟩) (by assumption) ?rest5
    case hy5 =>
      (intro w hSw; (try dsimp only at hSw); go_simp) <;> with_reducible rfl
    (try simp only [Act.put, List.getElem_toArray, List.getElem_cons_zero, List.getElem_cons_succ, List.setIfInBounds_toArray, List.set_cons_zero, List.set_cons_succ])
    refine wpAnyH_take (i := 6) (v := ?v6) rfl (by kernel_rfl) (by kernel_rfl) (by kernel_rfl) (fun _ _ _ h => h) (Or.inl ⟨by rfl, ?hy6⟩) (by assumption) ?rest6
    case hy6 =>
      (intro w hSw; (try dsimp only at hSw); go_simp) <;> with_reducible rfl
    (try simp only [Act.put, List.getElem_toArray, List.getElem_cons_zero, List.getElem_cons_succ, List.setIfInBounds_toArray, List.set_cons_zero, List.set_cons_succ])
    refine wpAnyH_take (i := 7) (v := ?v7) rfl (by kernel_rfl) (by kernel_rfl) (by kernel_rfl) (fun _ _ _ h => h) (Or.inl ⟨by rfl, ?hy7⟩) (by assumption) ?rest7
    case hy7 =>
      (intro w hSw; (try dsimp only at hSw); go_simp) <;> with_reducible rfl
    (try simp only [Act.put, List.getElem_toArray, List.getElem_cons_zero, List.getElem_cons_succ, List.setIfInBounds_toArray, List.set_cons_zero, List.set_cons_succ])
    refine wpAnyH_take (i := 8) (v := ?v8) rfl (by kernel_rfl) (by kernel_rfl) (by kernel_rfl) (fun _ _ _ h => h) (Or.inl ⟨by rfl, ?hy8⟩) (by assumption) ?rest8
    case hy8 =>
      (intro w hSw; (try dsimp only at hSw); go_simp) <;> with_reducible rfl
    (try simp only [Act.put, List.getElem_toArray, List.getElem_cons_zero, List.getElem_cons_succ, List.setIfInBounds_toArray, List.set_cons_zero, List.set_cons_succ])
    refine wpAnyH_ready (rs := [9]) (by kernel_rfl) (by simp) ?_
    refine AllReadyH.cons rfl (fun K hK => ?_) AllReadyH.nil
    go_simp
    go_at_call 7
    with_reducible refine (valid_any u.K u.N u.U u.F u.S HN1.out HN2.out HU1.out HU2.out _).mono ?_
    rintro e w' ⟨b, rfl, hiff, hb⟩
    obtain rfl : b = true := hiff.2 ⟨u, HU.out, rfl, rfl, rfl, rfl, rfl⟩
    clear hiff
    go_wp2_with fail
    refine hK.out _ _ ?_ (fun hHeld1 => ?_)
    · (try dsimp only)
      exact keep_three hb hHeld
    clear hK K hHeld
    have hHeld := hHeld1
    clear hHeld1
    (try simp only [Act.put, List.getElem_toArray, List.getElem_cons_zero, List.getElem_cons_succ, List.setIfInBounds_toArray, List.set_cons_zero, List.set_cons_succ])
    refine wpAnyH_take (i := 10) (v := ?v10) rfl (by kernel_rfl) (by kernel_rfl) (by kernel_rfl) (fun _ _ _ h => h) (Or.inl ⟨by rfl, ?hy10⟩) (by assumption) ?rest10
    case hy10 =>
      (intro w hSw; (try dsimp only at hSw); go_simp) <;> with_reducible rfl
    (try simp only [Act.put, List.getElem_toArray, List.getElem_cons_zero, List.getElem_cons_succ, List.setIfInBounds_toArray, List.set_cons_zero, List.set_cons_succ])
    refine wpAnyH_take (i := 11) (v := ?v11) rfl (by kernel_rfl) (by kernel_rfl) (by kernel_rfl) (fun _ _ _ h => h) (Or.inl ⟨by rfl, ?hy11⟩) (by assumption) ?rest11
    case hy11 =>
      (intro w hSw; (try dsimp only at hSw); go_simp) <;> with_reducible rfl
    (try simp only [Act.put, List.getElem_toArray, List.getElem_cons_zero, List.getElem_cons_succ, List.setIfInBounds_toArray, List.set_cons_zero, List.set_cons_succ])
    refine wpAnyH_take (i := 12) (v := ?v12) rfl (by kernel_rfl) (by kernel_rfl) (by kernel_rfl) (fun _ _ _ h => h) (Or.inl ⟨by rfl, ?hy12⟩) (by assumption) ?rest12
    case hy12 =>
      (intro w hSw; (try dsimp only at hSw); go_simp) <;> with_reducible rfl
    (try simp only [Act.put, List.getElem_toArray, List.getElem_cons_zero, List.getElem_cons_succ, List.setIfInBounds_toArray, List.set_cons_zero, List.set_cons_succ])
    refine wpAnyH_take (i := 13) (v := ?v13) rfl (by kernel_rfl) (by kernel_rfl) (by kernel_rfl) (fun _ _ _ h => h) (Or.inl ⟨by rfl, ?hy13⟩) (by assumption) ?rest13
    case hy13 =>
      (intro w hSw; (try dsimp only at hSw); go_simp) <;> with_reducible rfl
    (try simp only [Act.put, List.getElem_toArray, List.getElem_cons_zero, List.getElem_cons_succ, List.setIfInBounds_toArray, List.set_cons_zero, List.set_cons_succ])
    refine wpAnyH_take (i := 14) (v := ?v14) rfl (by kernel_rfl) (by kernel_rfl) (by kernel_rfl) (fun _ _ _ h => h) (Or.inl ⟨by rfl, ?hy14⟩) (by assumption) ?rest14
    case hy14 =>
      (intro w hSw; (try dsimp only at hSw); go_simp) <;> with_reducible rfl
    (try simp only [Act.put, List.getElem_toArray, List.getElem_cons_zero, List.getElem_cons_succ, List.setIfInBounds_toArray, List.set_cons_zero, List.set_cons_succ])
    refine wpAnyH_take (i := 15) (v := ?v15) rfl (by kernel_rfl) (by kernel_rfl) (by kernel_rfl) (fun _ _ _ h => h) (Or.inl ⟨by rfl, ?hy15⟩) (by assumption) ?rest15
    case hy15 =>
      (intro w hSw; (try dsimp only at hSw); go_simp) <;> with_reducible rfl
    (try simp only [Act.put, List.getElem_toArray, List.getElem_cons_zero, List.getElem_cons_succ, List.setIfInBounds_toArray, List.set_cons_zero, List.set_cons_succ])
    refine wpAnyH_take (i := 16) (v := ?v16) rfl (by kernel_rfl) (by kernel_rfl) (by kernel_rfl) (fun _ _ _ h => h) (Or.inl ⟨by rfl, ?hy16⟩) (by assumption) ?rest16
    case hy16 =>
      (intro w hSw; (try dsimp only at hSw); go_simp) <;> with_reducible rfl
    (try simp only [Act.put, List.getElem_toArray, List.getElem_cons_zero, List.getElem_cons_succ, List.setIfInBounds_toArray, List.set_cons_zero, List.set_cons_succ])
    refine wpAnyH_take (i := 17) (v := ?v17) rfl (by kernel_rfl) (by kernel_rfl) (by kernel_rfl) (fun _ _ _ h => h) (Or.inl ⟨by rfl, ?hy17⟩) (by assumption) ?rest17
    case hy17 =>
      (intro w hSw; (try dsimp only at hSw); go_simp) <;> with_reducible rfl
    (try simp only [Act.put, List.getElem_toArray, List.getElem_cons_zero, List.getElem_cons_succ, List.setIfInBounds_toArray, List.set_cons_zero, List.set_cons_succ])
    refine wpAnyH_ready (rs := [18]) (by kernel_rfl) (by simp) ?_
    refine AllReadyH.cons rfl (fun K hK => ?_) AllReadyH.nil
    go_simp
    go_at_call 12
    with_reducible refine (same_any u2 u HLK.out.K HLK.out.N HLK.out.U HLK.out.F HLK.out.S _).mono ?_
    rintro e w' ⟨rfl, hb⟩
    go_wp2_with fail
    refine hK.out _ _ ?_ (fun hHeld1 => ?_)
    · (try dsimp only)
      exact keep_three hb hHeld
    clear hK K hHeld
    have hHeld := hHeld1
    clear hHeld1
    (try simp only [Act.put, List.getElem_toArray, List.getElem_cons_zero, List.getElem_cons_succ, List.setIfInBounds_toArray, List.set_cons_zero, List.set_cons_succ])
    refine wpAnyH_take (i := 19) (v := ?v19) rfl (by kernel_rfl) (by kernel_rfl) (by kernel_rfl) (fun _ _ _ h => h) (Or.inl ⟨by rfl, ?hy19⟩) (by assumption) ?rest19
    case hy19 =>
      (intro w hSw; (try dsimp only at hSw); go_simp) <;> with_reducible rfl
    (try simp only [Act.put, List.getElem_toArray, List.getElem_cons_zero, List.getElem_cons_succ, List.setIfInBounds_toArray, List.set_cons_zero, List.set_cons_succ])
    refine wpAnyH_take (i := 20) (v := ?v20) rfl (by kernel_rfl) (by kernel_rfl) (by kernel_rfl) (fun _ _ _ h => h) (Or.inl ⟨by rfl, ?hy20⟩) (by assumption) ?rest20
    case hy20 =>
      (intro w hSw; (try dsimp only at hSw); go_simp) <;> with_reducible rfl
    (try simp only [Act.put, List.getElem_toArray, List.getElem_cons_zero, List.getElem_cons_succ, List.setIfInBounds_toArray, List.set_cons_zero, List.set_cons_succ])
    refine wpAnyH_ready (rs := [21]) (by kernel_rfl) (by simp) ?_
    refine AllReadyH.cons rfl (fun K hK => ?_) AllReadyH.nil
    go_simp
    go_at_call 8
    with_reducible refine (checks_any _ (three_err hHeld)).mono ?_
    rintro e w' ⟨rfl, hb⟩
    go_wp2_with fail
    refine hK.out _ _ ?_ (fun hHeld1 => ?_)
    · (try dsimp only)
      exact keep_three hb hHeld
    clear hK K hHeld
    have hHeld := hHeld1
    clear hHeld1
    (try simp only [Act.put, List.getElem_toArray, List.getElem_cons_zero, List.getElem_cons_succ, List.setIfInBounds_toArray, List.set_cons_zero, List.set_cons_succ])
    refine wpAnyH_take (i := 22) (v := ?v22) rfl (by kernel_rfl) (by kernel_rfl) (by kernel_rfl) (fun _ _ _ h => h) (Or.inl ⟨by rfl, ?hy22⟩) (by assumption) ?rest22
    case hy22 =>
      (intro w hSw; (try dsimp only at hSw); go_simp) <;> with_reducible rfl
    (try simp only [Act.put, List.getElem_toArray, List.getElem_cons_zero, List.getElem_cons_succ, List.setIfInBounds_toArray, List.set_cons_zero, List.set_cons_succ])
    refine wpAnyH_take (i := 23) (v := ?v23) rfl (by kernel_rfl) (by kernel_rfl) (by kernel_rfl) (fun _ _ _ h => h) (Or.inl ⟨by rfl, ?hy23⟩) (by assumption) ?rest23
    case hy23 =>
      (intro w hSw; (try dsimp only at hSw); go_simp) <;> with_reducible rfl
    (try simp only [Act.put, List.getElem_toArray, List.getElem_cons_zero, List.getElem_cons_succ, List.setIfInBounds_toArray, List.set_cons_zero, List.set_cons_succ])
    refine wpAnyH_done (by kernel_rfl) ?_ _
    go_wp2
    go_ret
    exact ⟨rfl, HW8.out.trans ((three_below (by assumption)).mono HW8.out.size)⟩
end Go.Proofs.YtdhnhgcdajlpjaaDoor
