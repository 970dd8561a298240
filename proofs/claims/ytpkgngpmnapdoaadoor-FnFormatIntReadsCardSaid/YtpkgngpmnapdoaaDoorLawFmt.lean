/- FnFormatIntReads: the walk of the law. For every Value and base. -/
import Derived.Deep.RegionWith
import Derived.Deep.CutRange
import Derived.Deep.QuietTactic
import Derived.BigQuiet
import Derived.LoopTactic
import Derived.Test.YtpkgngpmnapdoaaDoorFmtAt
namespace Go.Proofs.YtpkgngpmnapdoaaDoor
open Go.RowKit
set_option linter.unusedVariables false
set_option linter.unusedSimpArgs false
set_option maxRecDepth 100000
attribute [local go_sem] store_flt

def LawPost (w : World) (e : Ending) (w' : World) : Prop := e = .returned (.bool true) ∧ Below w.heap.size w w'
/-- Behind a call of impl.FormatInt: where its answer lies. -/
def Text (t : ByteArray) (w0 : World) (s7 s8 : Value) (wx : World) : Prop :=
  ∃ h : Nat, s7 = .pointer (some ⟨h, 0, none⟩) ∧ s8 = .int .i64 0 ∧ (wx.cell? ⟨h, 0, none⟩ = some (.string ⟨#[115, 116, 114, 105, 110, 103]⟩) ∧ wx.cell? ⟨h, 4, none⟩ = some (.string t)) ∧ h < wx.heap.size ∧ Below w0.heap.size w0 wx
theorem text {t : ByteArray} {w0 : World} {s7 s8 : Value} {wx : World} {h : Nat} (e7 : s7 = .pointer (some ⟨h, 0, none⟩)) (e8 : s8 = .int .i64 0) (hc : wx.cell? ⟨h, 0, none⟩ = some (.string ⟨#[115, 116, 114, 105, 110, 103]⟩) ∧ wx.cell? ⟨h, 4, none⟩ = some (.string t)) (hl : h < wx.heap.size) (hb : Below w0.heap.size w0 wx) : Text t w0 s7 s8 wx := ⟨h, e7, e8, hc, hl, hb⟩
theorem ifi_num (b : Nat) (hb2 : 2 ≤ b) (hb36 : b ≤ 36) (k : IntKind) (n : Int) (hv : (V.int k n).ok) (w : World) (hT : FmtW w) : Calls Tryd.prog 26 #[.agg #[.string (V.int k n).K, .int .i64 (V.int k n).N, .int .u64 (V.int k n).U, .float .f64 (V.int k n).F, .string (V.int k n).S], .agg #[.string ⟨#[105, 110, 116, 54, 52]⟩, .int .i64 (b : Int), .int .u64 0, .float .f64 0, .string ⟨#[]⟩]] w (ToldPost (.str (txt b n)) w) := ifi_any b hb2 hb36 k n hv w hT
theorem int_N (kd : IntKind) (m : Int) (h : (V.int kd m).ok) : -9223372036854775808 ≤ (V.int kd m).N ∧ (V.int kd m).N ≤ 9223372036854775807 := by cases kd <;> simp only [V.ok, V.N] at h ⊢ <;> omega
theorem int_range (kd : IntKind) (m : Int) (h : (V.int kd m).ok) : -9223372036854775808 ≤ m ∧ m ≤ 18446744073709551615 := by cases kd <;> simp only [V.ok] at h <;> omega
set_option maxHeartbeats 4000000 in
theorem walk_fmt (k : ByteArray) (n u : Int) (f : Nat) (s : ByteArray)
    (a1 : -9223372036854775808 ≤ n) (a2 : n ≤ 9223372036854775807) (a3 : 0 ≤ u) (a4 : u ≤ 18446744073709551615) (base : Int) (w : World) (hT : FmtW w) :
    Calls Tryd.prog 8 #[.agg #[.string k, .int .i64 n, .int .u64 u, .float .f64 f, .string s], .int .i64 base] w (LawPost w) := by
  have A1 := Lib.hid a1
  have A2 := Lib.hid a2
  have A3 := Lib.hid a3
  have A4 := Lib.hid a4
  clear a1 a2 a3 a4
  go_enter Tryd.func8, Tryd.ntmps8
  have B0 : Below w.heap.size w (w.alloc (.cells #[.string k, .int .i64 n, .int .u64 u, .float .f64 f, .string s] 25)) := (Below.refl _ _).alloc (Nat.le_refl _) _
  have HT0 := Lib.hid (hT.below B0)
  have HB0 := Lib.hid B0
  clear hT B0
  go_wp2_with fail
  refine (fits_any _ _ _ _ _ _).mono ?_
  rintro e w1 ⟨b1, rfl, hb1⟩
  have W1 := hb1
  clear hb1
  have HT1 := Lib.hid (HT0.out.below W1)
  clear HT0
  have ca := one_cells W1
  cases b1 with
  | false =>
    have HW := Lib.hid (HB0.out.trans (W1.mono HB0.out.size))
    clear W1
    go_wp2
    go_ret
    exact ⟨rfl, HW.out⟩
  | true =>
  go_wp2_with fail
  refine (num_any (-42) _).mono ?_
  rintro e w2 ⟨rfl, hb2⟩
  have W2 := W1.trans (hb2.mono W1.size)
  have HT2 := Lib.hid (HT1.out.below hb2)
  clear HT1 W1 hb2 ca
  have ca := one_cells W2
  go_wp2_with fail
  refine (num_any 10 _).mono ?_
  rintro e w3 ⟨rfl, hb3⟩
  have W3 := W2.trans (hb3.mono W2.size)
  have HT3 := Lib.hid (HT2.out.below hb3)
  clear HT2 W2 hb3 ca
  have ca := one_cells W3
  go_wp2_with fail
  refine (ifi_42 _ HT3.out).mono ?_
  rintro e w4 ⟨rfl, hb4⟩
  have W4 := W3.trans (hb4.mono W3.size)
  have HT4 := Lib.hid (HT3.out.below hb4)
  clear HT3 W3 hb4 ca
  have ca := one_cells W4
  have q4 : w.heap.size < w4.heap.size := by have := W4.size; simp at this; omega
  go_wp2_with fail
  refine (isInteger_any _ _ _ _ _ A1.out A2.out A3.out A4.out _).mono ?_
  rintro e w5 ⟨b5, rfl, hi, hb5⟩
  have HI := Lib.hid hi
  have P4 : Below w4.heap.size w4 (w4.alloc (.cells #[.string (V.str ⟨#[45, 52, 50]⟩).K, .int .i64 (V.str ⟨#[45, 52, 50]⟩).N, .int .u64 (V.str ⟨#[45, 52, 50]⟩).U, .float .f64 (V.str ⟨#[45, 52, 50]⟩).F, .string (V.str ⟨#[45, 52, 50]⟩).S] 25)) := (Below.refl _ _).alloc (Nat.le_refl _) _
  have P5 := P4.trans (hb5.mono P4.size)
  have W5 := W4.trans (P5.mono W4.size)
  have HT5 := Lib.hid (HT4.out.below P5)
  have c54 : w5.cell? ⟨w4.heap.size, 4, none⟩ = some (.string ⟨#[45, 52, 50]⟩) := by
    rw [hb5.cell (p := ⟨w4.heap.size, 4, none⟩) (by simp), new_cell]
    rfl
  have q5 : w4.heap.size < w5.heap.size := by have := hb5.size; simp at this; omega
  have q5' : w.heap.size < w5.heap.size := by omega
  clear HT4 W4 hb5 ca hi P4 P5 q4
  have ca := one_cells W5
  have HW5 := Lib.hid (HB0.out.trans (W5.mono HB0.out.size))
  clear W5
  cases b5 with
  | false =>
    go_wp2
    go_ret
    exact ⟨rfl, HW5.out⟩
  | true =>
  obtain ⟨kd, m, hv, rfl, rfl, rfl, rfl, rfl⟩ := HI.out (by trivial)
  have HV := Lib.hid hv
  clear HI hv A1 A2 A3 A4 HB0
  by_cases h2 : base < 2
  · go_wp2
    go_ret
    exact ⟨rfl, HW5.out⟩
  by_cases h36 : 36 < base
  · go_wp2
    go_ret
    exact ⟨rfl, HW5.out⟩
  obtain ⟨b, rfl⟩ := Int.eq_ofNat_of_zero_le (show 0 ≤ base by omega)
  have hb2 : 2 ≤ b := by omega
  have hb36 : b ≤ 36 := by omega
  have HB2 := Lib.hid hb2
  have HB36 := Lib.hid hb36
  clear hb2 hb36
  have q5a : w.heap.size < w5.heap.size + 1 := by omega
  have q5b : w.heap.size ≤ w5.heap.size := by omega
  have q5c : ¬ w.heap.size = w5.heap.size := by omega
  go_upto_region 6 with fail
  have DR : Below w5.heap.size w5 w5.drew := (Below.refl _ _).drew
  have DZ : Below w5.heap.size w5 (w5.alloc (.cells #[.string ⟨#[]⟩, .int .i64 0, .int .u64 0, .float .f64 0, .string ⟨#[]⟩] 25)).drew := ((Below.refl _ _).alloc (Nat.le_refl _) _).drew
  have HDR := Lib.hid DR
  have HDZ := Lib.hid DZ
  clear DR DZ
  go_cut [7, 8] from 42 to 48 (fun s7 s8 wx => Text (txt b m) w5 s7 s8 wx)
  case first =>
    go_region_with (first | (go_at_call 11; (with_reducible refine (num_any (b : Int) _).mono ?_); rintro e w6 ⟨rfl, hb6⟩; (first | have HB6 := Lib.hid (HDR.out.trans (hb6.mono HDR.out.size)) | have HB6 := Lib.hid (HDZ.out.trans (hb6.mono HDZ.out.size))); have HT6 := Lib.hid (HT5.out.below HB6.out); have ca6 : ∀ j, w6.cell? ⟨w.heap.size, j, none⟩ = (#[.string (V.int kd m).K, .int .i64 (V.int kd m).N, .int .u64 (V.int kd m).U, .float .f64 (V.int kd m).F, .string (V.int kd m).S] : Array Value)[j]? := (fun j => (HB6.out.cell (p := ⟨w.heap.size, j, none⟩) q5').trans (ca j)); have z6 := hb6.size; (try simp at z6); (try (have q6 : w5.heap.size < w6.heap.size := (by omega))); have q6' : w.heap.size < w6.heap.size := (by omega); have q6a : ¬ w.heap.size = w6.heap.size := (by omega); obtain ⟨hc6, hf6⟩ := bcell hb6; clear hb6) | (go_at_call 26; (with_reducible refine (ifi_num b HB2.out HB36.out kd m HV.out _ (by first | exact HT6.out | exact HT6.out.below ((Below.refl _ _).alloc (Nat.le_refl _) _))).mono ?_); rintro e w7 ⟨rfl, hb7⟩; have z6' := HB6.out.size; (first | have HB7 := Lib.hid (HB6.out.trans (hb7.mono HB6.out.size)) | have HB7 := Lib.hid ((HB6.out.alloc z6' _).trans (hb7.mono (by first | omega | (simp; done) | (simp; omega))))); have z7 := hb7.size; (try simp at z7); (try (have q7 : w6.heap.size < w7.heap.size := (by omega))); obtain ⟨hc7, hf7⟩ := bcell hb7))
    all_goals (go_wp2_with fail; go_meet; exact text rfl rfl (by first | (simp [go_sem, V.K, V.S]; done) | (simp [go_sem, V.K, V.S, hc7]; done) | (simp [go_sem, V.K, V.S, hc7, q7]; done) | (simp [go_sem, V.K, V.S, hc7, hc6, q6]; done)) (by first | omega | (simp; done) | (simp; omega)) (by repeat (first | exact HB7.out | refine Below.setCell ?_ (by first | omega | (simp; done) | (simp; omega)) _ | refine Below.alloc ?_ (by first | omega | (simp; done) | (simp; omega)) _)))
  case rest =>
  obtain ⟨h, rfl, rfl, ⟨c70, c74⟩, hl7, hb7⟩ := hcut
  have ca7 : ∀ j, wc.cell? ⟨w.heap.size, j, none⟩ = (#[.string (V.int kd m).K, .int .i64 (V.int kd m).N, .int .u64 (V.int kd m).U, .float .f64 (V.int kd m).F, .string (V.int kd m).S] : Array Value)[j]? := fun j => (hb7.cell (p := ⟨w.heap.size, j, none⟩) q5').trans (ca j)
  have c57 : wc.cell? ⟨w4.heap.size, 4, none⟩ = some (.string ⟨#[45, 52, 50]⟩) := (hb7.cell (p := ⟨w4.heap.size, 4, none⟩) q5).trans c54
  have HW7 := Lib.hid (HW5.out.trans (hb7.mono HW5.out.size))
  clear ca c54 HW5 hb7 hl7 q5 q5' q5a q5b q5c HT5 HDR HDZ
  obtain ⟨m1, m2⟩ := int_range kd m HV.out
  obtain ⟨z1, z2⟩ := txt_size b HB2.out m m1 m2
  obtain ⟨c, hix, hc⟩ := first_at b HB2.out HB36.out m
  have zne : ¬ txt b m = ByteArray.empty := fun hq => by rw [hq] at z1; exact absurd z1 (by decide)
  have z0 : (((txt b m).size : Int) == 0) = false := by simp; exact zne
  have z70 : ((txt b m).size : Int) ≤ 70 := by omega
  obtain ⟨DS, R, htl, hnt, hp, hmx, hR0, hRn, hRle, hdg⟩ := loop_facts b HB2.out HB36.out m m1 m2
  have HNT := Lib.hid hnt
  clear hnt
  go_upto_if 73 with fail
  go_cut [9, 10] from 68 to 75 (fun s9 s10 wx => s9 = .string DS ∧ s10 = .bool (decide (m < 0)) ∧ wx = wc)
  case first =>
    by_cases hm : m < 0
    · have htl' := htl hm
      have hdm : decide (m < 0) = true := by simp [hm]
      go_wp2_with fail
      go_meet
      exact ⟨rfl, congrArg Value.bool hdm.symm, rfl⟩
    · have hdm : decide (m < 0) = false := by simp [hm]
      go_wp2_with fail
      go_meet
      exact ⟨by rw [HNT.out hm], congrArg Value.bool hdm.symm, rfl⟩
  case rest =>
  obtain ⟨rfl, rfl, hw⟩ := hcut
  subst hw
  have HDG := Lib.hid hdg
  have HRLE := Lib.hid hRle
  have hwb : IntKind.u64.wrap (b : Int) = (b : Int) := IntWalk.u64_in _ ⟨by omega, by omega⟩
  clear htl hdg hRle zne z0 z70 z1 z2 hix hc c70 c74
  go_wp2
  go_loop [11, 12] (fun n i => ∃ k : Nat, k ≤ DS.size ∧ n = .int .u64 (R k : Int) ∧ i = .int .i64 (k : Int)) (fun n i => DS.size - (intOf i).toNat)
  case atStart => exact ⟨0, Nat.zero_le _, by rw [hR0]; rfl, rfl⟩
  case round =>
    obtain ⟨k, hk, rfl, rfl⟩ := hrel
    by_cases hlt : k < DS.size
    · obtain ⟨c, d, hcv, hd, h0, hR1, hc⟩ := HDG.out k hlt
      have hle := HRLE.out (k + 1)
      obtain ⟨x, hx⟩ : ∃ x, x = R k * b := ⟨_, rfl⟩
      have hm1 : m.natAbs < 18446744073709551616 := by omega
      have hlt' : (k : Int) < (DS.size : Int) := by omega
      have hw1 : IntKind.u64.wrap ((R k : Int) * (b : Int)) = (x : Int) := by rw [← Int.natCast_mul, ← hx, IntKind.wrap_u64]; omega
      have hw2 : IntKind.u64.wrap ((x : Int) + (d : Int)) = ((R (k + 1) : Nat) : Int) := by rw [hR1, ← hx, IntKind.wrap_u64]; omega
      have hwd : IntKind.u64.wrap (d : Int) = (d : Int) := IntWalk.u64_in _ ⟨by omega, by omega⟩
      have hdb : ¬ (b : Int) ≤ (d : Int) := by omega
      have hwi : IntKind.i64.wrap ((k : Int) + 1) = ((k + 1 : Nat) : Int) := by rw [IntKind.wrap_i64]; omega
      clear hR1 hle hx hd
      rcases hc with ⟨c2, hcd⟩ | ⟨c2, c3, c4, hcd, h10⟩
      · have e1 : (c : Int) - 48 = (d : Int) := by omega
        have f1 : (48 : Int) ≤ (c : Int) := by omega
        have f2 : (c : Int) ≤ 57 := by omega
        have w1 : IntKind.u8.wrap (d : Int) = (d : Int) := IntWalk.u8_in _ ⟨by omega, by omega⟩
        clear hcd c2
        by_cases hk0 : k = 0
        · have HK0 := Lib.hid hk0
          have hkb : ((k : Int) == 0) = true := by simp [hk0]
          by_cases hd0 : d = 0
          · have h1 : ¬ (1 : Int) < (DS.size : Int) := by have := h0 hk0 hd0; omega
            have HD0 := Lib.hid hd0
            have hdb0 : ((d : Int) == 0) = true := by simp [hd0]
            clear h0 hk0 hd0
            go_wp2
            go_round
            case rel => exact ⟨k + 1, by omega, rfl, by go_num⟩
            case measure => simp [intOf]; omega
          · have hdb0 : ((d : Int) == 0) = false := by simp; omega
            clear h0 hk0
            go_wp2
            go_round
            case rel => exact ⟨k + 1, by omega, rfl, by go_num⟩
            case measure => simp [intOf]; omega
        · have hkb : ((k : Int) == 0) = false := by simp; omega
          clear h0
          go_wp2
          go_round
          case rel => exact ⟨k + 1, by omega, rfl, by go_num⟩
          case measure => simp [intOf]; omega
      · have e1 : (c : Int) - 97 = (((d - 10 : Nat) : Nat) : Int) := by omega
        obtain ⟨e, he⟩ : ∃ e, e = d - 10 := ⟨_, rfl⟩
        rw [← he] at e1
        have e2 : (e : Int) + 10 = (d : Int) := by omega
        have f1 : (48 : Int) ≤ (c : Int) := by omega
        have f2 : ¬ (c : Int) ≤ 57 := by omega
        have f3 : (97 : Int) ≤ (c : Int) := by omega
        have f4 : (c : Int) ≤ 122 := by omega
        have w1 : IntKind.u8.wrap (e : Int) = (e : Int) := IntWalk.u8_in _ ⟨by omega, by omega⟩
        have w2 : IntKind.u64.wrap (e : Int) = (e : Int) := IntWalk.u64_in _ ⟨by omega, by omega⟩
        clear hcd c2 c3 c4 h10 he
        by_cases hk0 : k = 0
        · have HK0 := Lib.hid hk0
          have hkb : ((k : Int) == 0) = true := by simp [hk0]
          by_cases hd0 : d = 0
          · have h1 : ¬ (1 : Int) < (DS.size : Int) := by have := h0 hk0 hd0; omega
            have HD0 := Lib.hid hd0
            have hdb0 : ((d : Int) == 0) = true := by simp [hd0]
            clear h0 hk0 hd0
            go_wp2
            go_round
            case rel => exact ⟨k + 1, by omega, rfl, by go_num⟩
            case measure => simp [intOf]; omega
          · have hdb0 : ((d : Int) == 0) = false := by simp; omega
            clear h0 hk0
            go_wp2
            go_round
            case rel => exact ⟨k + 1, by omega, rfl, by go_num⟩
            case measure => simp [intOf]; omega
        · have hkb : ((k : Int) == 0) = false := by simp; omega
          clear h0
          go_wp2
          go_round
          case rel => exact ⟨k + 1, by omega, rfl, by go_num⟩
          case measure => simp [intOf]; omega
    · obtain rfl : k = DS.size := by omega
      have hst : ¬ ((DS.size : Nat) : Int) < (DS.size : Int) := by omega
      rw [hRn]
      clear hlt hk
      have hde : ¬ DS.size = 0 := by omega
      have hdl : DS.toList.isEmpty = false := by
        rw [ByteArray.toList_eq]
        cases hq : DS.data.toList with
        | nil =>
          have h3 : DS.data.toList.length = DS.size := by rw [Array.length_toList]; rfl
          rw [hq] at h3
          exact absurd h3.symm hde
        | cons a l => rfl
      obtain ⟨n1, n2⟩ := int_N kd m HV.out
      have HS := Lib.hid (size_any (V.int kd m).N n1 n2)
      have hor := int_or kd m HV.out
      have hng := int_negs kd m HV.out
      clear n1 n2 hR0 hRn hst hp hmx
      go_upto_region 26 with fail
      by_cases hm : m < 0
      · have hdm : decide (m < 0) = true := by simp [hm]
        have hdn : decide ((V.int kd m).N < 0) = true := by simp [hng, hm]
        clear hng
        go_quiet ((go_at_call 27; exact Calls.quiet_of_same (HS.out _)))
        go_wp2
        go_ret
        exact ⟨rfl, below_drewN HW7.out _⟩
      · have hdm : decide (m < 0) = false := by simp [hm]
        have hdn : decide ((V.int kd m).N < 0) = false := by simp [hng, hm]
        clear hng
        go_quiet ((go_at_call 27; exact Calls.quiet_of_same (HS.out _)))
        go_wp2
        go_ret
        exact ⟨rfl, below_drewN HW7.out _⟩
end Go.Proofs.YtpkgngpmnapdoaaDoor
