/- What laws.valid answers, for every Value: float32; all kinds together; laws.concrete. -/
import Derived.Test.YtpkgngpmnapdoaaDoorIn
import Derived.Deep.RegionHeld3
import Derived.Test.YtpkgngpmnapdoaaDoorValid2
namespace Go.Proofs.YtpkgngpmnapdoaaDoor
open Go.RowKit
set_option linter.unusedVariables false
set_option linter.unusedSimpArgs false
set_option maxRecDepth 100000

def convN (s k : FloatKind) (b : Nat) : Nat := if floatToFloatBits s b k = none then 1 else 0
def convV (s k : FloatKind) (b : Nat) (w : World) : Nat := match floatToFloatBits s b k with
  | some r => r
  | none => if nanK s b then nanOf k b w else overOf b w
theorem run_conv_any {P : Program} (src dst : TypeId) (s k : FloatKind) (hs : (P.underlying src).isSome = true) (hd : P.underlying dst = some (.float k)) (hne : s ≠ k) (b : Nat) (w : World) :
    (convert src dst (.float s b)).run P w = .ok (.float k (convV s k b w)) (w.drewN (convN s k b)) := by
  cases e : floatToFloatBits s b k with
  | some r =>
    rw [run_convert_float_float (P := P) w src dst s k b r hs hd e]
    simp only [convV, convN, e]
    rfl
  | none =>
    cases hn : nanK s b with
    | true =>
      rw [run_conv_nan src dst s k b hs hd hne hn]
      simp only [convV, convN, e, hn]
      rfl
    | false =>
      rw [run_conv_over src dst s k b hs hd hne hn e]
      simp only [convV, convN, e, hn]
      rfl
theorem conv_not_nan {b r : Nat} (h : floatToFloatBits .f64 b .f32 = some r) : nanK .f32 r = false ∧ r < 2 ^ 32 := by
  have ne : FloatKind.f64 ≠ FloatKind.f32 := by decide
  cases e : FloatKind.f64.format.read b with
  | number neg m p =>
    rw [conv_number ne e] at h
    split at h
    · cases h
    · cases h
      have hlt : FloatKind.f32.format.nearest neg m p < 2 ^ 32 := Ieee.single.nearest_lt neg m p
      refine ⟨?_, hlt⟩
      rcases word_cases Ieee.single (FloatKind.f32.format.nearest neg m p) hlt with ⟨ng, M, j, h1, h2, h3, h4⟩ | ⟨ng, h4⟩ | ⟨ng, R, h1, h2, h4⟩
      · exact nanK_number (k := .f32) (by rw [h4]; exact read_word Ieee.single ng M j h1 h2 h3)
      · exact nanK_inf (k := .f32) (by rw [h4]; exact read_inf .f32 ng)
      · exfalso
        have : ∃ (n2 : Bool) (R2 : Nat), R2 ≤ Ieee.single.infRung ∧ FloatKind.f32.format.nearest neg m p = Ieee.single.word n2 R2 := by
          show ∃ (n2 : Bool) (R2 : Nat), R2 ≤ Ieee.single.infRung ∧ Ieee.single.nearest neg m p = Ieee.single.word n2 R2
          unfold Ieee.Format.nearest
          dsimp only
          split
          · exact ⟨_, _, Nat.zero_le _, rfl⟩
          · exact ⟨_, _, Nat.min_le_right _ _, rfl⟩
        obtain ⟨n2, R2, h5, h6⟩ := this
        rw [h6] at h4
        have e1 := (word_div Ieee.single n2 (R := R2) (Nat.lt_of_le_of_lt h5 Ieee.single.infRung_lt)).2
        have e2 := (word_div Ieee.single ng h2).2
        rw [h4, e2] at e1
        omega
  | infinity neg =>
    rw [conv_inf ne e] at h
    cases h
    exact ⟨nanK_inf (k := .f32) (read_inf .f32 neg), Ieee.single.word_lt neg Ieee.single.infRung_lt⟩
  | nan neg fr =>
    rw [conv_nan ne e] at h
    cases h
theorem conv_one : floatToFloatBits .f64 1 .f32 = some 0 := by decide +kernel
theorem bits_nan {f : Nat} (h : nanK .f64 f = true) : bitsB f = 1 := by unfold bitsB; rw [nan64_eq, h]; rfl
theorem bits_num {f : Nat} (h : nanK .f64 f = false) : bitsB f = f := by unfold bitsB; rw [nan64_eq, h]; rfl
/-- There and back is the same float exactly where a float32 has it (or it is no number). -/
theorem conv_back (f : Nat) (W1 W2 : World) : bitsB (convV .f32 .f64 (convV .f64 .f32 f W1) W2) = bitsB f ↔ F32ok f := by
  have ne1 : FloatKind.f64 ≠ FloatKind.f32 := by decide
  have ne2 : FloatKind.f32 ≠ FloatKind.f64 := by decide
  have nanwide : ∀ r W, nanK .f32 r = true → bitsB (convV .f32 .f64 r W) = 1 := fun r W hr => by
    obtain ⟨neg, fr, he⟩ := decode_nan hr
    have : floatToFloatBits .f32 r .f64 = none := conv_nan ne2 he
    unfold convV
    rw [this]
    simp only [hr, if_true]
    exact bits_nan (nanOf_nan .f64 r W).1
  cases hn : nanK .f64 f with
  | true =>
    obtain ⟨neg, fr, he⟩ := decode_nan hn
    have h1 : floatToFloatBits .f64 f .f32 = none := conv_nan ne1 he
    have h2 : convV .f64 .f32 f W1 = nanOf .f32 f W1 := by unfold convV; rw [h1]; simp only [hn, if_true]
    rw [h2, nanwide _ _ (nanOf_nan .f32 f W1).1, bits_nan hn]
    exact ⟨fun _ => .inl hn, fun _ => rfl⟩
  | false =>
    cases e : floatToFloatBits .f64 f .f32 with
    | some r =>
      obtain ⟨hr, hlt⟩ := conv_not_nan e
      obtain ⟨d, hd, hdn, _⟩ := f32_wide hlt hr
      have h2 : convV .f64 .f32 f W1 = r := by unfold convV; rw [e]
      have h3 : convV .f32 .f64 r W2 = d := by unfold convV; rw [hd]
      rw [h2, h3, bits_num hdn, bits_num hn]
      constructor
      · rintro rfl
        exact .inr ⟨r, e, hd⟩
      · rintro (h | ⟨r', h4, h5⟩)
        · rw [nan64_eq, hn] at h; cases h
        · rw [e] at h4
          cases h4
          rw [hd] at h5
          exact Option.some.inj h5
    | none =>
      have h2 : convV .f64 .f32 f W1 = overOf f W1 := by unfold convV; rw [e]; simp only [hn]; rfl
      have hno : ¬ F32ok f := by
        rintro (h | ⟨r', h4, _⟩)
        · rw [nan64_eq, hn] at h; cases h
        · rw [e] at h4; cases h4
      refine ⟨fun h => ?_, fun h => absurd h hno⟩
      rw [h2, bits_num hn] at h
      cases hr : nanK .f32 (overOf f W1) with
      | true =>
        rw [nanwide _ _ hr] at h
        subst h
        rw [conv_one] at e
        cases e
      | false =>
        obtain ⟨d, hd, hdn, hback⟩ := f32_wide (overOf_lt f W1) hr
        have h3 : convV .f32 .f64 (overOf f W1) W2 = d := by unfold convV; rw [hd]
        rw [h3, bits_num hdn] at h
        subst h
        rw [hback] at e
        cases e
theorem viff_float32 (f : Nat) (b : Bool) (h : b = true ↔ F32ok f) : VIff b ⟨#[102, 108, 111, 97, 116, 51, 50]⟩ 0 0 f ⟨#[]⟩ := by
  unfold VIff
  rw [h]
  constructor
  · intro hf
    exact ⟨.flt .f32 f, hf, rfl, rfl, rfl, rfl, rfl⟩
  · rintro ⟨v, ho, hk, hn, hu, hf, hs⟩
    obtain ⟨a, rfl⟩ := inv_float32 hk
    simp only [V.F] at hf
    subst hf
    exact ho
set_option maxRecDepth 100000 in
set_option maxHeartbeats 4000000 in
theorem valid_float32_f (f : Nat) (w : World) : Calls Tryd.prog 19 #[.agg #[.string ⟨#[102, 108, 111, 97, 116, 51, 50]⟩, .int .i64 0, .int .u64 0, .float .f64 f, .string ⟨#[]⟩]] w (ValidPost ⟨#[102, 108, 111, 97, 116, 51, 50]⟩ 0 0 f ⟨#[]⟩ w) := by
  have hc1 := fun W => run_conv_any (P := Tryd.prog) 23 68 .f64 .f32 rfl rfl (by decide) f W
  have hc2 := fun r W => run_conv_any (P := Tryd.prog) 68 23 .f32 .f64 rfl rfl (by decide) r W
  go_enter Tryd.func19, Tryd.ntmps19
  go_wp2_with (first | (go_at_call 22; refine (width_float32 _).mono ?_; rintro e w' ⟨rfl, rfl⟩) | (go_at_call 39; refine (isFloat_float32 _).mono ?_; rintro e w' ⟨rfl, rfl⟩))
  go_region_with (go_at_call 35; refine (bits_any _ _).mono ?_; rintro e w' ⟨rfl, rfl⟩)
  all_goals go_wp2
  all_goals go_ret
  all_goals exact valid_post rfl (by repeat (first | exact Below.refl _ _ | refine below_drewN ?_ _ | refine Below.drew ?_ | refine Below.alloc ?_ (by simp) _)) (viff_float32 f _ (by rw [beq_iff_eq]; exact Int.ofNat_inj.trans (conv_back f _ _)))
theorem valid_any (k : ByteArray) (n u : Int) (f : Nat) (s : ByteArray) (n1 : -9223372036854775808 ≤ n) (n2 : n ≤ 9223372036854775807) (u1 : 0 ≤ u) (u2 : u ≤ 18446744073709551615) (w : World) :
    Calls Tryd.prog 19 #[.agg #[.string k, .int .i64 n, .int .u64 u, .float .f64 f, .string s]] w (ValidPost k n u f s w) := by
  by_cases e0 : k = ⟨#[]⟩
  · subst e0
    by_cases h : (n == 0) = false
    · exact valid_null_n n u f s h w
    obtain rfl : n = 0 := by simpa using h
    clear h
    by_cases h : (u == 0) = false
    · exact valid_null_u u f s h w
    obtain rfl : u = 0 := by simpa using h
    clear h
    by_cases h : ((bitsB f : Int) == 0) = false
    · exact valid_null_f f s h w
    obtain rfl : f = 0 := zero_of_bits (by simpa using h)
    clear h
    by_cases h : s.toList.isEmpty = false
    · exact valid_null_s s h w
    obtain rfl := empty_of h
    clear h
    exact valid_null_t w
  by_cases e1 : k = ⟨#[98, 111, 111, 108]⟩
  · subst e1
    by_cases h : (u == 0) = false
    · exact valid_bool_u n u f s h w
    obtain rfl : u = 0 := by simpa using h
    clear h
    by_cases h : ((bitsB f : Int) == 0) = false
    · exact valid_bool_f n f s h w
    obtain rfl : f = 0 := zero_of_bits (by simpa using h)
    clear h
    by_cases h : s.toList.isEmpty = false
    · exact valid_bool_s n s h w
    obtain rfl := empty_of h
    clear h
    by_cases h : (n == 0) = false
    · by_cases h2 : (n == 1) = false
      · exact valid_bool_n n h h2 w
      · obtain rfl : n = 1 := by simpa using h2
        exact valid_bool_n1 w
    obtain rfl : n = 0 := by simpa using h
    exact valid_bool_n0 w
  by_cases e2 : k = ⟨#[105, 110, 116, 56]⟩
  · subst e2
    by_cases h : (u == 0) = false
    · exact valid_int8_u n u f s h w
    obtain rfl : u = 0 := by simpa using h
    clear h
    by_cases h : ((bitsB f : Int) == 0) = false
    · exact valid_int8_f n f s h w
    obtain rfl : f = 0 := zero_of_bits (by simpa using h)
    clear h
    by_cases h : s.toList.isEmpty = false
    · exact valid_int8_s n s h w
    obtain rfl := empty_of h
    clear h
    exact valid_int8_n n n1 n2 w
  by_cases e3 : k = ⟨#[105, 110, 116, 49, 54]⟩
  · subst e3
    by_cases h : (u == 0) = false
    · exact valid_int16_u n u f s h w
    obtain rfl : u = 0 := by simpa using h
    clear h
    by_cases h : ((bitsB f : Int) == 0) = false
    · exact valid_int16_f n f s h w
    obtain rfl : f = 0 := zero_of_bits (by simpa using h)
    clear h
    by_cases h : s.toList.isEmpty = false
    · exact valid_int16_s n s h w
    obtain rfl := empty_of h
    clear h
    exact valid_int16_n n n1 n2 w
  by_cases e4 : k = ⟨#[105, 110, 116, 51, 50]⟩
  · subst e4
    by_cases h : (u == 0) = false
    · exact valid_int32_u n u f s h w
    obtain rfl : u = 0 := by simpa using h
    clear h
    by_cases h : ((bitsB f : Int) == 0) = false
    · exact valid_int32_f n f s h w
    obtain rfl : f = 0 := zero_of_bits (by simpa using h)
    clear h
    by_cases h : s.toList.isEmpty = false
    · exact valid_int32_s n s h w
    obtain rfl := empty_of h
    clear h
    exact valid_int32_n n n1 n2 w
  by_cases e5 : k = ⟨#[105, 110, 116, 54, 52]⟩
  · subst e5
    by_cases h : (u == 0) = false
    · exact valid_int64_u n u f s h w
    obtain rfl : u = 0 := by simpa using h
    clear h
    by_cases h : ((bitsB f : Int) == 0) = false
    · exact valid_int64_f n f s h w
    obtain rfl : f = 0 := zero_of_bits (by simpa using h)
    clear h
    by_cases h : s.toList.isEmpty = false
    · exact valid_int64_s n s h w
    obtain rfl := empty_of h
    clear h
    exact valid_int64_n n n1 n2 w
  by_cases e6 : k = ⟨#[117, 105, 110, 116, 56]⟩
  · subst e6
    by_cases h : (n == 0) = false
    · exact valid_uint8_n n u f s h w
    obtain rfl : n = 0 := by simpa using h
    clear h
    by_cases h : ((bitsB f : Int) == 0) = false
    · exact valid_uint8_f u f s h w
    obtain rfl : f = 0 := zero_of_bits (by simpa using h)
    clear h
    by_cases h : s.toList.isEmpty = false
    · exact valid_uint8_s u s h w
    obtain rfl := empty_of h
    clear h
    exact valid_uint8_u u u1 u2 w
  by_cases e7 : k = ⟨#[117, 105, 110, 116, 49, 54]⟩
  · subst e7
    by_cases h : (n == 0) = false
    · exact valid_uint16_n n u f s h w
    obtain rfl : n = 0 := by simpa using h
    clear h
    by_cases h : ((bitsB f : Int) == 0) = false
    · exact valid_uint16_f u f s h w
    obtain rfl : f = 0 := zero_of_bits (by simpa using h)
    clear h
    by_cases h : s.toList.isEmpty = false
    · exact valid_uint16_s u s h w
    obtain rfl := empty_of h
    clear h
    exact valid_uint16_u u u1 u2 w
  by_cases e8 : k = ⟨#[117, 105, 110, 116, 51, 50]⟩
  · subst e8
    by_cases h : (n == 0) = false
    · exact valid_uint32_n n u f s h w
    obtain rfl : n = 0 := by simpa using h
    clear h
    by_cases h : ((bitsB f : Int) == 0) = false
    · exact valid_uint32_f u f s h w
    obtain rfl : f = 0 := zero_of_bits (by simpa using h)
    clear h
    by_cases h : s.toList.isEmpty = false
    · exact valid_uint32_s u s h w
    obtain rfl := empty_of h
    clear h
    exact valid_uint32_u u u1 u2 w
  by_cases e9 : k = ⟨#[117, 105, 110, 116, 54, 52]⟩
  · subst e9
    by_cases h : (n == 0) = false
    · exact valid_uint64_n n u f s h w
    obtain rfl : n = 0 := by simpa using h
    clear h
    by_cases h : ((bitsB f : Int) == 0) = false
    · exact valid_uint64_f u f s h w
    obtain rfl : f = 0 := zero_of_bits (by simpa using h)
    clear h
    by_cases h : s.toList.isEmpty = false
    · exact valid_uint64_s u s h w
    obtain rfl := empty_of h
    clear h
    exact valid_uint64_u u u1 u2 w
  by_cases e10 : k = ⟨#[102, 108, 111, 97, 116, 51, 50]⟩
  · subst e10
    by_cases h : (n == 0) = false
    · exact valid_float32_n n u f s h w
    obtain rfl : n = 0 := by simpa using h
    clear h
    by_cases h : (u == 0) = false
    · exact valid_float32_u u f s h w
    obtain rfl : u = 0 := by simpa using h
    clear h
    by_cases h : s.toList.isEmpty = false
    · exact valid_float32_s f s h w
    obtain rfl := empty_of h
    clear h
    exact valid_float32_f f w
  by_cases e11 : k = ⟨#[102, 108, 111, 97, 116, 54, 52]⟩
  · subst e11
    by_cases h : (n == 0) = false
    · exact valid_float64_n n u f s h w
    obtain rfl : n = 0 := by simpa using h
    clear h
    by_cases h : (u == 0) = false
    · exact valid_float64_u u f s h w
    obtain rfl : u = 0 := by simpa using h
    clear h
    by_cases h : s.toList.isEmpty = false
    · exact valid_float64_s f s h w
    obtain rfl := empty_of h
    clear h
    exact valid_float64_f f w
  by_cases e12 : k = ⟨#[115, 116, 114, 105, 110, 103]⟩
  · subst e12
    by_cases h : (n == 0) = false
    · exact valid_string_n n u f s h w
    obtain rfl : n = 0 := by simpa using h
    clear h
    by_cases h : (u == 0) = false
    · exact valid_string_u u f s h w
    obtain rfl : u = 0 := by simpa using h
    clear h
    by_cases h : ((bitsB f : Int) == 0) = false
    · exact valid_string_f f s h w
    obtain rfl : f = 0 := zero_of_bits (by simpa using h)
    clear h
    exact valid_string_s s w
  by_cases e13 : k = ⟨#[98, 108, 111, 98]⟩
  · subst e13
    by_cases h : (n == 0) = false
    · exact valid_blob_n n u f s h w
    obtain rfl : n = 0 := by simpa using h
    clear h
    by_cases h : (u == 0) = false
    · exact valid_blob_u u f s h w
    obtain rfl : u = 0 := by simpa using h
    clear h
    by_cases h : ((bitsB f : Int) == 0) = false
    · exact valid_blob_f f s h w
    obtain rfl : f = 0 := zero_of_bits (by simpa using h)
    clear h
    exact valid_blob_s s w
  by_cases e14 : k = ⟨#[105, 100, 101, 97, 108, 73, 110, 116]⟩
  · subst e14
    by_cases h : (u == 0) = false
    · exact valid_idealInt_u n u f s h w
    obtain rfl : u = 0 := by simpa using h
    clear h
    by_cases h : ((bitsB f : Int) == 0) = false
    · exact valid_idealInt_f n f s h w
    obtain rfl : f = 0 := zero_of_bits (by simpa using h)
    clear h
    by_cases h : s.toList.isEmpty = false
    · exact valid_idealInt_s n s h w
    obtain rfl := empty_of h
    clear h
    exact valid_idealInt_n n n1 n2 w
  by_cases e15 : k = ⟨#[105, 100, 101, 97, 108, 82, 117, 110, 101]⟩
  · subst e15
    by_cases h : (u == 0) = false
    · exact valid_idealRune_u n u f s h w
    obtain rfl : u = 0 := by simpa using h
    clear h
    by_cases h : ((bitsB f : Int) == 0) = false
    · exact valid_idealRune_f n f s h w
    obtain rfl : f = 0 := zero_of_bits (by simpa using h)
    clear h
    by_cases h : s.toList.isEmpty = false
    · exact valid_idealRune_s n s h w
    obtain rfl := empty_of h
    clear h
    exact valid_idealRune_n n n1 n2 w
  by_cases e16 : k = ⟨#[105, 100, 101, 97, 108, 85, 105, 110, 116]⟩
  · subst e16
    by_cases h : (n == 0) = false
    · exact valid_idealUint_n n u f s h w
    obtain rfl : n = 0 := by simpa using h
    clear h
    by_cases h : ((bitsB f : Int) == 0) = false
    · exact valid_idealUint_f u f s h w
    obtain rfl : f = 0 := zero_of_bits (by simpa using h)
    clear h
    by_cases h : s.toList.isEmpty = false
    · exact valid_idealUint_s u s h w
    obtain rfl := empty_of h
    clear h
    exact valid_idealUint_u u u1 u2 w
  by_cases e17 : k = ⟨#[105, 100, 101, 97, 108, 70, 108, 111, 97, 116]⟩
  · subst e17
    by_cases h : (n == 0) = false
    · exact valid_idealFloat_n n u f s h w
    obtain rfl : n = 0 := by simpa using h
    clear h
    by_cases h : (u == 0) = false
    · exact valid_idealFloat_u u f s h w
    obtain rfl : u = 0 := by simpa using h
    clear h
    by_cases h : s.toList.isEmpty = false
    · exact valid_idealFloat_s f s h w
    obtain rfl := empty_of h
    clear h
    exact valid_idealFloat_f f w
  exact valid_other_t k (ne_lit e1) (ne_lit e2) (ne_lit e3) (ne_lit e4) (ne_lit e5) (ne_lit e6) (ne_lit e7) (ne_lit e8) (ne_lit e9) (ne_lit e10) (ne_lit e11) (ne_lit e12) (ne_lit e13) (ne_lit e14) (ne_lit e15) (ne_lit e16) (ne_lit e17) (ne_empty e0) n u f s w
end Go.Proofs.YtpkgngpmnapdoaaDoor
