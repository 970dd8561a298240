/- What laws.valid answers, for every Value: the kinds without a sign, floats, texts. -/
import Derived.Test.YtpkgngpmnapdoaaDoorValid1
namespace Go.Proofs.YtpkgngpmnapdoaaDoor
open Go.RowKit
set_option linter.unusedVariables false
set_option linter.unusedSimpArgs false
set_option maxRecDepth 100000
theorem viff_uint8_n (n u : Int) (f : Nat) (s : ByteArray) (h : (n == 0) = false) : VIff (false) ⟨#[117, 105, 110, 116, 56]⟩ (n) (u) (f) s := by
  unfold VIff
  exact no_iff (by rintro ⟨v, ho, hk, hn, hu, hf, hs⟩; obtain ⟨a, rfl⟩ := inv_uint8 hk; simp only [V.N] at hn; subst hn; simp at h)
set_option maxRecDepth 100000 in
set_option maxHeartbeats 1000000 in
theorem valid_uint8_n (n u : Int) (f : Nat) (s : ByteArray) (h : (n == 0) = false) (w : World) : Calls Tryd.prog 19 #[.agg #[.string ⟨#[117, 105, 110, 116, 56]⟩, .int .i64 n, .int .u64 u, .float .f64 f, .string s]] w (ValidPost ⟨#[117, 105, 110, 116, 56]⟩ (n) (u) (f) s w) := by
  have H := Lib.hid (viff_uint8_n n u f s h)
  go_enter Tryd.func19, Tryd.ntmps19
  go_wp2_with (first | (go_at_call 22; refine (width_uint8 _).mono ?_; rintro e w' ⟨rfl, rfl⟩) | (go_at_call 39; refine (isFloat_uint8 _).mono ?_; rintro e w' ⟨rfl, rfl⟩) | (go_at_call 35; refine (bits_any _ _).mono ?_; rintro e w' ⟨rfl, rfl⟩))
  go_ret
  exact valid_post rfl (by repeat (first | exact Below.refl _ _ | refine below_drewN ?_ _ | refine Below.drew ?_ | refine Below.alloc ?_ (by simp) _)) H.out
theorem viff_uint8_f (u : Int) (f : Nat) (s : ByteArray) (h : ((bitsB f : Int) == 0) = false) : VIff (false) ⟨#[117, 105, 110, 116, 56]⟩ (0) (u) (f) s := by
  unfold VIff
  exact no_iff (by rintro ⟨v, ho, hk, hn, hu, hf, hs⟩; obtain ⟨a, rfl⟩ := inv_uint8 hk; simp only [V.F] at hf; subst hf; rw [bits_zero] at h; simp at h)
set_option maxRecDepth 100000 in
set_option maxHeartbeats 1000000 in
theorem valid_uint8_f (u : Int) (f : Nat) (s : ByteArray) (h : ((bitsB f : Int) == 0) = false) (w : World) : Calls Tryd.prog 19 #[.agg #[.string ⟨#[117, 105, 110, 116, 56]⟩, .int .i64 0, .int .u64 u, .float .f64 f, .string s]] w (ValidPost ⟨#[117, 105, 110, 116, 56]⟩ (0) (u) (f) s w) := by
  have H := Lib.hid (viff_uint8_f u f s h)
  go_enter Tryd.func19, Tryd.ntmps19
  go_wp2_with (first | (go_at_call 22; refine (width_uint8 _).mono ?_; rintro e w' ⟨rfl, rfl⟩) | (go_at_call 39; refine (isFloat_uint8 _).mono ?_; rintro e w' ⟨rfl, rfl⟩) | (go_at_call 35; refine (bits_any _ _).mono ?_; rintro e w' ⟨rfl, rfl⟩))
  go_ret
  exact valid_post rfl (by repeat (first | exact Below.refl _ _ | refine below_drewN ?_ _ | refine Below.drew ?_ | refine Below.alloc ?_ (by simp) _)) H.out
theorem viff_uint8_s (u : Int) (s : ByteArray) (h : s.toList.isEmpty = false) : VIff (false) ⟨#[117, 105, 110, 116, 56]⟩ (0) (u) (0) s := by
  unfold VIff
  exact no_iff (by rintro ⟨v, ho, hk, hn, hu, hf, hs⟩; obtain ⟨a, rfl⟩ := inv_uint8 hk; simp only [V.S] at hs; subst hs; simp at h)
set_option maxRecDepth 100000 in
set_option maxHeartbeats 1000000 in
theorem valid_uint8_s (u : Int) (s : ByteArray) (h : s.toList.isEmpty = false) (w : World) : Calls Tryd.prog 19 #[.agg #[.string ⟨#[117, 105, 110, 116, 56]⟩, .int .i64 0, .int .u64 u, .float .f64 0, .string s]] w (ValidPost ⟨#[117, 105, 110, 116, 56]⟩ (0) (u) (0) s w) := by
  have H := Lib.hid (viff_uint8_s u s h)
  have hb0 := bits_zero
  go_enter Tryd.func19, Tryd.ntmps19
  go_wp2_with (first | (go_at_call 22; refine (width_uint8 _).mono ?_; rintro e w' ⟨rfl, rfl⟩) | (go_at_call 39; refine (isFloat_uint8 _).mono ?_; rintro e w' ⟨rfl, rfl⟩) | (go_at_call 35; refine (bits_any _ _).mono ?_; rintro e w' ⟨rfl, rfl⟩))
  go_ret
  exact valid_post rfl (by repeat (first | exact Below.refl _ _ | refine below_drewN ?_ _ | refine Below.drew ?_ | refine Below.alloc ?_ (by simp) _)) H.out
theorem viff_uint8_u (u : Int) (g1 : 0 ≤ u) (g2 : u ≤ 18446744073709551615) : VIff ((u / 256 == 0)) ⟨#[117, 105, 110, 116, 56]⟩ (0) (u) (0) ⟨#[]⟩ := by
  unfold VIff
  constructor
  · intro h
    have h1 : u / 256 = 0 := by simpa using h
    exact ⟨.int .u8 u, ⟨by omega, by omega⟩, rfl, rfl, rfl, rfl, rfl⟩
  · rintro ⟨v, ho, hk, hn, hu, hf, hs⟩
    obtain ⟨a, rfl⟩ := inv_uint8 hk
    simp only [V.U] at hu
    subst hu
    obtain ⟨o1, o2⟩ := ho
    have h1 : a / 256 = 0 := by omega
    simpa using h1
set_option maxRecDepth 100000 in
set_option maxHeartbeats 1000000 in
theorem valid_uint8_u (u : Int) (g1 : 0 ≤ u) (g2 : u ≤ 18446744073709551615) (w : World) : Calls Tryd.prog 19 #[.agg #[.string ⟨#[117, 105, 110, 116, 56]⟩, .int .i64 0, .int .u64 u, .float .f64 0, .string ⟨#[]⟩]] w (ValidPost ⟨#[117, 105, 110, 116, 56]⟩ (0) (u) (0) ⟨#[]⟩ w) := by
  have H := Lib.hid (viff_uint8_u u g1 g2)
  have hb0 := bits_zero
  go_enter Tryd.func19, Tryd.ntmps19
  go_wp2_with (first | (go_at_call 22; refine (width_uint8 _).mono ?_; rintro e w' ⟨rfl, rfl⟩) | (go_at_call 39; refine (isFloat_uint8 _).mono ?_; rintro e w' ⟨rfl, rfl⟩) | (go_at_call 35; refine (bits_any _ _).mono ?_; rintro e w' ⟨rfl, rfl⟩))
  go_ret
  exact valid_post rfl (by repeat (first | exact Below.refl _ _ | refine below_drewN ?_ _ | refine Below.drew ?_ | refine Below.alloc ?_ (by simp) _)) H.out
theorem viff_uint16_n (n u : Int) (f : Nat) (s : ByteArray) (h : (n == 0) = false) : VIff (false) ⟨#[117, 105, 110, 116, 49, 54]⟩ (n) (u) (f) s := by
  unfold VIff
  exact no_iff (by rintro ⟨v, ho, hk, hn, hu, hf, hs⟩; obtain ⟨a, rfl⟩ := inv_uint16 hk; simp only [V.N] at hn; subst hn; simp at h)
set_option maxRecDepth 100000 in
set_option maxHeartbeats 1000000 in
theorem valid_uint16_n (n u : Int) (f : Nat) (s : ByteArray) (h : (n == 0) = false) (w : World) : Calls Tryd.prog 19 #[.agg #[.string ⟨#[117, 105, 110, 116, 49, 54]⟩, .int .i64 n, .int .u64 u, .float .f64 f, .string s]] w (ValidPost ⟨#[117, 105, 110, 116, 49, 54]⟩ (n) (u) (f) s w) := by
  have H := Lib.hid (viff_uint16_n n u f s h)
  go_enter Tryd.func19, Tryd.ntmps19
  go_wp2_with (first | (go_at_call 22; refine (width_uint16 _).mono ?_; rintro e w' ⟨rfl, rfl⟩) | (go_at_call 39; refine (isFloat_uint16 _).mono ?_; rintro e w' ⟨rfl, rfl⟩) | (go_at_call 35; refine (bits_any _ _).mono ?_; rintro e w' ⟨rfl, rfl⟩))
  go_ret
  exact valid_post rfl (by repeat (first | exact Below.refl _ _ | refine below_drewN ?_ _ | refine Below.drew ?_ | refine Below.alloc ?_ (by simp) _)) H.out
theorem viff_uint16_f (u : Int) (f : Nat) (s : ByteArray) (h : ((bitsB f : Int) == 0) = false) : VIff (false) ⟨#[117, 105, 110, 116, 49, 54]⟩ (0) (u) (f) s := by
  unfold VIff
  exact no_iff (by rintro ⟨v, ho, hk, hn, hu, hf, hs⟩; obtain ⟨a, rfl⟩ := inv_uint16 hk; simp only [V.F] at hf; subst hf; rw [bits_zero] at h; simp at h)
set_option maxRecDepth 100000 in
set_option maxHeartbeats 1000000 in
theorem valid_uint16_f (u : Int) (f : Nat) (s : ByteArray) (h : ((bitsB f : Int) == 0) = false) (w : World) : Calls Tryd.prog 19 #[.agg #[.string ⟨#[117, 105, 110, 116, 49, 54]⟩, .int .i64 0, .int .u64 u, .float .f64 f, .string s]] w (ValidPost ⟨#[117, 105, 110, 116, 49, 54]⟩ (0) (u) (f) s w) := by
  have H := Lib.hid (viff_uint16_f u f s h)
  go_enter Tryd.func19, Tryd.ntmps19
  go_wp2_with (first | (go_at_call 22; refine (width_uint16 _).mono ?_; rintro e w' ⟨rfl, rfl⟩) | (go_at_call 39; refine (isFloat_uint16 _).mono ?_; rintro e w' ⟨rfl, rfl⟩) | (go_at_call 35; refine (bits_any _ _).mono ?_; rintro e w' ⟨rfl, rfl⟩))
  go_ret
  exact valid_post rfl (by repeat (first | exact Below.refl _ _ | refine below_drewN ?_ _ | refine Below.drew ?_ | refine Below.alloc ?_ (by simp) _)) H.out
theorem viff_uint16_s (u : Int) (s : ByteArray) (h : s.toList.isEmpty = false) : VIff (false) ⟨#[117, 105, 110, 116, 49, 54]⟩ (0) (u) (0) s := by
  unfold VIff
  exact no_iff (by rintro ⟨v, ho, hk, hn, hu, hf, hs⟩; obtain ⟨a, rfl⟩ := inv_uint16 hk; simp only [V.S] at hs; subst hs; simp at h)
set_option maxRecDepth 100000 in
set_option maxHeartbeats 1000000 in
theorem valid_uint16_s (u : Int) (s : ByteArray) (h : s.toList.isEmpty = false) (w : World) : Calls Tryd.prog 19 #[.agg #[.string ⟨#[117, 105, 110, 116, 49, 54]⟩, .int .i64 0, .int .u64 u, .float .f64 0, .string s]] w (ValidPost ⟨#[117, 105, 110, 116, 49, 54]⟩ (0) (u) (0) s w) := by
  have H := Lib.hid (viff_uint16_s u s h)
  have hb0 := bits_zero
  go_enter Tryd.func19, Tryd.ntmps19
  go_wp2_with (first | (go_at_call 22; refine (width_uint16 _).mono ?_; rintro e w' ⟨rfl, rfl⟩) | (go_at_call 39; refine (isFloat_uint16 _).mono ?_; rintro e w' ⟨rfl, rfl⟩) | (go_at_call 35; refine (bits_any _ _).mono ?_; rintro e w' ⟨rfl, rfl⟩))
  go_ret
  exact valid_post rfl (by repeat (first | exact Below.refl _ _ | refine below_drewN ?_ _ | refine Below.drew ?_ | refine Below.alloc ?_ (by simp) _)) H.out
theorem viff_uint16_u (u : Int) (g1 : 0 ≤ u) (g2 : u ≤ 18446744073709551615) : VIff ((u / 65536 == 0)) ⟨#[117, 105, 110, 116, 49, 54]⟩ (0) (u) (0) ⟨#[]⟩ := by
  unfold VIff
  constructor
  · intro h
    have h1 : u / 65536 = 0 := by simpa using h
    exact ⟨.int .u16 u, ⟨by omega, by omega⟩, rfl, rfl, rfl, rfl, rfl⟩
  · rintro ⟨v, ho, hk, hn, hu, hf, hs⟩
    obtain ⟨a, rfl⟩ := inv_uint16 hk
    simp only [V.U] at hu
    subst hu
    obtain ⟨o1, o2⟩ := ho
    have h1 : a / 65536 = 0 := by omega
    simpa using h1
set_option maxRecDepth 100000 in
set_option maxHeartbeats 1000000 in
theorem valid_uint16_u (u : Int) (g1 : 0 ≤ u) (g2 : u ≤ 18446744073709551615) (w : World) : Calls Tryd.prog 19 #[.agg #[.string ⟨#[117, 105, 110, 116, 49, 54]⟩, .int .i64 0, .int .u64 u, .float .f64 0, .string ⟨#[]⟩]] w (ValidPost ⟨#[117, 105, 110, 116, 49, 54]⟩ (0) (u) (0) ⟨#[]⟩ w) := by
  have H := Lib.hid (viff_uint16_u u g1 g2)
  have hb0 := bits_zero
  go_enter Tryd.func19, Tryd.ntmps19
  go_wp2_with (first | (go_at_call 22; refine (width_uint16 _).mono ?_; rintro e w' ⟨rfl, rfl⟩) | (go_at_call 39; refine (isFloat_uint16 _).mono ?_; rintro e w' ⟨rfl, rfl⟩) | (go_at_call 35; refine (bits_any _ _).mono ?_; rintro e w' ⟨rfl, rfl⟩))
  go_ret
  exact valid_post rfl (by repeat (first | exact Below.refl _ _ | refine below_drewN ?_ _ | refine Below.drew ?_ | refine Below.alloc ?_ (by simp) _)) H.out
theorem viff_uint32_n (n u : Int) (f : Nat) (s : ByteArray) (h : (n == 0) = false) : VIff (false) ⟨#[117, 105, 110, 116, 51, 50]⟩ (n) (u) (f) s := by
  unfold VIff
  exact no_iff (by rintro ⟨v, ho, hk, hn, hu, hf, hs⟩; obtain ⟨a, rfl⟩ := inv_uint32 hk; simp only [V.N] at hn; subst hn; simp at h)
set_option maxRecDepth 100000 in
set_option maxHeartbeats 1000000 in
theorem valid_uint32_n (n u : Int) (f : Nat) (s : ByteArray) (h : (n == 0) = false) (w : World) : Calls Tryd.prog 19 #[.agg #[.string ⟨#[117, 105, 110, 116, 51, 50]⟩, .int .i64 n, .int .u64 u, .float .f64 f, .string s]] w (ValidPost ⟨#[117, 105, 110, 116, 51, 50]⟩ (n) (u) (f) s w) := by
  have H := Lib.hid (viff_uint32_n n u f s h)
  go_enter Tryd.func19, Tryd.ntmps19
  go_wp2_with (first | (go_at_call 22; refine (width_uint32 _).mono ?_; rintro e w' ⟨rfl, rfl⟩) | (go_at_call 39; refine (isFloat_uint32 _).mono ?_; rintro e w' ⟨rfl, rfl⟩) | (go_at_call 35; refine (bits_any _ _).mono ?_; rintro e w' ⟨rfl, rfl⟩))
  go_ret
  exact valid_post rfl (by repeat (first | exact Below.refl _ _ | refine below_drewN ?_ _ | refine Below.drew ?_ | refine Below.alloc ?_ (by simp) _)) H.out
theorem viff_uint32_f (u : Int) (f : Nat) (s : ByteArray) (h : ((bitsB f : Int) == 0) = false) : VIff (false) ⟨#[117, 105, 110, 116, 51, 50]⟩ (0) (u) (f) s := by
  unfold VIff
  exact no_iff (by rintro ⟨v, ho, hk, hn, hu, hf, hs⟩; obtain ⟨a, rfl⟩ := inv_uint32 hk; simp only [V.F] at hf; subst hf; rw [bits_zero] at h; simp at h)
set_option maxRecDepth 100000 in
set_option maxHeartbeats 1000000 in
theorem valid_uint32_f (u : Int) (f : Nat) (s : ByteArray) (h : ((bitsB f : Int) == 0) = false) (w : World) : Calls Tryd.prog 19 #[.agg #[.string ⟨#[117, 105, 110, 116, 51, 50]⟩, .int .i64 0, .int .u64 u, .float .f64 f, .string s]] w (ValidPost ⟨#[117, 105, 110, 116, 51, 50]⟩ (0) (u) (f) s w) := by
  have H := Lib.hid (viff_uint32_f u f s h)
  go_enter Tryd.func19, Tryd.ntmps19
  go_wp2_with (first | (go_at_call 22; refine (width_uint32 _).mono ?_; rintro e w' ⟨rfl, rfl⟩) | (go_at_call 39; refine (isFloat_uint32 _).mono ?_; rintro e w' ⟨rfl, rfl⟩) | (go_at_call 35; refine (bits_any _ _).mono ?_; rintro e w' ⟨rfl, rfl⟩))
  go_ret
  exact valid_post rfl (by repeat (first | exact Below.refl _ _ | refine below_drewN ?_ _ | refine Below.drew ?_ | refine Below.alloc ?_ (by simp) _)) H.out
theorem viff_uint32_s (u : Int) (s : ByteArray) (h : s.toList.isEmpty = false) : VIff (false) ⟨#[117, 105, 110, 116, 51, 50]⟩ (0) (u) (0) s := by
  unfold VIff
  exact no_iff (by rintro ⟨v, ho, hk, hn, hu, hf, hs⟩; obtain ⟨a, rfl⟩ := inv_uint32 hk; simp only [V.S] at hs; subst hs; simp at h)
set_option maxRecDepth 100000 in
set_option maxHeartbeats 1000000 in
theorem valid_uint32_s (u : Int) (s : ByteArray) (h : s.toList.isEmpty = false) (w : World) : Calls Tryd.prog 19 #[.agg #[.string ⟨#[117, 105, 110, 116, 51, 50]⟩, .int .i64 0, .int .u64 u, .float .f64 0, .string s]] w (ValidPost ⟨#[117, 105, 110, 116, 51, 50]⟩ (0) (u) (0) s w) := by
  have H := Lib.hid (viff_uint32_s u s h)
  have hb0 := bits_zero
  go_enter Tryd.func19, Tryd.ntmps19
  go_wp2_with (first | (go_at_call 22; refine (width_uint32 _).mono ?_; rintro e w' ⟨rfl, rfl⟩) | (go_at_call 39; refine (isFloat_uint32 _).mono ?_; rintro e w' ⟨rfl, rfl⟩) | (go_at_call 35; refine (bits_any _ _).mono ?_; rintro e w' ⟨rfl, rfl⟩))
  go_ret
  exact valid_post rfl (by repeat (first | exact Below.refl _ _ | refine below_drewN ?_ _ | refine Below.drew ?_ | refine Below.alloc ?_ (by simp) _)) H.out
theorem viff_uint32_u (u : Int) (g1 : 0 ≤ u) (g2 : u ≤ 18446744073709551615) : VIff ((u / 4294967296 == 0)) ⟨#[117, 105, 110, 116, 51, 50]⟩ (0) (u) (0) ⟨#[]⟩ := by
  unfold VIff
  constructor
  · intro h
    have h1 : u / 4294967296 = 0 := by simpa using h
    exact ⟨.int .u32 u, ⟨by omega, by omega⟩, rfl, rfl, rfl, rfl, rfl⟩
  · rintro ⟨v, ho, hk, hn, hu, hf, hs⟩
    obtain ⟨a, rfl⟩ := inv_uint32 hk
    simp only [V.U] at hu
    subst hu
    obtain ⟨o1, o2⟩ := ho
    have h1 : a / 4294967296 = 0 := by omega
    simpa using h1
set_option maxRecDepth 100000 in
set_option maxHeartbeats 1000000 in
theorem valid_uint32_u (u : Int) (g1 : 0 ≤ u) (g2 : u ≤ 18446744073709551615) (w : World) : Calls Tryd.prog 19 #[.agg #[.string ⟨#[117, 105, 110, 116, 51, 50]⟩, .int .i64 0, .int .u64 u, .float .f64 0, .string ⟨#[]⟩]] w (ValidPost ⟨#[117, 105, 110, 116, 51, 50]⟩ (0) (u) (0) ⟨#[]⟩ w) := by
  have H := Lib.hid (viff_uint32_u u g1 g2)
  have hb0 := bits_zero
  go_enter Tryd.func19, Tryd.ntmps19
  go_wp2_with (first | (go_at_call 22; refine (width_uint32 _).mono ?_; rintro e w' ⟨rfl, rfl⟩) | (go_at_call 39; refine (isFloat_uint32 _).mono ?_; rintro e w' ⟨rfl, rfl⟩) | (go_at_call 35; refine (bits_any _ _).mono ?_; rintro e w' ⟨rfl, rfl⟩))
  go_ret
  exact valid_post rfl (by repeat (first | exact Below.refl _ _ | refine below_drewN ?_ _ | refine Below.drew ?_ | refine Below.alloc ?_ (by simp) _)) H.out
theorem viff_uint64_n (n u : Int) (f : Nat) (s : ByteArray) (h : (n == 0) = false) : VIff (false) ⟨#[117, 105, 110, 116, 54, 52]⟩ (n) (u) (f) s := by
  unfold VIff
  exact no_iff (by rintro ⟨v, ho, hk, hn, hu, hf, hs⟩; obtain ⟨a, rfl⟩ := inv_uint64 hk; simp only [V.N] at hn; subst hn; simp at h)
set_option maxRecDepth 100000 in
set_option maxHeartbeats 1000000 in
theorem valid_uint64_n (n u : Int) (f : Nat) (s : ByteArray) (h : (n == 0) = false) (w : World) : Calls Tryd.prog 19 #[.agg #[.string ⟨#[117, 105, 110, 116, 54, 52]⟩, .int .i64 n, .int .u64 u, .float .f64 f, .string s]] w (ValidPost ⟨#[117, 105, 110, 116, 54, 52]⟩ (n) (u) (f) s w) := by
  have H := Lib.hid (viff_uint64_n n u f s h)
  go_enter Tryd.func19, Tryd.ntmps19
  go_wp2_with (first | (go_at_call 22; refine (width_uint64 _).mono ?_; rintro e w' ⟨rfl, rfl⟩) | (go_at_call 39; refine (isFloat_uint64 _).mono ?_; rintro e w' ⟨rfl, rfl⟩) | (go_at_call 35; refine (bits_any _ _).mono ?_; rintro e w' ⟨rfl, rfl⟩))
  go_ret
  exact valid_post rfl (by repeat (first | exact Below.refl _ _ | refine below_drewN ?_ _ | refine Below.drew ?_ | refine Below.alloc ?_ (by simp) _)) H.out
theorem viff_uint64_f (u : Int) (f : Nat) (s : ByteArray) (h : ((bitsB f : Int) == 0) = false) : VIff (false) ⟨#[117, 105, 110, 116, 54, 52]⟩ (0) (u) (f) s := by
  unfold VIff
  exact no_iff (by rintro ⟨v, ho, hk, hn, hu, hf, hs⟩; obtain ⟨a, rfl⟩ := inv_uint64 hk; simp only [V.F] at hf; subst hf; rw [bits_zero] at h; simp at h)
set_option maxRecDepth 100000 in
set_option maxHeartbeats 1000000 in
theorem valid_uint64_f (u : Int) (f : Nat) (s : ByteArray) (h : ((bitsB f : Int) == 0) = false) (w : World) : Calls Tryd.prog 19 #[.agg #[.string ⟨#[117, 105, 110, 116, 54, 52]⟩, .int .i64 0, .int .u64 u, .float .f64 f, .string s]] w (ValidPost ⟨#[117, 105, 110, 116, 54, 52]⟩ (0) (u) (f) s w) := by
  have H := Lib.hid (viff_uint64_f u f s h)
  go_enter Tryd.func19, Tryd.ntmps19
  go_wp2_with (first | (go_at_call 22; refine (width_uint64 _).mono ?_; rintro e w' ⟨rfl, rfl⟩) | (go_at_call 39; refine (isFloat_uint64 _).mono ?_; rintro e w' ⟨rfl, rfl⟩) | (go_at_call 35; refine (bits_any _ _).mono ?_; rintro e w' ⟨rfl, rfl⟩))
  go_ret
  exact valid_post rfl (by repeat (first | exact Below.refl _ _ | refine below_drewN ?_ _ | refine Below.drew ?_ | refine Below.alloc ?_ (by simp) _)) H.out
theorem viff_uint64_s (u : Int) (s : ByteArray) (h : s.toList.isEmpty = false) : VIff (false) ⟨#[117, 105, 110, 116, 54, 52]⟩ (0) (u) (0) s := by
  unfold VIff
  exact no_iff (by rintro ⟨v, ho, hk, hn, hu, hf, hs⟩; obtain ⟨a, rfl⟩ := inv_uint64 hk; simp only [V.S] at hs; subst hs; simp at h)
set_option maxRecDepth 100000 in
set_option maxHeartbeats 1000000 in
theorem valid_uint64_s (u : Int) (s : ByteArray) (h : s.toList.isEmpty = false) (w : World) : Calls Tryd.prog 19 #[.agg #[.string ⟨#[117, 105, 110, 116, 54, 52]⟩, .int .i64 0, .int .u64 u, .float .f64 0, .string s]] w (ValidPost ⟨#[117, 105, 110, 116, 54, 52]⟩ (0) (u) (0) s w) := by
  have H := Lib.hid (viff_uint64_s u s h)
  have hb0 := bits_zero
  go_enter Tryd.func19, Tryd.ntmps19
  go_wp2_with (first | (go_at_call 22; refine (width_uint64 _).mono ?_; rintro e w' ⟨rfl, rfl⟩) | (go_at_call 39; refine (isFloat_uint64 _).mono ?_; rintro e w' ⟨rfl, rfl⟩) | (go_at_call 35; refine (bits_any _ _).mono ?_; rintro e w' ⟨rfl, rfl⟩))
  go_ret
  exact valid_post rfl (by repeat (first | exact Below.refl _ _ | refine below_drewN ?_ _ | refine Below.drew ?_ | refine Below.alloc ?_ (by simp) _)) H.out
theorem viff_uint64_u (u : Int) (g1 : 0 ≤ u) (g2 : u ≤ 18446744073709551615) : VIff (true) ⟨#[117, 105, 110, 116, 54, 52]⟩ (0) (u) (0) ⟨#[]⟩ := by
  unfold VIff
  exact yes_iff ⟨.int .u64 u, ⟨by omega, by omega⟩, rfl, rfl, rfl, rfl, rfl⟩
set_option maxRecDepth 100000 in
set_option maxHeartbeats 1000000 in
theorem valid_uint64_u (u : Int) (g1 : 0 ≤ u) (g2 : u ≤ 18446744073709551615) (w : World) : Calls Tryd.prog 19 #[.agg #[.string ⟨#[117, 105, 110, 116, 54, 52]⟩, .int .i64 0, .int .u64 u, .float .f64 0, .string ⟨#[]⟩]] w (ValidPost ⟨#[117, 105, 110, 116, 54, 52]⟩ (0) (u) (0) ⟨#[]⟩ w) := by
  have H := Lib.hid (viff_uint64_u u g1 g2)
  have hb0 := bits_zero
  go_enter Tryd.func19, Tryd.ntmps19
  go_wp2_with (first | (go_at_call 22; refine (width_uint64 _).mono ?_; rintro e w' ⟨rfl, rfl⟩) | (go_at_call 39; refine (isFloat_uint64 _).mono ?_; rintro e w' ⟨rfl, rfl⟩) | (go_at_call 35; refine (bits_any _ _).mono ?_; rintro e w' ⟨rfl, rfl⟩))
  go_ret
  exact valid_post rfl (by repeat (first | exact Below.refl _ _ | refine below_drewN ?_ _ | refine Below.drew ?_ | refine Below.alloc ?_ (by simp) _)) H.out
theorem viff_idealUint_n (n u : Int) (f : Nat) (s : ByteArray) (h : (n == 0) = false) : VIff (false) ⟨#[105, 100, 101, 97, 108, 85, 105, 110, 116]⟩ (n) (u) (f) s := by
  unfold VIff
  exact no_iff (by rintro ⟨v, ho, hk, hn, hu, hf, hs⟩; obtain ⟨a, rfl⟩ := inv_idealUint hk; simp only [V.N] at hn; subst hn; simp at h)
set_option maxRecDepth 100000 in
set_option maxHeartbeats 1000000 in
theorem valid_idealUint_n (n u : Int) (f : Nat) (s : ByteArray) (h : (n == 0) = false) (w : World) : Calls Tryd.prog 19 #[.agg #[.string ⟨#[105, 100, 101, 97, 108, 85, 105, 110, 116]⟩, .int .i64 n, .int .u64 u, .float .f64 f, .string s]] w (ValidPost ⟨#[105, 100, 101, 97, 108, 85, 105, 110, 116]⟩ (n) (u) (f) s w) := by
  have H := Lib.hid (viff_idealUint_n n u f s h)
  go_enter Tryd.func19, Tryd.ntmps19
  go_wp2_with (first | (go_at_call 22; refine (width_idealUint _).mono ?_; rintro e w' ⟨rfl, rfl⟩) | (go_at_call 39; refine (isFloat_idealUint _).mono ?_; rintro e w' ⟨rfl, rfl⟩) | (go_at_call 35; refine (bits_any _ _).mono ?_; rintro e w' ⟨rfl, rfl⟩))
  go_ret
  exact valid_post rfl (by repeat (first | exact Below.refl _ _ | refine below_drewN ?_ _ | refine Below.drew ?_ | refine Below.alloc ?_ (by simp) _)) H.out
theorem viff_idealUint_f (u : Int) (f : Nat) (s : ByteArray) (h : ((bitsB f : Int) == 0) = false) : VIff (false) ⟨#[105, 100, 101, 97, 108, 85, 105, 110, 116]⟩ (0) (u) (f) s := by
  unfold VIff
  exact no_iff (by rintro ⟨v, ho, hk, hn, hu, hf, hs⟩; obtain ⟨a, rfl⟩ := inv_idealUint hk; simp only [V.F] at hf; subst hf; rw [bits_zero] at h; simp at h)
set_option maxRecDepth 100000 in
set_option maxHeartbeats 1000000 in
theorem valid_idealUint_f (u : Int) (f : Nat) (s : ByteArray) (h : ((bitsB f : Int) == 0) = false) (w : World) : Calls Tryd.prog 19 #[.agg #[.string ⟨#[105, 100, 101, 97, 108, 85, 105, 110, 116]⟩, .int .i64 0, .int .u64 u, .float .f64 f, .string s]] w (ValidPost ⟨#[105, 100, 101, 97, 108, 85, 105, 110, 116]⟩ (0) (u) (f) s w) := by
  have H := Lib.hid (viff_idealUint_f u f s h)
  go_enter Tryd.func19, Tryd.ntmps19
  go_wp2_with (first | (go_at_call 22; refine (width_idealUint _).mono ?_; rintro e w' ⟨rfl, rfl⟩) | (go_at_call 39; refine (isFloat_idealUint _).mono ?_; rintro e w' ⟨rfl, rfl⟩) | (go_at_call 35; refine (bits_any _ _).mono ?_; rintro e w' ⟨rfl, rfl⟩))
  go_ret
  exact valid_post rfl (by repeat (first | exact Below.refl _ _ | refine below_drewN ?_ _ | refine Below.drew ?_ | refine Below.alloc ?_ (by simp) _)) H.out
theorem viff_idealUint_s (u : Int) (s : ByteArray) (h : s.toList.isEmpty = false) : VIff (false) ⟨#[105, 100, 101, 97, 108, 85, 105, 110, 116]⟩ (0) (u) (0) s := by
  unfold VIff
  exact no_iff (by rintro ⟨v, ho, hk, hn, hu, hf, hs⟩; obtain ⟨a, rfl⟩ := inv_idealUint hk; simp only [V.S] at hs; subst hs; simp at h)
set_option maxRecDepth 100000 in
set_option maxHeartbeats 1000000 in
theorem valid_idealUint_s (u : Int) (s : ByteArray) (h : s.toList.isEmpty = false) (w : World) : Calls Tryd.prog 19 #[.agg #[.string ⟨#[105, 100, 101, 97, 108, 85, 105, 110, 116]⟩, .int .i64 0, .int .u64 u, .float .f64 0, .string s]] w (ValidPost ⟨#[105, 100, 101, 97, 108, 85, 105, 110, 116]⟩ (0) (u) (0) s w) := by
  have H := Lib.hid (viff_idealUint_s u s h)
  have hb0 := bits_zero
  go_enter Tryd.func19, Tryd.ntmps19
  go_wp2_with (first | (go_at_call 22; refine (width_idealUint _).mono ?_; rintro e w' ⟨rfl, rfl⟩) | (go_at_call 39; refine (isFloat_idealUint _).mono ?_; rintro e w' ⟨rfl, rfl⟩) | (go_at_call 35; refine (bits_any _ _).mono ?_; rintro e w' ⟨rfl, rfl⟩))
  go_ret
  exact valid_post rfl (by repeat (first | exact Below.refl _ _ | refine below_drewN ?_ _ | refine Below.drew ?_ | refine Below.alloc ?_ (by simp) _)) H.out
theorem viff_idealUint_u (u : Int) (g1 : 0 ≤ u) (g2 : u ≤ 18446744073709551615) : VIff (true) ⟨#[105, 100, 101, 97, 108, 85, 105, 110, 116]⟩ (0) (u) (0) ⟨#[]⟩ := by
  unfold VIff
  exact yes_iff ⟨.iUint u, ⟨by omega, by omega⟩, rfl, rfl, rfl, rfl, rfl⟩
set_option maxRecDepth 100000 in
set_option maxHeartbeats 1000000 in
theorem valid_idealUint_u (u : Int) (g1 : 0 ≤ u) (g2 : u ≤ 18446744073709551615) (w : World) : Calls Tryd.prog 19 #[.agg #[.string ⟨#[105, 100, 101, 97, 108, 85, 105, 110, 116]⟩, .int .i64 0, .int .u64 u, .float .f64 0, .string ⟨#[]⟩]] w (ValidPost ⟨#[105, 100, 101, 97, 108, 85, 105, 110, 116]⟩ (0) (u) (0) ⟨#[]⟩ w) := by
  have H := Lib.hid (viff_idealUint_u u g1 g2)
  have hb0 := bits_zero
  go_enter Tryd.func19, Tryd.ntmps19
  go_wp2_with (first | (go_at_call 22; refine (width_idealUint _).mono ?_; rintro e w' ⟨rfl, rfl⟩) | (go_at_call 39; refine (isFloat_idealUint _).mono ?_; rintro e w' ⟨rfl, rfl⟩) | (go_at_call 35; refine (bits_any _ _).mono ?_; rintro e w' ⟨rfl, rfl⟩))
  go_ret
  exact valid_post rfl (by repeat (first | exact Below.refl _ _ | refine below_drewN ?_ _ | refine Below.drew ?_ | refine Below.alloc ?_ (by simp) _)) H.out
theorem viff_float64_n (n u : Int) (f : Nat) (s : ByteArray) (h : (n == 0) = false) : VIff (false) ⟨#[102, 108, 111, 97, 116, 54, 52]⟩ (n) (u) (f) s := by
  unfold VIff
  exact no_iff (by rintro ⟨v, ho, hk, hn, hu, hf, hs⟩; obtain ⟨a, rfl⟩ := inv_float64 hk; simp only [V.N] at hn; subst hn; simp at h)
set_option maxRecDepth 100000 in
set_option maxHeartbeats 1000000 in
theorem valid_float64_n (n u : Int) (f : Nat) (s : ByteArray) (h : (n == 0) = false) (w : World) : Calls Tryd.prog 19 #[.agg #[.string ⟨#[102, 108, 111, 97, 116, 54, 52]⟩, .int .i64 n, .int .u64 u, .float .f64 f, .string s]] w (ValidPost ⟨#[102, 108, 111, 97, 116, 54, 52]⟩ (n) (u) (f) s w) := by
  have H := Lib.hid (viff_float64_n n u f s h)
  go_enter Tryd.func19, Tryd.ntmps19
  go_wp2_with (first | (go_at_call 22; refine (width_float64 _).mono ?_; rintro e w' ⟨rfl, rfl⟩) | (go_at_call 39; refine (isFloat_float64 _).mono ?_; rintro e w' ⟨rfl, rfl⟩))
  go_quiet ((go_at_call 35; exact Calls.quiet_of_same (bits_any _ _)))
  go_wp2
  go_ret
  exact valid_post rfl (by repeat (first | exact Below.refl _ _ | refine below_drewN ?_ _ | refine Below.drew ?_ | refine Below.alloc ?_ (by simp) _)) H.out
theorem viff_float64_u (u : Int) (f : Nat) (s : ByteArray) (h : (u == 0) = false) : VIff (false) ⟨#[102, 108, 111, 97, 116, 54, 52]⟩ (0) (u) (f) s := by
  unfold VIff
  exact no_iff (by rintro ⟨v, ho, hk, hn, hu, hf, hs⟩; obtain ⟨a, rfl⟩ := inv_float64 hk; simp only [V.U] at hu; subst hu; simp at h)
set_option maxRecDepth 100000 in
set_option maxHeartbeats 1000000 in
theorem valid_float64_u (u : Int) (f : Nat) (s : ByteArray) (h : (u == 0) = false) (w : World) : Calls Tryd.prog 19 #[.agg #[.string ⟨#[102, 108, 111, 97, 116, 54, 52]⟩, .int .i64 0, .int .u64 u, .float .f64 f, .string s]] w (ValidPost ⟨#[102, 108, 111, 97, 116, 54, 52]⟩ (0) (u) (f) s w) := by
  have H := Lib.hid (viff_float64_u u f s h)
  go_enter Tryd.func19, Tryd.ntmps19
  go_wp2_with (first | (go_at_call 22; refine (width_float64 _).mono ?_; rintro e w' ⟨rfl, rfl⟩) | (go_at_call 39; refine (isFloat_float64 _).mono ?_; rintro e w' ⟨rfl, rfl⟩))
  go_quiet ((go_at_call 35; exact Calls.quiet_of_same (bits_any _ _)))
  go_wp2
  go_ret
  exact valid_post rfl (by repeat (first | exact Below.refl _ _ | refine below_drewN ?_ _ | refine Below.drew ?_ | refine Below.alloc ?_ (by simp) _)) H.out
theorem viff_float64_s (f : Nat) (s : ByteArray) (h : s.toList.isEmpty = false) : VIff (false) ⟨#[102, 108, 111, 97, 116, 54, 52]⟩ (0) (0) (f) s := by
  unfold VIff
  exact no_iff (by rintro ⟨v, ho, hk, hn, hu, hf, hs⟩; obtain ⟨a, rfl⟩ := inv_float64 hk; simp only [V.S] at hs; subst hs; simp at h)
set_option maxRecDepth 100000 in
set_option maxHeartbeats 1000000 in
theorem valid_float64_s (f : Nat) (s : ByteArray) (h : s.toList.isEmpty = false) (w : World) : Calls Tryd.prog 19 #[.agg #[.string ⟨#[102, 108, 111, 97, 116, 54, 52]⟩, .int .i64 0, .int .u64 0, .float .f64 f, .string s]] w (ValidPost ⟨#[102, 108, 111, 97, 116, 54, 52]⟩ (0) (0) (f) s w) := by
  have H := Lib.hid (viff_float64_s f s h)
  go_enter Tryd.func19, Tryd.ntmps19
  go_wp2_with (first | (go_at_call 22; refine (width_float64 _).mono ?_; rintro e w' ⟨rfl, rfl⟩) | (go_at_call 39; refine (isFloat_float64 _).mono ?_; rintro e w' ⟨rfl, rfl⟩))
  go_quiet ((go_at_call 35; exact Calls.quiet_of_same (bits_any _ _)))
  go_wp2
  go_ret
  exact valid_post rfl (by repeat (first | exact Below.refl _ _ | refine below_drewN ?_ _ | refine Below.drew ?_ | refine Below.alloc ?_ (by simp) _)) H.out
theorem viff_float64_f (f : Nat) : VIff (true) ⟨#[102, 108, 111, 97, 116, 54, 52]⟩ (0) (0) (f) ⟨#[]⟩ := by
  unfold VIff
  exact yes_iff ⟨.flt .f64 f, trivial, rfl, rfl, rfl, rfl, rfl⟩
set_option maxRecDepth 100000 in
set_option maxHeartbeats 1000000 in
theorem valid_float64_f (f : Nat) (w : World) : Calls Tryd.prog 19 #[.agg #[.string ⟨#[102, 108, 111, 97, 116, 54, 52]⟩, .int .i64 0, .int .u64 0, .float .f64 f, .string ⟨#[]⟩]] w (ValidPost ⟨#[102, 108, 111, 97, 116, 54, 52]⟩ (0) (0) (f) ⟨#[]⟩ w) := by
  have H := Lib.hid (viff_float64_f f)
  go_enter Tryd.func19, Tryd.ntmps19
  go_wp2_with (first | (go_at_call 22; refine (width_float64 _).mono ?_; rintro e w' ⟨rfl, rfl⟩) | (go_at_call 39; refine (isFloat_float64 _).mono ?_; rintro e w' ⟨rfl, rfl⟩))
  go_quiet ((go_at_call 35; exact Calls.quiet_of_same (bits_any _ _)))
  go_wp2
  go_ret
  exact valid_post rfl (by repeat (first | exact Below.refl _ _ | refine below_drewN ?_ _ | refine Below.drew ?_ | refine Below.alloc ?_ (by simp) _)) H.out
theorem viff_idealFloat_n (n u : Int) (f : Nat) (s : ByteArray) (h : (n == 0) = false) : VIff (false) ⟨#[105, 100, 101, 97, 108, 70, 108, 111, 97, 116]⟩ (n) (u) (f) s := by
  unfold VIff
  exact no_iff (by rintro ⟨v, ho, hk, hn, hu, hf, hs⟩; obtain ⟨a, rfl⟩ := inv_idealFloat hk; simp only [V.N] at hn; subst hn; simp at h)
set_option maxRecDepth 100000 in
set_option maxHeartbeats 1000000 in
theorem valid_idealFloat_n (n u : Int) (f : Nat) (s : ByteArray) (h : (n == 0) = false) (w : World) : Calls Tryd.prog 19 #[.agg #[.string ⟨#[105, 100, 101, 97, 108, 70, 108, 111, 97, 116]⟩, .int .i64 n, .int .u64 u, .float .f64 f, .string s]] w (ValidPost ⟨#[105, 100, 101, 97, 108, 70, 108, 111, 97, 116]⟩ (n) (u) (f) s w) := by
  have H := Lib.hid (viff_idealFloat_n n u f s h)
  go_enter Tryd.func19, Tryd.ntmps19
  go_wp2_with (first | (go_at_call 22; refine (width_idealFloat _).mono ?_; rintro e w' ⟨rfl, rfl⟩) | (go_at_call 39; refine (isFloat_idealFloat _).mono ?_; rintro e w' ⟨rfl, rfl⟩))
  go_quiet ((go_at_call 35; exact Calls.quiet_of_same (bits_any _ _)))
  go_wp2
  go_ret
  exact valid_post rfl (by repeat (first | exact Below.refl _ _ | refine below_drewN ?_ _ | refine Below.drew ?_ | refine Below.alloc ?_ (by simp) _)) H.out
theorem viff_idealFloat_u (u : Int) (f : Nat) (s : ByteArray) (h : (u == 0) = false) : VIff (false) ⟨#[105, 100, 101, 97, 108, 70, 108, 111, 97, 116]⟩ (0) (u) (f) s := by
  unfold VIff
  exact no_iff (by rintro ⟨v, ho, hk, hn, hu, hf, hs⟩; obtain ⟨a, rfl⟩ := inv_idealFloat hk; simp only [V.U] at hu; subst hu; simp at h)
set_option maxRecDepth 100000 in
set_option maxHeartbeats 1000000 in
theorem valid_idealFloat_u (u : Int) (f : Nat) (s : ByteArray) (h : (u == 0) = false) (w : World) : Calls Tryd.prog 19 #[.agg #[.string ⟨#[105, 100, 101, 97, 108, 70, 108, 111, 97, 116]⟩, .int .i64 0, .int .u64 u, .float .f64 f, .string s]] w (ValidPost ⟨#[105, 100, 101, 97, 108, 70, 108, 111, 97, 116]⟩ (0) (u) (f) s w) := by
  have H := Lib.hid (viff_idealFloat_u u f s h)
  go_enter Tryd.func19, Tryd.ntmps19
  go_wp2_with (first | (go_at_call 22; refine (width_idealFloat _).mono ?_; rintro e w' ⟨rfl, rfl⟩) | (go_at_call 39; refine (isFloat_idealFloat _).mono ?_; rintro e w' ⟨rfl, rfl⟩))
  go_quiet ((go_at_call 35; exact Calls.quiet_of_same (bits_any _ _)))
  go_wp2
  go_ret
  exact valid_post rfl (by repeat (first | exact Below.refl _ _ | refine below_drewN ?_ _ | refine Below.drew ?_ | refine Below.alloc ?_ (by simp) _)) H.out
theorem viff_idealFloat_s (f : Nat) (s : ByteArray) (h : s.toList.isEmpty = false) : VIff (false) ⟨#[105, 100, 101, 97, 108, 70, 108, 111, 97, 116]⟩ (0) (0) (f) s := by
  unfold VIff
  exact no_iff (by rintro ⟨v, ho, hk, hn, hu, hf, hs⟩; obtain ⟨a, rfl⟩ := inv_idealFloat hk; simp only [V.S] at hs; subst hs; simp at h)
set_option maxRecDepth 100000 in
set_option maxHeartbeats 1000000 in
theorem valid_idealFloat_s (f : Nat) (s : ByteArray) (h : s.toList.isEmpty = false) (w : World) : Calls Tryd.prog 19 #[.agg #[.string ⟨#[105, 100, 101, 97, 108, 70, 108, 111, 97, 116]⟩, .int .i64 0, .int .u64 0, .float .f64 f, .string s]] w (ValidPost ⟨#[105, 100, 101, 97, 108, 70, 108, 111, 97, 116]⟩ (0) (0) (f) s w) := by
  have H := Lib.hid (viff_idealFloat_s f s h)
  go_enter Tryd.func19, Tryd.ntmps19
  go_wp2_with (first | (go_at_call 22; refine (width_idealFloat _).mono ?_; rintro e w' ⟨rfl, rfl⟩) | (go_at_call 39; refine (isFloat_idealFloat _).mono ?_; rintro e w' ⟨rfl, rfl⟩))
  go_quiet ((go_at_call 35; exact Calls.quiet_of_same (bits_any _ _)))
  go_wp2
  go_ret
  exact valid_post rfl (by repeat (first | exact Below.refl _ _ | refine below_drewN ?_ _ | refine Below.drew ?_ | refine Below.alloc ?_ (by simp) _)) H.out
theorem viff_idealFloat_f (f : Nat) : VIff (true) ⟨#[105, 100, 101, 97, 108, 70, 108, 111, 97, 116]⟩ (0) (0) (f) ⟨#[]⟩ := by
  unfold VIff
  exact yes_iff ⟨.iFlt f, trivial, rfl, rfl, rfl, rfl, rfl⟩
set_option maxRecDepth 100000 in
set_option maxHeartbeats 1000000 in
theorem valid_idealFloat_f (f : Nat) (w : World) : Calls Tryd.prog 19 #[.agg #[.string ⟨#[105, 100, 101, 97, 108, 70, 108, 111, 97, 116]⟩, .int .i64 0, .int .u64 0, .float .f64 f, .string ⟨#[]⟩]] w (ValidPost ⟨#[105, 100, 101, 97, 108, 70, 108, 111, 97, 116]⟩ (0) (0) (f) ⟨#[]⟩ w) := by
  have H := Lib.hid (viff_idealFloat_f f)
  go_enter Tryd.func19, Tryd.ntmps19
  go_wp2_with (first | (go_at_call 22; refine (width_idealFloat _).mono ?_; rintro e w' ⟨rfl, rfl⟩) | (go_at_call 39; refine (isFloat_idealFloat _).mono ?_; rintro e w' ⟨rfl, rfl⟩))
  go_quiet ((go_at_call 35; exact Calls.quiet_of_same (bits_any _ _)))
  go_wp2
  go_ret
  exact valid_post rfl (by repeat (first | exact Below.refl _ _ | refine below_drewN ?_ _ | refine Below.drew ?_ | refine Below.alloc ?_ (by simp) _)) H.out
theorem viff_float32_n (n u : Int) (f : Nat) (s : ByteArray) (h : (n == 0) = false) : VIff (false) ⟨#[102, 108, 111, 97, 116, 51, 50]⟩ (n) (u) (f) s := by
  unfold VIff
  exact no_iff (by rintro ⟨v, ho, hk, hn, hu, hf, hs⟩; obtain ⟨a, rfl⟩ := inv_float32 hk; simp only [V.N] at hn; subst hn; simp at h)
set_option maxRecDepth 100000 in
set_option maxHeartbeats 1000000 in
theorem valid_float32_n (n u : Int) (f : Nat) (s : ByteArray) (h : (n == 0) = false) (w : World) : Calls Tryd.prog 19 #[.agg #[.string ⟨#[102, 108, 111, 97, 116, 51, 50]⟩, .int .i64 n, .int .u64 u, .float .f64 f, .string s]] w (ValidPost ⟨#[102, 108, 111, 97, 116, 51, 50]⟩ (n) (u) (f) s w) := by
  have H := Lib.hid (viff_float32_n n u f s h)
  go_enter Tryd.func19, Tryd.ntmps19
  go_wp2_with (first | (go_at_call 22; refine (width_float32 _).mono ?_; rintro e w' ⟨rfl, rfl⟩) | (go_at_call 39; refine (isFloat_float32 _).mono ?_; rintro e w' ⟨rfl, rfl⟩))
  go_quiet ((go_at_call 35; exact Calls.quiet_of_same (bits_any _ _)))
  go_wp2
  go_ret
  exact valid_post rfl (by repeat (first | exact Below.refl _ _ | refine below_drewN ?_ _ | refine Below.drew ?_ | refine Below.alloc ?_ (by simp) _)) H.out
theorem viff_float32_u (u : Int) (f : Nat) (s : ByteArray) (h : (u == 0) = false) : VIff (false) ⟨#[102, 108, 111, 97, 116, 51, 50]⟩ (0) (u) (f) s := by
  unfold VIff
  exact no_iff (by rintro ⟨v, ho, hk, hn, hu, hf, hs⟩; obtain ⟨a, rfl⟩ := inv_float32 hk; simp only [V.U] at hu; subst hu; simp at h)
set_option maxRecDepth 100000 in
set_option maxHeartbeats 1000000 in
theorem valid_float32_u (u : Int) (f : Nat) (s : ByteArray) (h : (u == 0) = false) (w : World) : Calls Tryd.prog 19 #[.agg #[.string ⟨#[102, 108, 111, 97, 116, 51, 50]⟩, .int .i64 0, .int .u64 u, .float .f64 f, .string s]] w (ValidPost ⟨#[102, 108, 111, 97, 116, 51, 50]⟩ (0) (u) (f) s w) := by
  have H := Lib.hid (viff_float32_u u f s h)
  go_enter Tryd.func19, Tryd.ntmps19
  go_wp2_with (first | (go_at_call 22; refine (width_float32 _).mono ?_; rintro e w' ⟨rfl, rfl⟩) | (go_at_call 39; refine (isFloat_float32 _).mono ?_; rintro e w' ⟨rfl, rfl⟩))
  go_quiet ((go_at_call 35; exact Calls.quiet_of_same (bits_any _ _)))
  go_wp2
  go_ret
  exact valid_post rfl (by repeat (first | exact Below.refl _ _ | refine below_drewN ?_ _ | refine Below.drew ?_ | refine Below.alloc ?_ (by simp) _)) H.out
theorem viff_float32_s (f : Nat) (s : ByteArray) (h : s.toList.isEmpty = false) : VIff (false) ⟨#[102, 108, 111, 97, 116, 51, 50]⟩ (0) (0) (f) s := by
  unfold VIff
  exact no_iff (by rintro ⟨v, ho, hk, hn, hu, hf, hs⟩; obtain ⟨a, rfl⟩ := inv_float32 hk; simp only [V.S] at hs; subst hs; simp at h)
set_option maxRecDepth 100000 in
set_option maxHeartbeats 1000000 in
theorem valid_float32_s (f : Nat) (s : ByteArray) (h : s.toList.isEmpty = false) (w : World) : Calls Tryd.prog 19 #[.agg #[.string ⟨#[102, 108, 111, 97, 116, 51, 50]⟩, .int .i64 0, .int .u64 0, .float .f64 f, .string s]] w (ValidPost ⟨#[102, 108, 111, 97, 116, 51, 50]⟩ (0) (0) (f) s w) := by
  have H := Lib.hid (viff_float32_s f s h)
  go_enter Tryd.func19, Tryd.ntmps19
  go_wp2_with (first | (go_at_call 22; refine (width_float32 _).mono ?_; rintro e w' ⟨rfl, rfl⟩) | (go_at_call 39; refine (isFloat_float32 _).mono ?_; rintro e w' ⟨rfl, rfl⟩))
  go_quiet ((go_at_call 35; exact Calls.quiet_of_same (bits_any _ _)))
  go_wp2
  go_ret
  exact valid_post rfl (by repeat (first | exact Below.refl _ _ | refine below_drewN ?_ _ | refine Below.drew ?_ | refine Below.alloc ?_ (by simp) _)) H.out
theorem viff_bool_u (n u : Int) (f : Nat) (s : ByteArray) (h : (u == 0) = false) : VIff (false) ⟨#[98, 111, 111, 108]⟩ (n) (u) (f) s := by
  unfold VIff
  exact no_iff (by rintro ⟨v, ho, hk, hn, hu, hf, hs⟩; obtain ⟨a, rfl⟩ := inv_bool hk; simp only [V.U] at hu; subst hu; simp at h)
set_option maxRecDepth 100000 in
set_option maxHeartbeats 1000000 in
theorem valid_bool_u (n u : Int) (f : Nat) (s : ByteArray) (h : (u == 0) = false) (w : World) : Calls Tryd.prog 19 #[.agg #[.string ⟨#[98, 111, 111, 108]⟩, .int .i64 n, .int .u64 u, .float .f64 f, .string s]] w (ValidPost ⟨#[98, 111, 111, 108]⟩ (n) (u) (f) s w) := by
  have H := Lib.hid (viff_bool_u n u f s h)
  go_enter Tryd.func19, Tryd.ntmps19
  go_wp2_with (first | (go_at_call 22; refine (width_bool _).mono ?_; rintro e w' ⟨rfl, rfl⟩) | (go_at_call 39; refine (isFloat_bool _).mono ?_; rintro e w' ⟨rfl, rfl⟩) | (go_at_call 35; refine (bits_any _ _).mono ?_; rintro e w' ⟨rfl, rfl⟩))
  go_ret
  exact valid_post rfl (by repeat (first | exact Below.refl _ _ | refine below_drewN ?_ _ | refine Below.drew ?_ | refine Below.alloc ?_ (by simp) _)) H.out
theorem viff_bool_f (n : Int) (f : Nat) (s : ByteArray) (h : ((bitsB f : Int) == 0) = false) : VIff (false) ⟨#[98, 111, 111, 108]⟩ (n) (0) (f) s := by
  unfold VIff
  exact no_iff (by rintro ⟨v, ho, hk, hn, hu, hf, hs⟩; obtain ⟨a, rfl⟩ := inv_bool hk; simp only [V.F] at hf; subst hf; rw [bits_zero] at h; simp at h)
set_option maxRecDepth 100000 in
set_option maxHeartbeats 1000000 in
theorem valid_bool_f (n : Int) (f : Nat) (s : ByteArray) (h : ((bitsB f : Int) == 0) = false) (w : World) : Calls Tryd.prog 19 #[.agg #[.string ⟨#[98, 111, 111, 108]⟩, .int .i64 n, .int .u64 0, .float .f64 f, .string s]] w (ValidPost ⟨#[98, 111, 111, 108]⟩ (n) (0) (f) s w) := by
  have H := Lib.hid (viff_bool_f n f s h)
  go_enter Tryd.func19, Tryd.ntmps19
  go_wp2_with (first | (go_at_call 22; refine (width_bool _).mono ?_; rintro e w' ⟨rfl, rfl⟩) | (go_at_call 39; refine (isFloat_bool _).mono ?_; rintro e w' ⟨rfl, rfl⟩) | (go_at_call 35; refine (bits_any _ _).mono ?_; rintro e w' ⟨rfl, rfl⟩))
  go_ret
  exact valid_post rfl (by repeat (first | exact Below.refl _ _ | refine below_drewN ?_ _ | refine Below.drew ?_ | refine Below.alloc ?_ (by simp) _)) H.out
theorem viff_bool_s (n : Int) (s : ByteArray) (h : s.toList.isEmpty = false) : VIff (false) ⟨#[98, 111, 111, 108]⟩ (n) (0) (0) s := by
  unfold VIff
  exact no_iff (by rintro ⟨v, ho, hk, hn, hu, hf, hs⟩; obtain ⟨a, rfl⟩ := inv_bool hk; simp only [V.S] at hs; subst hs; simp at h)
set_option maxRecDepth 100000 in
set_option maxHeartbeats 1000000 in
theorem valid_bool_s (n : Int) (s : ByteArray) (h : s.toList.isEmpty = false) (w : World) : Calls Tryd.prog 19 #[.agg #[.string ⟨#[98, 111, 111, 108]⟩, .int .i64 n, .int .u64 0, .float .f64 0, .string s]] w (ValidPost ⟨#[98, 111, 111, 108]⟩ (n) (0) (0) s w) := by
  have H := Lib.hid (viff_bool_s n s h)
  have hb0 := bits_zero
  go_enter Tryd.func19, Tryd.ntmps19
  go_wp2_with (first | (go_at_call 22; refine (width_bool _).mono ?_; rintro e w' ⟨rfl, rfl⟩) | (go_at_call 39; refine (isFloat_bool _).mono ?_; rintro e w' ⟨rfl, rfl⟩) | (go_at_call 35; refine (bits_any _ _).mono ?_; rintro e w' ⟨rfl, rfl⟩))
  go_ret
  exact valid_post rfl (by repeat (first | exact Below.refl _ _ | refine below_drewN ?_ _ | refine Below.drew ?_ | refine Below.alloc ?_ (by simp) _)) H.out
theorem viff_bool_n (n : Int) (h : (n == 0) = false) (h2 : (n == 1) = false) : VIff (false) ⟨#[98, 111, 111, 108]⟩ (n) (0) (0) ⟨#[]⟩ := by
  unfold VIff
  exact no_iff (by rintro ⟨v, ho, hk, hn, hu, hf, hs⟩; obtain ⟨a, rfl⟩ := inv_bool hk; cases a <;> simp [V.N] at hn <;> subst hn <;> simp at h h2)
set_option maxRecDepth 100000 in
set_option maxHeartbeats 1000000 in
theorem valid_bool_n (n : Int) (h : (n == 0) = false) (h2 : (n == 1) = false) (w : World) : Calls Tryd.prog 19 #[.agg #[.string ⟨#[98, 111, 111, 108]⟩, .int .i64 n, .int .u64 0, .float .f64 0, .string ⟨#[]⟩]] w (ValidPost ⟨#[98, 111, 111, 108]⟩ (n) (0) (0) ⟨#[]⟩ w) := by
  have H := Lib.hid (viff_bool_n n h h2)
  have hb0 := bits_zero
  go_enter Tryd.func19, Tryd.ntmps19
  go_wp2_with (first | (go_at_call 22; refine (width_bool _).mono ?_; rintro e w' ⟨rfl, rfl⟩) | (go_at_call 39; refine (isFloat_bool _).mono ?_; rintro e w' ⟨rfl, rfl⟩) | (go_at_call 35; refine (bits_any _ _).mono ?_; rintro e w' ⟨rfl, rfl⟩))
  go_ret
  exact valid_post rfl (by repeat (first | exact Below.refl _ _ | refine below_drewN ?_ _ | refine Below.drew ?_ | refine Below.alloc ?_ (by simp) _)) H.out
theorem viff_bool_n0 : VIff (true) ⟨#[98, 111, 111, 108]⟩ (0) (0) (0) ⟨#[]⟩ := by
  unfold VIff
  exact yes_iff ⟨.bool false, trivial, rfl, rfl, rfl, rfl, rfl⟩
set_option maxRecDepth 100000 in
set_option maxHeartbeats 1000000 in
theorem valid_bool_n0 (w : World) : Calls Tryd.prog 19 #[.agg #[.string ⟨#[98, 111, 111, 108]⟩, .int .i64 0, .int .u64 0, .float .f64 0, .string ⟨#[]⟩]] w (ValidPost ⟨#[98, 111, 111, 108]⟩ (0) (0) (0) ⟨#[]⟩ w) := by
  have H := Lib.hid (viff_bool_n0 )
  have hb0 := bits_zero
  go_enter Tryd.func19, Tryd.ntmps19
  go_wp2_with (first | (go_at_call 22; refine (width_bool _).mono ?_; rintro e w' ⟨rfl, rfl⟩) | (go_at_call 39; refine (isFloat_bool _).mono ?_; rintro e w' ⟨rfl, rfl⟩) | (go_at_call 35; refine (bits_any _ _).mono ?_; rintro e w' ⟨rfl, rfl⟩))
  go_ret
  exact valid_post rfl (by repeat (first | exact Below.refl _ _ | refine below_drewN ?_ _ | refine Below.drew ?_ | refine Below.alloc ?_ (by simp) _)) H.out
theorem viff_bool_n1 : VIff (true) ⟨#[98, 111, 111, 108]⟩ (1) (0) (0) ⟨#[]⟩ := by
  unfold VIff
  exact yes_iff ⟨.bool true, trivial, rfl, rfl, rfl, rfl, rfl⟩
set_option maxRecDepth 100000 in
set_option maxHeartbeats 1000000 in
theorem valid_bool_n1 (w : World) : Calls Tryd.prog 19 #[.agg #[.string ⟨#[98, 111, 111, 108]⟩, .int .i64 1, .int .u64 0, .float .f64 0, .string ⟨#[]⟩]] w (ValidPost ⟨#[98, 111, 111, 108]⟩ (1) (0) (0) ⟨#[]⟩ w) := by
  have H := Lib.hid (viff_bool_n1 )
  have hb0 := bits_zero
  go_enter Tryd.func19, Tryd.ntmps19
  go_wp2_with (first | (go_at_call 22; refine (width_bool _).mono ?_; rintro e w' ⟨rfl, rfl⟩) | (go_at_call 39; refine (isFloat_bool _).mono ?_; rintro e w' ⟨rfl, rfl⟩) | (go_at_call 35; refine (bits_any _ _).mono ?_; rintro e w' ⟨rfl, rfl⟩))
  go_ret
  exact valid_post rfl (by repeat (first | exact Below.refl _ _ | refine below_drewN ?_ _ | refine Below.drew ?_ | refine Below.alloc ?_ (by simp) _)) H.out
theorem viff_string_n (n u : Int) (f : Nat) (s : ByteArray) (h : (n == 0) = false) : VIff (false) ⟨#[115, 116, 114, 105, 110, 103]⟩ (n) (u) (f) s := by
  unfold VIff
  exact no_iff (by rintro ⟨v, ho, hk, hn, hu, hf, hs⟩; obtain ⟨a, rfl⟩ := inv_string hk; simp only [V.N] at hn; subst hn; simp at h)
set_option maxRecDepth 100000 in
set_option maxHeartbeats 1000000 in
theorem valid_string_n (n u : Int) (f : Nat) (s : ByteArray) (h : (n == 0) = false) (w : World) : Calls Tryd.prog 19 #[.agg #[.string ⟨#[115, 116, 114, 105, 110, 103]⟩, .int .i64 n, .int .u64 u, .float .f64 f, .string s]] w (ValidPost ⟨#[115, 116, 114, 105, 110, 103]⟩ (n) (u) (f) s w) := by
  have H := Lib.hid (viff_string_n n u f s h)
  go_enter Tryd.func19, Tryd.ntmps19
  go_wp2_with (first | (go_at_call 22; refine (width_string _).mono ?_; rintro e w' ⟨rfl, rfl⟩) | (go_at_call 39; refine (isFloat_string _).mono ?_; rintro e w' ⟨rfl, rfl⟩) | (go_at_call 35; refine (bits_any _ _).mono ?_; rintro e w' ⟨rfl, rfl⟩))
  go_ret
  exact valid_post rfl (by repeat (first | exact Below.refl _ _ | refine below_drewN ?_ _ | refine Below.drew ?_ | refine Below.alloc ?_ (by simp) _)) H.out
theorem viff_string_u (u : Int) (f : Nat) (s : ByteArray) (h : (u == 0) = false) : VIff (false) ⟨#[115, 116, 114, 105, 110, 103]⟩ (0) (u) (f) s := by
  unfold VIff
  exact no_iff (by rintro ⟨v, ho, hk, hn, hu, hf, hs⟩; obtain ⟨a, rfl⟩ := inv_string hk; simp only [V.U] at hu; subst hu; simp at h)
set_option maxRecDepth 100000 in
set_option maxHeartbeats 1000000 in
theorem valid_string_u (u : Int) (f : Nat) (s : ByteArray) (h : (u == 0) = false) (w : World) : Calls Tryd.prog 19 #[.agg #[.string ⟨#[115, 116, 114, 105, 110, 103]⟩, .int .i64 0, .int .u64 u, .float .f64 f, .string s]] w (ValidPost ⟨#[115, 116, 114, 105, 110, 103]⟩ (0) (u) (f) s w) := by
  have H := Lib.hid (viff_string_u u f s h)
  go_enter Tryd.func19, Tryd.ntmps19
  go_wp2_with (first | (go_at_call 22; refine (width_string _).mono ?_; rintro e w' ⟨rfl, rfl⟩) | (go_at_call 39; refine (isFloat_string _).mono ?_; rintro e w' ⟨rfl, rfl⟩) | (go_at_call 35; refine (bits_any _ _).mono ?_; rintro e w' ⟨rfl, rfl⟩))
  go_ret
  exact valid_post rfl (by repeat (first | exact Below.refl _ _ | refine below_drewN ?_ _ | refine Below.drew ?_ | refine Below.alloc ?_ (by simp) _)) H.out
theorem viff_string_f (f : Nat) (s : ByteArray) (h : ((bitsB f : Int) == 0) = false) : VIff (false) ⟨#[115, 116, 114, 105, 110, 103]⟩ (0) (0) (f) s := by
  unfold VIff
  exact no_iff (by rintro ⟨v, ho, hk, hn, hu, hf, hs⟩; obtain ⟨a, rfl⟩ := inv_string hk; simp only [V.F] at hf; subst hf; rw [bits_zero] at h; simp at h)
set_option maxRecDepth 100000 in
set_option maxHeartbeats 1000000 in
theorem valid_string_f (f : Nat) (s : ByteArray) (h : ((bitsB f : Int) == 0) = false) (w : World) : Calls Tryd.prog 19 #[.agg #[.string ⟨#[115, 116, 114, 105, 110, 103]⟩, .int .i64 0, .int .u64 0, .float .f64 f, .string s]] w (ValidPost ⟨#[115, 116, 114, 105, 110, 103]⟩ (0) (0) (f) s w) := by
  have H := Lib.hid (viff_string_f f s h)
  go_enter Tryd.func19, Tryd.ntmps19
  go_wp2_with (first | (go_at_call 22; refine (width_string _).mono ?_; rintro e w' ⟨rfl, rfl⟩) | (go_at_call 39; refine (isFloat_string _).mono ?_; rintro e w' ⟨rfl, rfl⟩) | (go_at_call 35; refine (bits_any _ _).mono ?_; rintro e w' ⟨rfl, rfl⟩))
  go_ret
  exact valid_post rfl (by repeat (first | exact Below.refl _ _ | refine below_drewN ?_ _ | refine Below.drew ?_ | refine Below.alloc ?_ (by simp) _)) H.out
theorem viff_string_s (s : ByteArray) : VIff (decide ((s.size : Int) ≤ 65536)) ⟨#[115, 116, 114, 105, 110, 103]⟩ (0) (0) (0) s := by
  unfold VIff
  constructor
  · intro h
    have h1 : (s.size : Int) ≤ 65536 := by simpa using h
    exact ⟨.str s, (by show s.size ≤ 65536; omega), rfl, rfl, rfl, rfl, rfl⟩
  · rintro ⟨v, ho, hk, hn, hu, hf, hs⟩
    obtain ⟨a, rfl⟩ := inv_string hk
    simp only [V.S] at hs
    subst hs
    have h1 : a.size ≤ 65536 := ho
    simp
    omega
set_option maxRecDepth 100000 in
set_option maxHeartbeats 1000000 in
theorem valid_string_s (s : ByteArray) (w : World) : Calls Tryd.prog 19 #[.agg #[.string ⟨#[115, 116, 114, 105, 110, 103]⟩, .int .i64 0, .int .u64 0, .float .f64 0, .string s]] w (ValidPost ⟨#[115, 116, 114, 105, 110, 103]⟩ (0) (0) (0) s w) := by
  have H := Lib.hid (viff_string_s s)
  have hb0 := bits_zero
  go_enter Tryd.func19, Tryd.ntmps19
  go_wp2_with (first | (go_at_call 22; refine (width_string _).mono ?_; rintro e w' ⟨rfl, rfl⟩) | (go_at_call 39; refine (isFloat_string _).mono ?_; rintro e w' ⟨rfl, rfl⟩) | (go_at_call 35; refine (bits_any _ _).mono ?_; rintro e w' ⟨rfl, rfl⟩))
  go_ret
  exact valid_post rfl (by repeat (first | exact Below.refl _ _ | refine below_drewN ?_ _ | refine Below.drew ?_ | refine Below.alloc ?_ (by simp) _)) H.out
theorem viff_blob_n (n u : Int) (f : Nat) (s : ByteArray) (h : (n == 0) = false) : VIff (false) ⟨#[98, 108, 111, 98]⟩ (n) (u) (f) s := by
  unfold VIff
  exact no_iff (by rintro ⟨v, ho, hk, hn, hu, hf, hs⟩; obtain ⟨a, rfl⟩ := inv_blob hk; simp only [V.N] at hn; subst hn; simp at h)
set_option maxRecDepth 100000 in
set_option maxHeartbeats 1000000 in
theorem valid_blob_n (n u : Int) (f : Nat) (s : ByteArray) (h : (n == 0) = false) (w : World) : Calls Tryd.prog 19 #[.agg #[.string ⟨#[98, 108, 111, 98]⟩, .int .i64 n, .int .u64 u, .float .f64 f, .string s]] w (ValidPost ⟨#[98, 108, 111, 98]⟩ (n) (u) (f) s w) := by
  have H := Lib.hid (viff_blob_n n u f s h)
  go_enter Tryd.func19, Tryd.ntmps19
  go_wp2_with (first | (go_at_call 22; refine (width_blob _).mono ?_; rintro e w' ⟨rfl, rfl⟩) | (go_at_call 39; refine (isFloat_blob _).mono ?_; rintro e w' ⟨rfl, rfl⟩) | (go_at_call 35; refine (bits_any _ _).mono ?_; rintro e w' ⟨rfl, rfl⟩))
  go_ret
  exact valid_post rfl (by repeat (first | exact Below.refl _ _ | refine below_drewN ?_ _ | refine Below.drew ?_ | refine Below.alloc ?_ (by simp) _)) H.out
theorem viff_blob_u (u : Int) (f : Nat) (s : ByteArray) (h : (u == 0) = false) : VIff (false) ⟨#[98, 108, 111, 98]⟩ (0) (u) (f) s := by
  unfold VIff
  exact no_iff (by rintro ⟨v, ho, hk, hn, hu, hf, hs⟩; obtain ⟨a, rfl⟩ := inv_blob hk; simp only [V.U] at hu; subst hu; simp at h)
set_option maxRecDepth 100000 in
set_option maxHeartbeats 1000000 in
theorem valid_blob_u (u : Int) (f : Nat) (s : ByteArray) (h : (u == 0) = false) (w : World) : Calls Tryd.prog 19 #[.agg #[.string ⟨#[98, 108, 111, 98]⟩, .int .i64 0, .int .u64 u, .float .f64 f, .string s]] w (ValidPost ⟨#[98, 108, 111, 98]⟩ (0) (u) (f) s w) := by
  have H := Lib.hid (viff_blob_u u f s h)
  go_enter Tryd.func19, Tryd.ntmps19
  go_wp2_with (first | (go_at_call 22; refine (width_blob _).mono ?_; rintro e w' ⟨rfl, rfl⟩) | (go_at_call 39; refine (isFloat_blob _).mono ?_; rintro e w' ⟨rfl, rfl⟩) | (go_at_call 35; refine (bits_any _ _).mono ?_; rintro e w' ⟨rfl, rfl⟩))
  go_ret
  exact valid_post rfl (by repeat (first | exact Below.refl _ _ | refine below_drewN ?_ _ | refine Below.drew ?_ | refine Below.alloc ?_ (by simp) _)) H.out
theorem viff_blob_f (f : Nat) (s : ByteArray) (h : ((bitsB f : Int) == 0) = false) : VIff (false) ⟨#[98, 108, 111, 98]⟩ (0) (0) (f) s := by
  unfold VIff
  exact no_iff (by rintro ⟨v, ho, hk, hn, hu, hf, hs⟩; obtain ⟨a, rfl⟩ := inv_blob hk; simp only [V.F] at hf; subst hf; rw [bits_zero] at h; simp at h)
set_option maxRecDepth 100000 in
set_option maxHeartbeats 1000000 in
theorem valid_blob_f (f : Nat) (s : ByteArray) (h : ((bitsB f : Int) == 0) = false) (w : World) : Calls Tryd.prog 19 #[.agg #[.string ⟨#[98, 108, 111, 98]⟩, .int .i64 0, .int .u64 0, .float .f64 f, .string s]] w (ValidPost ⟨#[98, 108, 111, 98]⟩ (0) (0) (f) s w) := by
  have H := Lib.hid (viff_blob_f f s h)
  go_enter Tryd.func19, Tryd.ntmps19
  go_wp2_with (first | (go_at_call 22; refine (width_blob _).mono ?_; rintro e w' ⟨rfl, rfl⟩) | (go_at_call 39; refine (isFloat_blob _).mono ?_; rintro e w' ⟨rfl, rfl⟩) | (go_at_call 35; refine (bits_any _ _).mono ?_; rintro e w' ⟨rfl, rfl⟩))
  go_ret
  exact valid_post rfl (by repeat (first | exact Below.refl _ _ | refine below_drewN ?_ _ | refine Below.drew ?_ | refine Below.alloc ?_ (by simp) _)) H.out
theorem viff_blob_s (s : ByteArray) : VIff (decide ((s.size : Int) ≤ 65536)) ⟨#[98, 108, 111, 98]⟩ (0) (0) (0) s := by
  unfold VIff
  constructor
  · intro h
    have h1 : (s.size : Int) ≤ 65536 := by simpa using h
    exact ⟨.blob s, (by show s.size ≤ 65536; omega), rfl, rfl, rfl, rfl, rfl⟩
  · rintro ⟨v, ho, hk, hn, hu, hf, hs⟩
    obtain ⟨a, rfl⟩ := inv_blob hk
    simp only [V.S] at hs
    subst hs
    have h1 : a.size ≤ 65536 := ho
    simp
    omega
set_option maxRecDepth 100000 in
set_option maxHeartbeats 1000000 in
theorem valid_blob_s (s : ByteArray) (w : World) : Calls Tryd.prog 19 #[.agg #[.string ⟨#[98, 108, 111, 98]⟩, .int .i64 0, .int .u64 0, .float .f64 0, .string s]] w (ValidPost ⟨#[98, 108, 111, 98]⟩ (0) (0) (0) s w) := by
  have H := Lib.hid (viff_blob_s s)
  have hb0 := bits_zero
  go_enter Tryd.func19, Tryd.ntmps19
  go_wp2_with (first | (go_at_call 22; refine (width_blob _).mono ?_; rintro e w' ⟨rfl, rfl⟩) | (go_at_call 39; refine (isFloat_blob _).mono ?_; rintro e w' ⟨rfl, rfl⟩) | (go_at_call 35; refine (bits_any _ _).mono ?_; rintro e w' ⟨rfl, rfl⟩))
  go_ret
  exact valid_post rfl (by repeat (first | exact Below.refl _ _ | refine below_drewN ?_ _ | refine Below.drew ?_ | refine Below.alloc ?_ (by simp) _)) H.out
theorem viff_null_n (n u : Int) (f : Nat) (s : ByteArray) (h : (n == 0) = false) : VIff (false) ⟨#[]⟩ (n) (u) (f) s := by
  unfold VIff
  exact no_iff (by rintro ⟨v, ho, hk, hn, hu, hf, hs⟩; obtain rfl := inv_null hk; simp only [V.N] at hn; subst hn; simp at h)
set_option maxRecDepth 100000 in
set_option maxHeartbeats 1000000 in
theorem valid_null_n (n u : Int) (f : Nat) (s : ByteArray) (h : (n == 0) = false) (w : World) : Calls Tryd.prog 19 #[.agg #[.string ⟨#[]⟩, .int .i64 n, .int .u64 u, .float .f64 f, .string s]] w (ValidPost ⟨#[]⟩ (n) (u) (f) s w) := by
  have H := Lib.hid (viff_null_n n u f s h)
  go_enter Tryd.func19, Tryd.ntmps19
  go_wp2_with (first | (go_at_call 22; refine (width_null _).mono ?_; rintro e w' ⟨rfl, rfl⟩) | (go_at_call 39; refine (isFloat_null _).mono ?_; rintro e w' ⟨rfl, rfl⟩) | (go_at_call 35; refine (bits_any _ _).mono ?_; rintro e w' ⟨rfl, rfl⟩))
  go_ret
  exact valid_post rfl (by repeat (first | exact Below.refl _ _ | refine below_drewN ?_ _ | refine Below.drew ?_ | refine Below.alloc ?_ (by simp) _)) H.out
theorem viff_null_u (u : Int) (f : Nat) (s : ByteArray) (h : (u == 0) = false) : VIff (false) ⟨#[]⟩ (0) (u) (f) s := by
  unfold VIff
  exact no_iff (by rintro ⟨v, ho, hk, hn, hu, hf, hs⟩; obtain rfl := inv_null hk; simp only [V.U] at hu; subst hu; simp at h)
set_option maxRecDepth 100000 in
set_option maxHeartbeats 1000000 in
theorem valid_null_u (u : Int) (f : Nat) (s : ByteArray) (h : (u == 0) = false) (w : World) : Calls Tryd.prog 19 #[.agg #[.string ⟨#[]⟩, .int .i64 0, .int .u64 u, .float .f64 f, .string s]] w (ValidPost ⟨#[]⟩ (0) (u) (f) s w) := by
  have H := Lib.hid (viff_null_u u f s h)
  go_enter Tryd.func19, Tryd.ntmps19
  go_wp2_with (first | (go_at_call 22; refine (width_null _).mono ?_; rintro e w' ⟨rfl, rfl⟩) | (go_at_call 39; refine (isFloat_null _).mono ?_; rintro e w' ⟨rfl, rfl⟩) | (go_at_call 35; refine (bits_any _ _).mono ?_; rintro e w' ⟨rfl, rfl⟩))
  go_ret
  exact valid_post rfl (by repeat (first | exact Below.refl _ _ | refine below_drewN ?_ _ | refine Below.drew ?_ | refine Below.alloc ?_ (by simp) _)) H.out
theorem viff_null_f (f : Nat) (s : ByteArray) (h : ((bitsB f : Int) == 0) = false) : VIff (false) ⟨#[]⟩ (0) (0) (f) s := by
  unfold VIff
  exact no_iff (by rintro ⟨v, ho, hk, hn, hu, hf, hs⟩; obtain rfl := inv_null hk; simp only [V.F] at hf; subst hf; rw [bits_zero] at h; simp at h)
set_option maxRecDepth 100000 in
set_option maxHeartbeats 1000000 in
theorem valid_null_f (f : Nat) (s : ByteArray) (h : ((bitsB f : Int) == 0) = false) (w : World) : Calls Tryd.prog 19 #[.agg #[.string ⟨#[]⟩, .int .i64 0, .int .u64 0, .float .f64 f, .string s]] w (ValidPost ⟨#[]⟩ (0) (0) (f) s w) := by
  have H := Lib.hid (viff_null_f f s h)
  go_enter Tryd.func19, Tryd.ntmps19
  go_wp2_with (first | (go_at_call 22; refine (width_null _).mono ?_; rintro e w' ⟨rfl, rfl⟩) | (go_at_call 39; refine (isFloat_null _).mono ?_; rintro e w' ⟨rfl, rfl⟩) | (go_at_call 35; refine (bits_any _ _).mono ?_; rintro e w' ⟨rfl, rfl⟩))
  go_ret
  exact valid_post rfl (by repeat (first | exact Below.refl _ _ | refine below_drewN ?_ _ | refine Below.drew ?_ | refine Below.alloc ?_ (by simp) _)) H.out
theorem viff_null_s (s : ByteArray) (h : s.toList.isEmpty = false) : VIff (false) ⟨#[]⟩ (0) (0) (0) s := by
  unfold VIff
  exact no_iff (by rintro ⟨v, ho, hk, hn, hu, hf, hs⟩; obtain rfl := inv_null hk; simp only [V.S] at hs; subst hs; simp at h)
set_option maxRecDepth 100000 in
set_option maxHeartbeats 1000000 in
theorem valid_null_s (s : ByteArray) (h : s.toList.isEmpty = false) (w : World) : Calls Tryd.prog 19 #[.agg #[.string ⟨#[]⟩, .int .i64 0, .int .u64 0, .float .f64 0, .string s]] w (ValidPost ⟨#[]⟩ (0) (0) (0) s w) := by
  have H := Lib.hid (viff_null_s s h)
  have hb0 := bits_zero
  go_enter Tryd.func19, Tryd.ntmps19
  go_wp2_with (first | (go_at_call 22; refine (width_null _).mono ?_; rintro e w' ⟨rfl, rfl⟩) | (go_at_call 39; refine (isFloat_null _).mono ?_; rintro e w' ⟨rfl, rfl⟩) | (go_at_call 35; refine (bits_any _ _).mono ?_; rintro e w' ⟨rfl, rfl⟩))
  go_ret
  exact valid_post rfl (by repeat (first | exact Below.refl _ _ | refine below_drewN ?_ _ | refine Below.drew ?_ | refine Below.alloc ?_ (by simp) _)) H.out
theorem viff_null_t : VIff (true) ⟨#[]⟩ (0) (0) (0) ⟨#[]⟩ := by
  unfold VIff
  exact yes_iff ⟨.null, trivial, rfl, rfl, rfl, rfl, rfl⟩
set_option maxRecDepth 100000 in
set_option maxHeartbeats 1000000 in
theorem valid_null_t (w : World) : Calls Tryd.prog 19 #[.agg #[.string ⟨#[]⟩, .int .i64 0, .int .u64 0, .float .f64 0, .string ⟨#[]⟩]] w (ValidPost ⟨#[]⟩ (0) (0) (0) ⟨#[]⟩ w) := by
  have H := Lib.hid (viff_null_t )
  have hb0 := bits_zero
  go_enter Tryd.func19, Tryd.ntmps19
  go_wp2_with (first | (go_at_call 22; refine (width_null _).mono ?_; rintro e w' ⟨rfl, rfl⟩) | (go_at_call 39; refine (isFloat_null _).mono ?_; rintro e w' ⟨rfl, rfl⟩) | (go_at_call 35; refine (bits_any _ _).mono ?_; rintro e w' ⟨rfl, rfl⟩))
  go_ret
  exact valid_post rfl (by repeat (first | exact Below.refl _ _ | refine below_drewN ?_ _ | refine Below.drew ?_ | refine Below.alloc ?_ (by simp) _)) H.out
theorem viff_other_t (k : ByteArray) (h1 : (k.toList == [98, 111, 111, 108]) = false) (h2 : (k.toList == [105, 110, 116, 56]) = false) (h3 : (k.toList == [105, 110, 116, 49, 54]) = false) (h4 : (k.toList == [105, 110, 116, 51, 50]) = false) (h5 : (k.toList == [105, 110, 116, 54, 52]) = false) (h6 : (k.toList == [117, 105, 110, 116, 56]) = false) (h7 : (k.toList == [117, 105, 110, 116, 49, 54]) = false) (h8 : (k.toList == [117, 105, 110, 116, 51, 50]) = false) (h9 : (k.toList == [117, 105, 110, 116, 54, 52]) = false) (h10 : (k.toList == [102, 108, 111, 97, 116, 51, 50]) = false) (h11 : (k.toList == [102, 108, 111, 97, 116, 54, 52]) = false) (h12 : (k.toList == [115, 116, 114, 105, 110, 103]) = false) (h13 : (k.toList == [98, 108, 111, 98]) = false) (h14 : (k.toList == [105, 100, 101, 97, 108, 73, 110, 116]) = false) (h15 : (k.toList == [105, 100, 101, 97, 108, 82, 117, 110, 101]) = false) (h16 : (k.toList == [105, 100, 101, 97, 108, 85, 105, 110, 116]) = false) (h17 : (k.toList == [105, 100, 101, 97, 108, 70, 108, 111, 97, 116]) = false) (he : k.toList.isEmpty = false) (n u : Int) (f : Nat) (s : ByteArray) : VIff (false) k (n) (u) (f) s := by
  unfold VIff
  refine no_iff ?_
  rintro ⟨v, ho, rfl, hn, hu, hf, hs⟩
  rcases v.known with g | g | g | g | g | g | g | g | g | g | g | g | g | g | g | g | g | g
  all_goals first | (rw [g] at he; simp at he; done) | (rw [g] at h1; simp at h1; done) | (rw [g] at h2; simp at h2; done) | (rw [g] at h3; simp at h3; done) | (rw [g] at h4; simp at h4; done) | (rw [g] at h5; simp at h5; done) | (rw [g] at h6; simp at h6; done) | (rw [g] at h7; simp at h7; done) | (rw [g] at h8; simp at h8; done) | (rw [g] at h9; simp at h9; done) | (rw [g] at h10; simp at h10; done) | (rw [g] at h11; simp at h11; done) | (rw [g] at h12; simp at h12; done) | (rw [g] at h13; simp at h13; done) | (rw [g] at h14; simp at h14; done) | (rw [g] at h15; simp at h15; done) | (rw [g] at h16; simp at h16; done) | (rw [g] at h17; simp at h17; done)
set_option maxRecDepth 100000 in
set_option maxHeartbeats 1000000 in
theorem valid_other_t (k : ByteArray) (h1 : (k.toList == [98, 111, 111, 108]) = false) (h2 : (k.toList == [105, 110, 116, 56]) = false) (h3 : (k.toList == [105, 110, 116, 49, 54]) = false) (h4 : (k.toList == [105, 110, 116, 51, 50]) = false) (h5 : (k.toList == [105, 110, 116, 54, 52]) = false) (h6 : (k.toList == [117, 105, 110, 116, 56]) = false) (h7 : (k.toList == [117, 105, 110, 116, 49, 54]) = false) (h8 : (k.toList == [117, 105, 110, 116, 51, 50]) = false) (h9 : (k.toList == [117, 105, 110, 116, 54, 52]) = false) (h10 : (k.toList == [102, 108, 111, 97, 116, 51, 50]) = false) (h11 : (k.toList == [102, 108, 111, 97, 116, 54, 52]) = false) (h12 : (k.toList == [115, 116, 114, 105, 110, 103]) = false) (h13 : (k.toList == [98, 108, 111, 98]) = false) (h14 : (k.toList == [105, 100, 101, 97, 108, 73, 110, 116]) = false) (h15 : (k.toList == [105, 100, 101, 97, 108, 82, 117, 110, 101]) = false) (h16 : (k.toList == [105, 100, 101, 97, 108, 85, 105, 110, 116]) = false) (h17 : (k.toList == [105, 100, 101, 97, 108, 70, 108, 111, 97, 116]) = false) (he : k.toList.isEmpty = false) (n u : Int) (f : Nat) (s : ByteArray) (w : World) : Calls Tryd.prog 19 #[.agg #[.string k, .int .i64 n, .int .u64 u, .float .f64 f, .string s]] w (ValidPost k (n) (u) (f) s w) := by
  have H := Lib.hid (viff_other_t k h1 h2 h3 h4 h5 h6 h7 h8 h9 h10 h11 h12 h13 h14 h15 h16 h17 he n u f s)
  go_enter Tryd.func19, Tryd.ntmps19
  go_wp2_with (first | (go_at_call 22; refine (width_other _ h1 h2 h3 h4 h5 h6 h7 h8 h9 h10 h11 h12 h13 h14 h15 h16 h17 _).mono ?_; rintro e w' ⟨rfl, rfl⟩) | (go_at_call 39; refine (isFloat_other _ h1 h2 h3 h4 h5 h6 h7 h8 h9 h10 h11 h12 h13 h14 h15 h16 h17 _).mono ?_; rintro e w' ⟨rfl, rfl⟩) | (go_at_call 35; refine (bits_any _ _).mono ?_; rintro e w' ⟨rfl, rfl⟩))
  go_ret
  exact valid_post rfl (by repeat (first | exact Below.refl _ _ | refine below_drewN ?_ _ | refine Below.drew ?_ | refine Below.alloc ?_ (by simp) _)) H.out
end Go.Proofs.YtpkgngpmnapdoaaDoor
