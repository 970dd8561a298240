/- What laws.valid answers, for every Value: true exactly of the values V that are ok. -/
import Derived.Test.YtpkgngpmnapdoaaDoorKinds
namespace Go.Proofs.YtpkgngpmnapdoaaDoor
open Go.RowKit
set_option linter.unusedVariables false
set_option linter.unusedSimpArgs false
set_option maxRecDepth 100000

/-- There is such a value. -/
def Is (k : ByteArray) (n u : Int) (f : Nat) (s : ByteArray) : Prop := ∃ v : V, v.ok ∧ v.K = k ∧ v.N = n ∧ v.U = u ∧ v.F = f ∧ v.S = s
theorem V.is {v : V} (h : v.ok) : Is v.K v.N v.U v.F v.S := ⟨v, h, rfl, rfl, rfl, rfl, rfl⟩
def VIff (b : Bool) (k : ByteArray) (n u : Int) (f : Nat) (s : ByteArray) : Prop := b = true ↔ Is k n u f s
/-- It answers whether there is such a value; it writes nothing that was there. -/
def ValidPost (k : ByteArray) (n u : Int) (f : Nat) (s : ByteArray) (w : World) (e : Ending) (w' : World) : Prop :=
  ∃ b : Bool, e = .returned (.bool b) ∧ (b = true ↔ Is k n u f s) ∧ Below w.heap.size w w'
theorem valid_post {k : ByteArray} {n u : Int} {f : Nat} {s : ByteArray} {w w' : World} {e : Ending} {b : Bool} (he : e = .returned (.bool b)) (hb : Below w.heap.size w w')
    (h : VIff b k n u f s) : ValidPost k n u f s w e w' := ⟨b, he, h, hb⟩
theorem no_iff {p : Prop} (h : ¬ p) : (false = true ↔ p) := ⟨fun x => Bool.noConfusion x, fun x => absurd x h⟩
theorem yes_iff {p : Prop} (h : p) : (true = true ↔ p) := ⟨fun _ => h, fun _ => rfl⟩
theorem viff_int8_u (n u : Int) (f : Nat) (s : ByteArray) (h : (u == 0) = false) : VIff (false) ⟨#[105, 110, 116, 56]⟩ (n) (u) (f) s := by
  unfold VIff
  exact no_iff (by rintro ⟨v, ho, hk, hn, hu, hf, hs⟩; obtain ⟨a, rfl⟩ := inv_int8 hk; simp only [V.U] at hu; subst hu; simp at h)
set_option maxRecDepth 100000 in
set_option maxHeartbeats 1000000 in
theorem valid_int8_u (n u : Int) (f : Nat) (s : ByteArray) (h : (u == 0) = false) (w : World) : Calls Tryd.prog 19 #[.agg #[.string ⟨#[105, 110, 116, 56]⟩, .int .i64 n, .int .u64 u, .float .f64 f, .string s]] w (ValidPost ⟨#[105, 110, 116, 56]⟩ (n) (u) (f) s w) := by
  have H := Lib.hid (viff_int8_u n u f s h)
  go_enter Tryd.func19, Tryd.ntmps19
  go_wp2_with (first | (go_at_call 22; refine (width_int8 _).mono ?_; rintro e w' ⟨rfl, rfl⟩) | (go_at_call 39; refine (isFloat_int8 _).mono ?_; rintro e w' ⟨rfl, rfl⟩))
  go_quiet ((go_at_call 35; exact Calls.quiet_of_same (bits_any _ _)))
  go_wp2
  go_ret
  exact valid_post rfl (by repeat (first | exact Below.refl _ _ | refine below_drewN ?_ _ | refine Below.drew ?_ | refine Below.alloc ?_ (by simp) _)) H.out
theorem viff_int8_f (n : Int) (f : Nat) (s : ByteArray) (h : ((bitsB f : Int) == 0) = false) : VIff (false) ⟨#[105, 110, 116, 56]⟩ (n) (0) (f) s := by
  unfold VIff
  exact no_iff (by rintro ⟨v, ho, hk, hn, hu, hf, hs⟩; obtain ⟨a, rfl⟩ := inv_int8 hk; simp only [V.F] at hf; subst hf; rw [bits_zero] at h; simp at h)
set_option maxRecDepth 100000 in
set_option maxHeartbeats 1000000 in
theorem valid_int8_f (n : Int) (f : Nat) (s : ByteArray) (h : ((bitsB f : Int) == 0) = false) (w : World) : Calls Tryd.prog 19 #[.agg #[.string ⟨#[105, 110, 116, 56]⟩, .int .i64 n, .int .u64 0, .float .f64 f, .string s]] w (ValidPost ⟨#[105, 110, 116, 56]⟩ (n) (0) (f) s w) := by
  have H := Lib.hid (viff_int8_f n f s h)
  go_enter Tryd.func19, Tryd.ntmps19
  go_wp2_with (first | (go_at_call 22; refine (width_int8 _).mono ?_; rintro e w' ⟨rfl, rfl⟩) | (go_at_call 39; refine (isFloat_int8 _).mono ?_; rintro e w' ⟨rfl, rfl⟩))
  go_quiet ((go_at_call 35; exact Calls.quiet_of_same (bits_any _ _)))
  go_wp2
  go_ret
  exact valid_post rfl (by repeat (first | exact Below.refl _ _ | refine below_drewN ?_ _ | refine Below.drew ?_ | refine Below.alloc ?_ (by simp) _)) H.out
theorem viff_int8_s (n : Int) (s : ByteArray) (h : s.toList.isEmpty = false) : VIff (false) ⟨#[105, 110, 116, 56]⟩ (n) (0) (0) s := by
  unfold VIff
  exact no_iff (by rintro ⟨v, ho, hk, hn, hu, hf, hs⟩; obtain ⟨a, rfl⟩ := inv_int8 hk; simp only [V.S] at hs; subst hs; simp at h)
set_option maxRecDepth 100000 in
set_option maxHeartbeats 1000000 in
theorem valid_int8_s (n : Int) (s : ByteArray) (h : s.toList.isEmpty = false) (w : World) : Calls Tryd.prog 19 #[.agg #[.string ⟨#[105, 110, 116, 56]⟩, .int .i64 n, .int .u64 0, .float .f64 0, .string s]] w (ValidPost ⟨#[105, 110, 116, 56]⟩ (n) (0) (0) s w) := by
  have H := Lib.hid (viff_int8_s n s h)
  have hb0 := bits_zero
  go_enter Tryd.func19, Tryd.ntmps19
  go_wp2_with (first | (go_at_call 22; refine (width_int8 _).mono ?_; rintro e w' ⟨rfl, rfl⟩) | (go_at_call 39; refine (isFloat_int8 _).mono ?_; rintro e w' ⟨rfl, rfl⟩))
  go_quiet ((go_at_call 35; exact Calls.quiet_of_same (bits_any _ _)))
  go_wp2
  go_ret
  exact valid_post rfl (by repeat (first | exact Below.refl _ _ | refine below_drewN ?_ _ | refine Below.drew ?_ | refine Below.alloc ?_ (by simp) _)) H.out
theorem viff_int8_n (n : Int) (g1 : -9223372036854775808 ≤ n) (g2 : n ≤ 9223372036854775807) : VIff ((n / 128 == n / 9223372036854775808)) ⟨#[105, 110, 116, 56]⟩ (n) (0) (0) ⟨#[]⟩ := by
  unfold VIff
  constructor
  · intro h
    have h1 : n / 128 = n / 9223372036854775808 := by simpa using h
    exact ⟨.int .i8 n, ⟨by omega, by omega⟩, rfl, rfl, rfl, rfl, rfl⟩
  · rintro ⟨v, ho, hk, hn, hu, hf, hs⟩
    obtain ⟨a, rfl⟩ := inv_int8 hk
    simp only [V.N] at hn
    subst hn
    obtain ⟨o1, o2⟩ := ho
    have h1 : a / 128 = a / 9223372036854775808 := by omega
    simpa using h1
set_option maxRecDepth 100000 in
set_option maxHeartbeats 1000000 in
theorem valid_int8_n (n : Int) (g1 : -9223372036854775808 ≤ n) (g2 : n ≤ 9223372036854775807) (w : World) : Calls Tryd.prog 19 #[.agg #[.string ⟨#[105, 110, 116, 56]⟩, .int .i64 n, .int .u64 0, .float .f64 0, .string ⟨#[]⟩]] w (ValidPost ⟨#[105, 110, 116, 56]⟩ (n) (0) (0) ⟨#[]⟩ w) := by
  have H := Lib.hid (viff_int8_n n g1 g2)
  have hb0 := bits_zero
  go_enter Tryd.func19, Tryd.ntmps19
  go_wp2_with (first | (go_at_call 22; refine (width_int8 _).mono ?_; rintro e w' ⟨rfl, rfl⟩) | (go_at_call 39; refine (isFloat_int8 _).mono ?_; rintro e w' ⟨rfl, rfl⟩))
  go_quiet ((go_at_call 35; exact Calls.quiet_of_same (bits_any _ _)))
  go_wp2
  go_ret
  exact valid_post rfl (by repeat (first | exact Below.refl _ _ | refine below_drewN ?_ _ | refine Below.drew ?_ | refine Below.alloc ?_ (by simp) _)) H.out
theorem viff_int16_u (n u : Int) (f : Nat) (s : ByteArray) (h : (u == 0) = false) : VIff (false) ⟨#[105, 110, 116, 49, 54]⟩ (n) (u) (f) s := by
  unfold VIff
  exact no_iff (by rintro ⟨v, ho, hk, hn, hu, hf, hs⟩; obtain ⟨a, rfl⟩ := inv_int16 hk; simp only [V.U] at hu; subst hu; simp at h)
set_option maxRecDepth 100000 in
set_option maxHeartbeats 1000000 in
theorem valid_int16_u (n u : Int) (f : Nat) (s : ByteArray) (h : (u == 0) = false) (w : World) : Calls Tryd.prog 19 #[.agg #[.string ⟨#[105, 110, 116, 49, 54]⟩, .int .i64 n, .int .u64 u, .float .f64 f, .string s]] w (ValidPost ⟨#[105, 110, 116, 49, 54]⟩ (n) (u) (f) s w) := by
  have H := Lib.hid (viff_int16_u n u f s h)
  go_enter Tryd.func19, Tryd.ntmps19
  go_wp2_with (first | (go_at_call 22; refine (width_int16 _).mono ?_; rintro e w' ⟨rfl, rfl⟩) | (go_at_call 39; refine (isFloat_int16 _).mono ?_; rintro e w' ⟨rfl, rfl⟩))
  go_quiet ((go_at_call 35; exact Calls.quiet_of_same (bits_any _ _)))
  go_wp2
  go_ret
  exact valid_post rfl (by repeat (first | exact Below.refl _ _ | refine below_drewN ?_ _ | refine Below.drew ?_ | refine Below.alloc ?_ (by simp) _)) H.out
theorem viff_int16_f (n : Int) (f : Nat) (s : ByteArray) (h : ((bitsB f : Int) == 0) = false) : VIff (false) ⟨#[105, 110, 116, 49, 54]⟩ (n) (0) (f) s := by
  unfold VIff
  exact no_iff (by rintro ⟨v, ho, hk, hn, hu, hf, hs⟩; obtain ⟨a, rfl⟩ := inv_int16 hk; simp only [V.F] at hf; subst hf; rw [bits_zero] at h; simp at h)
set_option maxRecDepth 100000 in
set_option maxHeartbeats 1000000 in
theorem valid_int16_f (n : Int) (f : Nat) (s : ByteArray) (h : ((bitsB f : Int) == 0) = false) (w : World) : Calls Tryd.prog 19 #[.agg #[.string ⟨#[105, 110, 116, 49, 54]⟩, .int .i64 n, .int .u64 0, .float .f64 f, .string s]] w (ValidPost ⟨#[105, 110, 116, 49, 54]⟩ (n) (0) (f) s w) := by
  have H := Lib.hid (viff_int16_f n f s h)
  go_enter Tryd.func19, Tryd.ntmps19
  go_wp2_with (first | (go_at_call 22; refine (width_int16 _).mono ?_; rintro e w' ⟨rfl, rfl⟩) | (go_at_call 39; refine (isFloat_int16 _).mono ?_; rintro e w' ⟨rfl, rfl⟩))
  go_quiet ((go_at_call 35; exact Calls.quiet_of_same (bits_any _ _)))
  go_wp2
  go_ret
  exact valid_post rfl (by repeat (first | exact Below.refl _ _ | refine below_drewN ?_ _ | refine Below.drew ?_ | refine Below.alloc ?_ (by simp) _)) H.out
theorem viff_int16_s (n : Int) (s : ByteArray) (h : s.toList.isEmpty = false) : VIff (false) ⟨#[105, 110, 116, 49, 54]⟩ (n) (0) (0) s := by
  unfold VIff
  exact no_iff (by rintro ⟨v, ho, hk, hn, hu, hf, hs⟩; obtain ⟨a, rfl⟩ := inv_int16 hk; simp only [V.S] at hs; subst hs; simp at h)
set_option maxRecDepth 100000 in
set_option maxHeartbeats 1000000 in
theorem valid_int16_s (n : Int) (s : ByteArray) (h : s.toList.isEmpty = false) (w : World) : Calls Tryd.prog 19 #[.agg #[.string ⟨#[105, 110, 116, 49, 54]⟩, .int .i64 n, .int .u64 0, .float .f64 0, .string s]] w (ValidPost ⟨#[105, 110, 116, 49, 54]⟩ (n) (0) (0) s w) := by
  have H := Lib.hid (viff_int16_s n s h)
  have hb0 := bits_zero
  go_enter Tryd.func19, Tryd.ntmps19
  go_wp2_with (first | (go_at_call 22; refine (width_int16 _).mono ?_; rintro e w' ⟨rfl, rfl⟩) | (go_at_call 39; refine (isFloat_int16 _).mono ?_; rintro e w' ⟨rfl, rfl⟩))
  go_quiet ((go_at_call 35; exact Calls.quiet_of_same (bits_any _ _)))
  go_wp2
  go_ret
  exact valid_post rfl (by repeat (first | exact Below.refl _ _ | refine below_drewN ?_ _ | refine Below.drew ?_ | refine Below.alloc ?_ (by simp) _)) H.out
theorem viff_int16_n (n : Int) (g1 : -9223372036854775808 ≤ n) (g2 : n ≤ 9223372036854775807) : VIff ((n / 32768 == n / 9223372036854775808)) ⟨#[105, 110, 116, 49, 54]⟩ (n) (0) (0) ⟨#[]⟩ := by
  unfold VIff
  constructor
  · intro h
    have h1 : n / 32768 = n / 9223372036854775808 := by simpa using h
    exact ⟨.int .i16 n, ⟨by omega, by omega⟩, rfl, rfl, rfl, rfl, rfl⟩
  · rintro ⟨v, ho, hk, hn, hu, hf, hs⟩
    obtain ⟨a, rfl⟩ := inv_int16 hk
    simp only [V.N] at hn
    subst hn
    obtain ⟨o1, o2⟩ := ho
    have h1 : a / 32768 = a / 9223372036854775808 := by omega
    simpa using h1
set_option maxRecDepth 100000 in
set_option maxHeartbeats 1000000 in
theorem valid_int16_n (n : Int) (g1 : -9223372036854775808 ≤ n) (g2 : n ≤ 9223372036854775807) (w : World) : Calls Tryd.prog 19 #[.agg #[.string ⟨#[105, 110, 116, 49, 54]⟩, .int .i64 n, .int .u64 0, .float .f64 0, .string ⟨#[]⟩]] w (ValidPost ⟨#[105, 110, 116, 49, 54]⟩ (n) (0) (0) ⟨#[]⟩ w) := by
  have H := Lib.hid (viff_int16_n n g1 g2)
  have hb0 := bits_zero
  go_enter Tryd.func19, Tryd.ntmps19
  go_wp2_with (first | (go_at_call 22; refine (width_int16 _).mono ?_; rintro e w' ⟨rfl, rfl⟩) | (go_at_call 39; refine (isFloat_int16 _).mono ?_; rintro e w' ⟨rfl, rfl⟩))
  go_quiet ((go_at_call 35; exact Calls.quiet_of_same (bits_any _ _)))
  go_wp2
  go_ret
  exact valid_post rfl (by repeat (first | exact Below.refl _ _ | refine below_drewN ?_ _ | refine Below.drew ?_ | refine Below.alloc ?_ (by simp) _)) H.out
theorem viff_int32_u (n u : Int) (f : Nat) (s : ByteArray) (h : (u == 0) = false) : VIff (false) ⟨#[105, 110, 116, 51, 50]⟩ (n) (u) (f) s := by
  unfold VIff
  exact no_iff (by rintro ⟨v, ho, hk, hn, hu, hf, hs⟩; obtain ⟨a, rfl⟩ := inv_int32 hk; simp only [V.U] at hu; subst hu; simp at h)
set_option maxRecDepth 100000 in
set_option maxHeartbeats 1000000 in
theorem valid_int32_u (n u : Int) (f : Nat) (s : ByteArray) (h : (u == 0) = false) (w : World) : Calls Tryd.prog 19 #[.agg #[.string ⟨#[105, 110, 116, 51, 50]⟩, .int .i64 n, .int .u64 u, .float .f64 f, .string s]] w (ValidPost ⟨#[105, 110, 116, 51, 50]⟩ (n) (u) (f) s w) := by
  have H := Lib.hid (viff_int32_u n u f s h)
  go_enter Tryd.func19, Tryd.ntmps19
  go_wp2_with (first | (go_at_call 22; refine (width_int32 _).mono ?_; rintro e w' ⟨rfl, rfl⟩) | (go_at_call 39; refine (isFloat_int32 _).mono ?_; rintro e w' ⟨rfl, rfl⟩))
  go_quiet ((go_at_call 35; exact Calls.quiet_of_same (bits_any _ _)))
  go_wp2
  go_ret
  exact valid_post rfl (by repeat (first | exact Below.refl _ _ | refine below_drewN ?_ _ | refine Below.drew ?_ | refine Below.alloc ?_ (by simp) _)) H.out
theorem viff_int32_f (n : Int) (f : Nat) (s : ByteArray) (h : ((bitsB f : Int) == 0) = false) : VIff (false) ⟨#[105, 110, 116, 51, 50]⟩ (n) (0) (f) s := by
  unfold VIff
  exact no_iff (by rintro ⟨v, ho, hk, hn, hu, hf, hs⟩; obtain ⟨a, rfl⟩ := inv_int32 hk; simp only [V.F] at hf; subst hf; rw [bits_zero] at h; simp at h)
set_option maxRecDepth 100000 in
set_option maxHeartbeats 1000000 in
theorem valid_int32_f (n : Int) (f : Nat) (s : ByteArray) (h : ((bitsB f : Int) == 0) = false) (w : World) : Calls Tryd.prog 19 #[.agg #[.string ⟨#[105, 110, 116, 51, 50]⟩, .int .i64 n, .int .u64 0, .float .f64 f, .string s]] w (ValidPost ⟨#[105, 110, 116, 51, 50]⟩ (n) (0) (f) s w) := by
  have H := Lib.hid (viff_int32_f n f s h)
  go_enter Tryd.func19, Tryd.ntmps19
  go_wp2_with (first | (go_at_call 22; refine (width_int32 _).mono ?_; rintro e w' ⟨rfl, rfl⟩) | (go_at_call 39; refine (isFloat_int32 _).mono ?_; rintro e w' ⟨rfl, rfl⟩))
  go_quiet ((go_at_call 35; exact Calls.quiet_of_same (bits_any _ _)))
  go_wp2
  go_ret
  exact valid_post rfl (by repeat (first | exact Below.refl _ _ | refine below_drewN ?_ _ | refine Below.drew ?_ | refine Below.alloc ?_ (by simp) _)) H.out
theorem viff_int32_s (n : Int) (s : ByteArray) (h : s.toList.isEmpty = false) : VIff (false) ⟨#[105, 110, 116, 51, 50]⟩ (n) (0) (0) s := by
  unfold VIff
  exact no_iff (by rintro ⟨v, ho, hk, hn, hu, hf, hs⟩; obtain ⟨a, rfl⟩ := inv_int32 hk; simp only [V.S] at hs; subst hs; simp at h)
set_option maxRecDepth 100000 in
set_option maxHeartbeats 1000000 in
theorem valid_int32_s (n : Int) (s : ByteArray) (h : s.toList.isEmpty = false) (w : World) : Calls Tryd.prog 19 #[.agg #[.string ⟨#[105, 110, 116, 51, 50]⟩, .int .i64 n, .int .u64 0, .float .f64 0, .string s]] w (ValidPost ⟨#[105, 110, 116, 51, 50]⟩ (n) (0) (0) s w) := by
  have H := Lib.hid (viff_int32_s n s h)
  have hb0 := bits_zero
  go_enter Tryd.func19, Tryd.ntmps19
  go_wp2_with (first | (go_at_call 22; refine (width_int32 _).mono ?_; rintro e w' ⟨rfl, rfl⟩) | (go_at_call 39; refine (isFloat_int32 _).mono ?_; rintro e w' ⟨rfl, rfl⟩))
  go_quiet ((go_at_call 35; exact Calls.quiet_of_same (bits_any _ _)))
  go_wp2
  go_ret
  exact valid_post rfl (by repeat (first | exact Below.refl _ _ | refine below_drewN ?_ _ | refine Below.drew ?_ | refine Below.alloc ?_ (by simp) _)) H.out
theorem viff_int32_n (n : Int) (g1 : -9223372036854775808 ≤ n) (g2 : n ≤ 9223372036854775807) : VIff ((n / 2147483648 == n / 9223372036854775808)) ⟨#[105, 110, 116, 51, 50]⟩ (n) (0) (0) ⟨#[]⟩ := by
  unfold VIff
  constructor
  · intro h
    have h1 : n / 2147483648 = n / 9223372036854775808 := by simpa using h
    exact ⟨.int .i32 n, ⟨by omega, by omega⟩, rfl, rfl, rfl, rfl, rfl⟩
  · rintro ⟨v, ho, hk, hn, hu, hf, hs⟩
    obtain ⟨a, rfl⟩ := inv_int32 hk
    simp only [V.N] at hn
    subst hn
    obtain ⟨o1, o2⟩ := ho
    have h1 : a / 2147483648 = a / 9223372036854775808 := by omega
    simpa using h1
set_option maxRecDepth 100000 in
set_option maxHeartbeats 1000000 in
theorem valid_int32_n (n : Int) (g1 : -9223372036854775808 ≤ n) (g2 : n ≤ 9223372036854775807) (w : World) : Calls Tryd.prog 19 #[.agg #[.string ⟨#[105, 110, 116, 51, 50]⟩, .int .i64 n, .int .u64 0, .float .f64 0, .string ⟨#[]⟩]] w (ValidPost ⟨#[105, 110, 116, 51, 50]⟩ (n) (0) (0) ⟨#[]⟩ w) := by
  have H := Lib.hid (viff_int32_n n g1 g2)
  have hb0 := bits_zero
  go_enter Tryd.func19, Tryd.ntmps19
  go_wp2_with (first | (go_at_call 22; refine (width_int32 _).mono ?_; rintro e w' ⟨rfl, rfl⟩) | (go_at_call 39; refine (isFloat_int32 _).mono ?_; rintro e w' ⟨rfl, rfl⟩))
  go_quiet ((go_at_call 35; exact Calls.quiet_of_same (bits_any _ _)))
  go_wp2
  go_ret
  exact valid_post rfl (by repeat (first | exact Below.refl _ _ | refine below_drewN ?_ _ | refine Below.drew ?_ | refine Below.alloc ?_ (by simp) _)) H.out
theorem viff_int64_u (n u : Int) (f : Nat) (s : ByteArray) (h : (u == 0) = false) : VIff (false) ⟨#[105, 110, 116, 54, 52]⟩ (n) (u) (f) s := by
  unfold VIff
  exact no_iff (by rintro ⟨v, ho, hk, hn, hu, hf, hs⟩; obtain ⟨a, rfl⟩ := inv_int64 hk; simp only [V.U] at hu; subst hu; simp at h)
set_option maxRecDepth 100000 in
set_option maxHeartbeats 1000000 in
theorem valid_int64_u (n u : Int) (f : Nat) (s : ByteArray) (h : (u == 0) = false) (w : World) : Calls Tryd.prog 19 #[.agg #[.string ⟨#[105, 110, 116, 54, 52]⟩, .int .i64 n, .int .u64 u, .float .f64 f, .string s]] w (ValidPost ⟨#[105, 110, 116, 54, 52]⟩ (n) (u) (f) s w) := by
  have H := Lib.hid (viff_int64_u n u f s h)
  go_enter Tryd.func19, Tryd.ntmps19
  go_wp2_with (first | (go_at_call 22; refine (width_int64 _).mono ?_; rintro e w' ⟨rfl, rfl⟩) | (go_at_call 39; refine (isFloat_int64 _).mono ?_; rintro e w' ⟨rfl, rfl⟩))
  go_quiet ((go_at_call 35; exact Calls.quiet_of_same (bits_any _ _)))
  go_wp2
  go_ret
  exact valid_post rfl (by repeat (first | exact Below.refl _ _ | refine below_drewN ?_ _ | refine Below.drew ?_ | refine Below.alloc ?_ (by simp) _)) H.out
theorem viff_int64_f (n : Int) (f : Nat) (s : ByteArray) (h : ((bitsB f : Int) == 0) = false) : VIff (false) ⟨#[105, 110, 116, 54, 52]⟩ (n) (0) (f) s := by
  unfold VIff
  exact no_iff (by rintro ⟨v, ho, hk, hn, hu, hf, hs⟩; obtain ⟨a, rfl⟩ := inv_int64 hk; simp only [V.F] at hf; subst hf; rw [bits_zero] at h; simp at h)
set_option maxRecDepth 100000 in
set_option maxHeartbeats 1000000 in
theorem valid_int64_f (n : Int) (f : Nat) (s : ByteArray) (h : ((bitsB f : Int) == 0) = false) (w : World) : Calls Tryd.prog 19 #[.agg #[.string ⟨#[105, 110, 116, 54, 52]⟩, .int .i64 n, .int .u64 0, .float .f64 f, .string s]] w (ValidPost ⟨#[105, 110, 116, 54, 52]⟩ (n) (0) (f) s w) := by
  have H := Lib.hid (viff_int64_f n f s h)
  go_enter Tryd.func19, Tryd.ntmps19
  go_wp2_with (first | (go_at_call 22; refine (width_int64 _).mono ?_; rintro e w' ⟨rfl, rfl⟩) | (go_at_call 39; refine (isFloat_int64 _).mono ?_; rintro e w' ⟨rfl, rfl⟩))
  go_quiet ((go_at_call 35; exact Calls.quiet_of_same (bits_any _ _)))
  go_wp2
  go_ret
  exact valid_post rfl (by repeat (first | exact Below.refl _ _ | refine below_drewN ?_ _ | refine Below.drew ?_ | refine Below.alloc ?_ (by simp) _)) H.out
theorem viff_int64_s (n : Int) (s : ByteArray) (h : s.toList.isEmpty = false) : VIff (false) ⟨#[105, 110, 116, 54, 52]⟩ (n) (0) (0) s := by
  unfold VIff
  exact no_iff (by rintro ⟨v, ho, hk, hn, hu, hf, hs⟩; obtain ⟨a, rfl⟩ := inv_int64 hk; simp only [V.S] at hs; subst hs; simp at h)
set_option maxRecDepth 100000 in
set_option maxHeartbeats 1000000 in
theorem valid_int64_s (n : Int) (s : ByteArray) (h : s.toList.isEmpty = false) (w : World) : Calls Tryd.prog 19 #[.agg #[.string ⟨#[105, 110, 116, 54, 52]⟩, .int .i64 n, .int .u64 0, .float .f64 0, .string s]] w (ValidPost ⟨#[105, 110, 116, 54, 52]⟩ (n) (0) (0) s w) := by
  have H := Lib.hid (viff_int64_s n s h)
  have hb0 := bits_zero
  go_enter Tryd.func19, Tryd.ntmps19
  go_wp2_with (first | (go_at_call 22; refine (width_int64 _).mono ?_; rintro e w' ⟨rfl, rfl⟩) | (go_at_call 39; refine (isFloat_int64 _).mono ?_; rintro e w' ⟨rfl, rfl⟩))
  go_quiet ((go_at_call 35; exact Calls.quiet_of_same (bits_any _ _)))
  go_wp2
  go_ret
  exact valid_post rfl (by repeat (first | exact Below.refl _ _ | refine below_drewN ?_ _ | refine Below.drew ?_ | refine Below.alloc ?_ (by simp) _)) H.out
theorem viff_int64_n (n : Int) (g1 : -9223372036854775808 ≤ n) (g2 : n ≤ 9223372036854775807) : VIff (true) ⟨#[105, 110, 116, 54, 52]⟩ (n) (0) (0) ⟨#[]⟩ := by
  unfold VIff
  exact yes_iff ⟨.int .i64 n, ⟨by omega, by omega⟩, rfl, rfl, rfl, rfl, rfl⟩
set_option maxRecDepth 100000 in
set_option maxHeartbeats 1000000 in
theorem valid_int64_n (n : Int) (g1 : -9223372036854775808 ≤ n) (g2 : n ≤ 9223372036854775807) (w : World) : Calls Tryd.prog 19 #[.agg #[.string ⟨#[105, 110, 116, 54, 52]⟩, .int .i64 n, .int .u64 0, .float .f64 0, .string ⟨#[]⟩]] w (ValidPost ⟨#[105, 110, 116, 54, 52]⟩ (n) (0) (0) ⟨#[]⟩ w) := by
  have H := Lib.hid (viff_int64_n n g1 g2)
  have hb0 := bits_zero
  go_enter Tryd.func19, Tryd.ntmps19
  go_wp2_with (first | (go_at_call 22; refine (width_int64 _).mono ?_; rintro e w' ⟨rfl, rfl⟩) | (go_at_call 39; refine (isFloat_int64 _).mono ?_; rintro e w' ⟨rfl, rfl⟩))
  go_quiet ((go_at_call 35; exact Calls.quiet_of_same (bits_any _ _)))
  go_wp2
  go_ret
  exact valid_post rfl (by repeat (first | exact Below.refl _ _ | refine below_drewN ?_ _ | refine Below.drew ?_ | refine Below.alloc ?_ (by simp) _)) H.out
theorem viff_idealInt_u (n u : Int) (f : Nat) (s : ByteArray) (h : (u == 0) = false) : VIff (false) ⟨#[105, 100, 101, 97, 108, 73, 110, 116]⟩ (n) (u) (f) s := by
  unfold VIff
  exact no_iff (by rintro ⟨v, ho, hk, hn, hu, hf, hs⟩; obtain ⟨a, rfl⟩ := inv_idealInt hk; simp only [V.U] at hu; subst hu; simp at h)
set_option maxRecDepth 100000 in
set_option maxHeartbeats 1000000 in
theorem valid_idealInt_u (n u : Int) (f : Nat) (s : ByteArray) (h : (u == 0) = false) (w : World) : Calls Tryd.prog 19 #[.agg #[.string ⟨#[105, 100, 101, 97, 108, 73, 110, 116]⟩, .int .i64 n, .int .u64 u, .float .f64 f, .string s]] w (ValidPost ⟨#[105, 100, 101, 97, 108, 73, 110, 116]⟩ (n) (u) (f) s w) := by
  have H := Lib.hid (viff_idealInt_u n u f s h)
  go_enter Tryd.func19, Tryd.ntmps19
  go_wp2_with (first | (go_at_call 22; refine (width_idealInt _).mono ?_; rintro e w' ⟨rfl, rfl⟩) | (go_at_call 39; refine (isFloat_idealInt _).mono ?_; rintro e w' ⟨rfl, rfl⟩))
  go_quiet ((go_at_call 35; exact Calls.quiet_of_same (bits_any _ _)))
  go_wp2
  go_ret
  exact valid_post rfl (by repeat (first | exact Below.refl _ _ | refine below_drewN ?_ _ | refine Below.drew ?_ | refine Below.alloc ?_ (by simp) _)) H.out
theorem viff_idealInt_f (n : Int) (f : Nat) (s : ByteArray) (h : ((bitsB f : Int) == 0) = false) : VIff (false) ⟨#[105, 100, 101, 97, 108, 73, 110, 116]⟩ (n) (0) (f) s := by
  unfold VIff
  exact no_iff (by rintro ⟨v, ho, hk, hn, hu, hf, hs⟩; obtain ⟨a, rfl⟩ := inv_idealInt hk; simp only [V.F] at hf; subst hf; rw [bits_zero] at h; simp at h)
set_option maxRecDepth 100000 in
set_option maxHeartbeats 1000000 in
theorem valid_idealInt_f (n : Int) (f : Nat) (s : ByteArray) (h : ((bitsB f : Int) == 0) = false) (w : World) : Calls Tryd.prog 19 #[.agg #[.string ⟨#[105, 100, 101, 97, 108, 73, 110, 116]⟩, .int .i64 n, .int .u64 0, .float .f64 f, .string s]] w (ValidPost ⟨#[105, 100, 101, 97, 108, 73, 110, 116]⟩ (n) (0) (f) s w) := by
  have H := Lib.hid (viff_idealInt_f n f s h)
  go_enter Tryd.func19, Tryd.ntmps19
  go_wp2_with (first | (go_at_call 22; refine (width_idealInt _).mono ?_; rintro e w' ⟨rfl, rfl⟩) | (go_at_call 39; refine (isFloat_idealInt _).mono ?_; rintro e w' ⟨rfl, rfl⟩))
  go_quiet ((go_at_call 35; exact Calls.quiet_of_same (bits_any _ _)))
  go_wp2
  go_ret
  exact valid_post rfl (by repeat (first | exact Below.refl _ _ | refine below_drewN ?_ _ | refine Below.drew ?_ | refine Below.alloc ?_ (by simp) _)) H.out
theorem viff_idealInt_s (n : Int) (s : ByteArray) (h : s.toList.isEmpty = false) : VIff (false) ⟨#[105, 100, 101, 97, 108, 73, 110, 116]⟩ (n) (0) (0) s := by
  unfold VIff
  exact no_iff (by rintro ⟨v, ho, hk, hn, hu, hf, hs⟩; obtain ⟨a, rfl⟩ := inv_idealInt hk; simp only [V.S] at hs; subst hs; simp at h)
set_option maxRecDepth 100000 in
set_option maxHeartbeats 1000000 in
theorem valid_idealInt_s (n : Int) (s : ByteArray) (h : s.toList.isEmpty = false) (w : World) : Calls Tryd.prog 19 #[.agg #[.string ⟨#[105, 100, 101, 97, 108, 73, 110, 116]⟩, .int .i64 n, .int .u64 0, .float .f64 0, .string s]] w (ValidPost ⟨#[105, 100, 101, 97, 108, 73, 110, 116]⟩ (n) (0) (0) s w) := by
  have H := Lib.hid (viff_idealInt_s n s h)
  have hb0 := bits_zero
  go_enter Tryd.func19, Tryd.ntmps19
  go_wp2_with (first | (go_at_call 22; refine (width_idealInt _).mono ?_; rintro e w' ⟨rfl, rfl⟩) | (go_at_call 39; refine (isFloat_idealInt _).mono ?_; rintro e w' ⟨rfl, rfl⟩))
  go_quiet ((go_at_call 35; exact Calls.quiet_of_same (bits_any _ _)))
  go_wp2
  go_ret
  exact valid_post rfl (by repeat (first | exact Below.refl _ _ | refine below_drewN ?_ _ | refine Below.drew ?_ | refine Below.alloc ?_ (by simp) _)) H.out
theorem viff_idealInt_n (n : Int) (g1 : -9223372036854775808 ≤ n) (g2 : n ≤ 9223372036854775807) : VIff (true) ⟨#[105, 100, 101, 97, 108, 73, 110, 116]⟩ (n) (0) (0) ⟨#[]⟩ := by
  unfold VIff
  exact yes_iff ⟨.iInt n, ⟨by omega, by omega⟩, rfl, rfl, rfl, rfl, rfl⟩
set_option maxRecDepth 100000 in
set_option maxHeartbeats 1000000 in
theorem valid_idealInt_n (n : Int) (g1 : -9223372036854775808 ≤ n) (g2 : n ≤ 9223372036854775807) (w : World) : Calls Tryd.prog 19 #[.agg #[.string ⟨#[105, 100, 101, 97, 108, 73, 110, 116]⟩, .int .i64 n, .int .u64 0, .float .f64 0, .string ⟨#[]⟩]] w (ValidPost ⟨#[105, 100, 101, 97, 108, 73, 110, 116]⟩ (n) (0) (0) ⟨#[]⟩ w) := by
  have H := Lib.hid (viff_idealInt_n n g1 g2)
  have hb0 := bits_zero
  go_enter Tryd.func19, Tryd.ntmps19
  go_wp2_with (first | (go_at_call 22; refine (width_idealInt _).mono ?_; rintro e w' ⟨rfl, rfl⟩) | (go_at_call 39; refine (isFloat_idealInt _).mono ?_; rintro e w' ⟨rfl, rfl⟩))
  go_quiet ((go_at_call 35; exact Calls.quiet_of_same (bits_any _ _)))
  go_wp2
  go_ret
  exact valid_post rfl (by repeat (first | exact Below.refl _ _ | refine below_drewN ?_ _ | refine Below.drew ?_ | refine Below.alloc ?_ (by simp) _)) H.out
theorem viff_idealRune_u (n u : Int) (f : Nat) (s : ByteArray) (h : (u == 0) = false) : VIff (false) ⟨#[105, 100, 101, 97, 108, 82, 117, 110, 101]⟩ (n) (u) (f) s := by
  unfold VIff
  exact no_iff (by rintro ⟨v, ho, hk, hn, hu, hf, hs⟩; obtain ⟨a, rfl⟩ := inv_idealRune hk; simp only [V.U] at hu; subst hu; simp at h)
set_option maxRecDepth 100000 in
set_option maxHeartbeats 1000000 in
theorem valid_idealRune_u (n u : Int) (f : Nat) (s : ByteArray) (h : (u == 0) = false) (w : World) : Calls Tryd.prog 19 #[.agg #[.string ⟨#[105, 100, 101, 97, 108, 82, 117, 110, 101]⟩, .int .i64 n, .int .u64 u, .float .f64 f, .string s]] w (ValidPost ⟨#[105, 100, 101, 97, 108, 82, 117, 110, 101]⟩ (n) (u) (f) s w) := by
  have H := Lib.hid (viff_idealRune_u n u f s h)
  go_enter Tryd.func19, Tryd.ntmps19
  go_wp2_with (first | (go_at_call 22; refine (width_idealRune _).mono ?_; rintro e w' ⟨rfl, rfl⟩) | (go_at_call 39; refine (isFloat_idealRune _).mono ?_; rintro e w' ⟨rfl, rfl⟩))
  go_quiet ((go_at_call 35; exact Calls.quiet_of_same (bits_any _ _)))
  go_wp2
  go_ret
  exact valid_post rfl (by repeat (first | exact Below.refl _ _ | refine below_drewN ?_ _ | refine Below.drew ?_ | refine Below.alloc ?_ (by simp) _)) H.out
theorem viff_idealRune_f (n : Int) (f : Nat) (s : ByteArray) (h : ((bitsB f : Int) == 0) = false) : VIff (false) ⟨#[105, 100, 101, 97, 108, 82, 117, 110, 101]⟩ (n) (0) (f) s := by
  unfold VIff
  exact no_iff (by rintro ⟨v, ho, hk, hn, hu, hf, hs⟩; obtain ⟨a, rfl⟩ := inv_idealRune hk; simp only [V.F] at hf; subst hf; rw [bits_zero] at h; simp at h)
set_option maxRecDepth 100000 in
set_option maxHeartbeats 1000000 in
theorem valid_idealRune_f (n : Int) (f : Nat) (s : ByteArray) (h : ((bitsB f : Int) == 0) = false) (w : World) : Calls Tryd.prog 19 #[.agg #[.string ⟨#[105, 100, 101, 97, 108, 82, 117, 110, 101]⟩, .int .i64 n, .int .u64 0, .float .f64 f, .string s]] w (ValidPost ⟨#[105, 100, 101, 97, 108, 82, 117, 110, 101]⟩ (n) (0) (f) s w) := by
  have H := Lib.hid (viff_idealRune_f n f s h)
  go_enter Tryd.func19, Tryd.ntmps19
  go_wp2_with (first | (go_at_call 22; refine (width_idealRune _).mono ?_; rintro e w' ⟨rfl, rfl⟩) | (go_at_call 39; refine (isFloat_idealRune _).mono ?_; rintro e w' ⟨rfl, rfl⟩))
  go_quiet ((go_at_call 35; exact Calls.quiet_of_same (bits_any _ _)))
  go_wp2
  go_ret
  exact valid_post rfl (by repeat (first | exact Below.refl _ _ | refine below_drewN ?_ _ | refine Below.drew ?_ | refine Below.alloc ?_ (by simp) _)) H.out
theorem viff_idealRune_s (n : Int) (s : ByteArray) (h : s.toList.isEmpty = false) : VIff (false) ⟨#[105, 100, 101, 97, 108, 82, 117, 110, 101]⟩ (n) (0) (0) s := by
  unfold VIff
  exact no_iff (by rintro ⟨v, ho, hk, hn, hu, hf, hs⟩; obtain ⟨a, rfl⟩ := inv_idealRune hk; simp only [V.S] at hs; subst hs; simp at h)
set_option maxRecDepth 100000 in
set_option maxHeartbeats 1000000 in
theorem valid_idealRune_s (n : Int) (s : ByteArray) (h : s.toList.isEmpty = false) (w : World) : Calls Tryd.prog 19 #[.agg #[.string ⟨#[105, 100, 101, 97, 108, 82, 117, 110, 101]⟩, .int .i64 n, .int .u64 0, .float .f64 0, .string s]] w (ValidPost ⟨#[105, 100, 101, 97, 108, 82, 117, 110, 101]⟩ (n) (0) (0) s w) := by
  have H := Lib.hid (viff_idealRune_s n s h)
  have hb0 := bits_zero
  go_enter Tryd.func19, Tryd.ntmps19
  go_wp2_with (first | (go_at_call 22; refine (width_idealRune _).mono ?_; rintro e w' ⟨rfl, rfl⟩) | (go_at_call 39; refine (isFloat_idealRune _).mono ?_; rintro e w' ⟨rfl, rfl⟩))
  go_quiet ((go_at_call 35; exact Calls.quiet_of_same (bits_any _ _)))
  go_wp2
  go_ret
  exact valid_post rfl (by repeat (first | exact Below.refl _ _ | refine below_drewN ?_ _ | refine Below.drew ?_ | refine Below.alloc ?_ (by simp) _)) H.out
theorem viff_idealRune_n (n : Int) (g1 : -9223372036854775808 ≤ n) (g2 : n ≤ 9223372036854775807) : VIff ((n / 2147483648 == n / 9223372036854775808)) ⟨#[105, 100, 101, 97, 108, 82, 117, 110, 101]⟩ (n) (0) (0) ⟨#[]⟩ := by
  unfold VIff
  constructor
  · intro h
    have h1 : n / 2147483648 = n / 9223372036854775808 := by simpa using h
    exact ⟨.iRune n, ⟨by omega, by omega⟩, rfl, rfl, rfl, rfl, rfl⟩
  · rintro ⟨v, ho, hk, hn, hu, hf, hs⟩
    obtain ⟨a, rfl⟩ := inv_idealRune hk
    simp only [V.N] at hn
    subst hn
    obtain ⟨o1, o2⟩ := ho
    have h1 : a / 2147483648 = a / 9223372036854775808 := by omega
    simpa using h1
set_option maxRecDepth 100000 in
set_option maxHeartbeats 1000000 in
theorem valid_idealRune_n (n : Int) (g1 : -9223372036854775808 ≤ n) (g2 : n ≤ 9223372036854775807) (w : World) : Calls Tryd.prog 19 #[.agg #[.string ⟨#[105, 100, 101, 97, 108, 82, 117, 110, 101]⟩, .int .i64 n, .int .u64 0, .float .f64 0, .string ⟨#[]⟩]] w (ValidPost ⟨#[105, 100, 101, 97, 108, 82, 117, 110, 101]⟩ (n) (0) (0) ⟨#[]⟩ w) := by
  have H := Lib.hid (viff_idealRune_n n g1 g2)
  have hb0 := bits_zero
  go_enter Tryd.func19, Tryd.ntmps19
  go_wp2_with (first | (go_at_call 22; refine (width_idealRune _).mono ?_; rintro e w' ⟨rfl, rfl⟩) | (go_at_call 39; refine (isFloat_idealRune _).mono ?_; rintro e w' ⟨rfl, rfl⟩))
  go_quiet ((go_at_call 35; exact Calls.quiet_of_same (bits_any _ _)))
  go_wp2
  go_ret
  exact valid_post rfl (by repeat (first | exact Below.refl _ _ | refine below_drewN ?_ _ | refine Below.drew ?_ | refine Below.alloc ?_ (by simp) _)) H.out
end Go.Proofs.YtpkgngpmnapdoaaDoor
