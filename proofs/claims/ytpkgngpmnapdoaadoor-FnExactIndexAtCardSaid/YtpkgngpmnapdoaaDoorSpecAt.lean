/- The reference: vIsNull, vPlace, IndexAt, of a value. -/
import Derived.Deep.QuietTactic
import Derived.BigQuiet
import Derived.Test.YtpkgngpmnapdoaaDoorSValid
import Derived.Test.YtpkgngpmnapdoaaDoorCut
namespace Go.Proofs.YtpkgngpmnapdoaaDoor
open Go.RowKit
set_option linter.unusedVariables false
set_option linter.unusedSimpArgs false
set_option maxRecDepth 100000
attribute [local go_sem] store_flt
def V.isNull : V → Bool
  | .null => true
  | _ => false
def V.isFlt : V → Bool
  | .iFlt _ => true
  | _ => false
theorem said_parts (v : V) : v.said = (!v.isNull && !v.isFlt) := by cases v <;> rfl
theorem flt_K (v : V) : (v.K.toList == [105, 100, 101, 97, 108, 70, 108, 111, 97, 116]) = v.isFlt := by
  rcases v with _ | b | ⟨k, n⟩ | ⟨k, d⟩ | s | s | n | n | n | d <;> (try cases k) <;> (simp only [V.K, V.isFlt]; decide +kernel)
theorem vnul_null (w : World) : Calls Tryd.prog 41 #[.agg #[.string ⟨#[]⟩, .int .i64 0, .int .u64 0, .float .f64 0, .string ⟨#[]⟩]] w fun e w' => e = .returned (.bool true) ∧ Below w.heap.size w w' := by
  go_enter Tryd.func41, Tryd.ntmps41
  go_wp2
  go_ret
  exact ⟨rfl, (by repeat (first | exact Below.refl _ _ | refine below_drewN ?_ _ | refine Below.drew ?_ | refine Below.alloc ?_ (by simp) _ | refine Below.setCell ?_ (by simp) _))⟩
theorem vnul_bool (b : Bool) (w : World) : Calls Tryd.prog 41 #[.agg #[.string ⟨#[98, 111, 111, 108]⟩, .int .i64 (V.bool b).N, .int .u64 0, .float .f64 0, .string ⟨#[]⟩]] w fun e w' => e = .returned (.bool false) ∧ Below w.heap.size w w' := by
  go_enter Tryd.func41, Tryd.ntmps41
  go_wp2
  go_ret
  exact ⟨rfl, (by repeat (first | exact Below.refl _ _ | refine below_drewN ?_ _ | refine Below.drew ?_ | refine Below.alloc ?_ (by simp) _ | refine Below.setCell ?_ (by simp) _))⟩
theorem vnul_int8 (n : Int) (h1 : -128 ≤ n) (h2 : n ≤ 127) (w : World) : Calls Tryd.prog 41 #[.agg #[.string ⟨#[105, 110, 116, 56]⟩, .int .i64 n, .int .u64 0, .float .f64 0, .string ⟨#[]⟩]] w fun e w' => e = .returned (.bool false) ∧ Below w.heap.size w w' := by
  go_enter Tryd.func41, Tryd.ntmps41
  go_wp2
  go_ret
  exact ⟨rfl, (by repeat (first | exact Below.refl _ _ | refine below_drewN ?_ _ | refine Below.drew ?_ | refine Below.alloc ?_ (by simp) _ | refine Below.setCell ?_ (by simp) _))⟩
theorem vnul_int16 (n : Int) (h1 : -32768 ≤ n) (h2 : n ≤ 32767) (w : World) : Calls Tryd.prog 41 #[.agg #[.string ⟨#[105, 110, 116, 49, 54]⟩, .int .i64 n, .int .u64 0, .float .f64 0, .string ⟨#[]⟩]] w fun e w' => e = .returned (.bool false) ∧ Below w.heap.size w w' := by
  go_enter Tryd.func41, Tryd.ntmps41
  go_wp2
  go_ret
  exact ⟨rfl, (by repeat (first | exact Below.refl _ _ | refine below_drewN ?_ _ | refine Below.drew ?_ | refine Below.alloc ?_ (by simp) _ | refine Below.setCell ?_ (by simp) _))⟩
theorem vnul_int32 (n : Int) (h1 : -2147483648 ≤ n) (h2 : n ≤ 2147483647) (w : World) : Calls Tryd.prog 41 #[.agg #[.string ⟨#[105, 110, 116, 51, 50]⟩, .int .i64 n, .int .u64 0, .float .f64 0, .string ⟨#[]⟩]] w fun e w' => e = .returned (.bool false) ∧ Below w.heap.size w w' := by
  go_enter Tryd.func41, Tryd.ntmps41
  go_wp2
  go_ret
  exact ⟨rfl, (by repeat (first | exact Below.refl _ _ | refine below_drewN ?_ _ | refine Below.drew ?_ | refine Below.alloc ?_ (by simp) _ | refine Below.setCell ?_ (by simp) _))⟩
theorem vnul_int64 (n : Int) (h1 : -9223372036854775808 ≤ n) (h2 : n ≤ 9223372036854775807) (w : World) : Calls Tryd.prog 41 #[.agg #[.string ⟨#[105, 110, 116, 54, 52]⟩, .int .i64 n, .int .u64 0, .float .f64 0, .string ⟨#[]⟩]] w fun e w' => e = .returned (.bool false) ∧ Below w.heap.size w w' := by
  go_enter Tryd.func41, Tryd.ntmps41
  go_wp2
  go_ret
  exact ⟨rfl, (by repeat (first | exact Below.refl _ _ | refine below_drewN ?_ _ | refine Below.drew ?_ | refine Below.alloc ?_ (by simp) _ | refine Below.setCell ?_ (by simp) _))⟩
theorem vnul_uint8 (n : Int) (h1 : 0 ≤ n) (h2 : n ≤ 255) (w : World) : Calls Tryd.prog 41 #[.agg #[.string ⟨#[117, 105, 110, 116, 56]⟩, .int .i64 0, .int .u64 n, .float .f64 0, .string ⟨#[]⟩]] w fun e w' => e = .returned (.bool false) ∧ Below w.heap.size w w' := by
  go_enter Tryd.func41, Tryd.ntmps41
  go_wp2
  go_ret
  exact ⟨rfl, (by repeat (first | exact Below.refl _ _ | refine below_drewN ?_ _ | refine Below.drew ?_ | refine Below.alloc ?_ (by simp) _ | refine Below.setCell ?_ (by simp) _))⟩
theorem vnul_uint16 (n : Int) (h1 : 0 ≤ n) (h2 : n ≤ 65535) (w : World) : Calls Tryd.prog 41 #[.agg #[.string ⟨#[117, 105, 110, 116, 49, 54]⟩, .int .i64 0, .int .u64 n, .float .f64 0, .string ⟨#[]⟩]] w fun e w' => e = .returned (.bool false) ∧ Below w.heap.size w w' := by
  go_enter Tryd.func41, Tryd.ntmps41
  go_wp2
  go_ret
  exact ⟨rfl, (by repeat (first | exact Below.refl _ _ | refine below_drewN ?_ _ | refine Below.drew ?_ | refine Below.alloc ?_ (by simp) _ | refine Below.setCell ?_ (by simp) _))⟩
theorem vnul_uint32 (n : Int) (h1 : 0 ≤ n) (h2 : n ≤ 4294967295) (w : World) : Calls Tryd.prog 41 #[.agg #[.string ⟨#[117, 105, 110, 116, 51, 50]⟩, .int .i64 0, .int .u64 n, .float .f64 0, .string ⟨#[]⟩]] w fun e w' => e = .returned (.bool false) ∧ Below w.heap.size w w' := by
  go_enter Tryd.func41, Tryd.ntmps41
  go_wp2
  go_ret
  exact ⟨rfl, (by repeat (first | exact Below.refl _ _ | refine below_drewN ?_ _ | refine Below.drew ?_ | refine Below.alloc ?_ (by simp) _ | refine Below.setCell ?_ (by simp) _))⟩
theorem vnul_uint64 (n : Int) (h1 : 0 ≤ n) (h2 : n ≤ 18446744073709551615) (w : World) : Calls Tryd.prog 41 #[.agg #[.string ⟨#[117, 105, 110, 116, 54, 52]⟩, .int .i64 0, .int .u64 n, .float .f64 0, .string ⟨#[]⟩]] w fun e w' => e = .returned (.bool false) ∧ Below w.heap.size w w' := by
  go_enter Tryd.func41, Tryd.ntmps41
  go_wp2
  go_ret
  exact ⟨rfl, (by repeat (first | exact Below.refl _ _ | refine below_drewN ?_ _ | refine Below.drew ?_ | refine Below.alloc ?_ (by simp) _ | refine Below.setCell ?_ (by simp) _))⟩
theorem vnul_float32 (d : Nat) (w : World) : Calls Tryd.prog 41 #[.agg #[.string ⟨#[102, 108, 111, 97, 116, 51, 50]⟩, .int .i64 0, .int .u64 0, .float .f64 d, .string ⟨#[]⟩]] w fun e w' => e = .returned (.bool false) ∧ Below w.heap.size w w' := by
  go_enter Tryd.func41, Tryd.ntmps41
  go_wp2
  go_ret
  exact ⟨rfl, (by repeat (first | exact Below.refl _ _ | refine below_drewN ?_ _ | refine Below.drew ?_ | refine Below.alloc ?_ (by simp) _ | refine Below.setCell ?_ (by simp) _))⟩
theorem vnul_float64 (d : Nat) (w : World) : Calls Tryd.prog 41 #[.agg #[.string ⟨#[102, 108, 111, 97, 116, 54, 52]⟩, .int .i64 0, .int .u64 0, .float .f64 d, .string ⟨#[]⟩]] w fun e w' => e = .returned (.bool false) ∧ Below w.heap.size w w' := by
  go_enter Tryd.func41, Tryd.ntmps41
  go_wp2
  go_ret
  exact ⟨rfl, (by repeat (first | exact Below.refl _ _ | refine below_drewN ?_ _ | refine Below.drew ?_ | refine Below.alloc ?_ (by simp) _ | refine Below.setCell ?_ (by simp) _))⟩
theorem vnul_string (s : ByteArray) (w : World) : Calls Tryd.prog 41 #[.agg #[.string ⟨#[115, 116, 114, 105, 110, 103]⟩, .int .i64 0, .int .u64 0, .float .f64 0, .string s]] w fun e w' => e = .returned (.bool false) ∧ Below w.heap.size w w' := by
  go_enter Tryd.func41, Tryd.ntmps41
  go_wp2
  go_ret
  exact ⟨rfl, (by repeat (first | exact Below.refl _ _ | refine below_drewN ?_ _ | refine Below.drew ?_ | refine Below.alloc ?_ (by simp) _ | refine Below.setCell ?_ (by simp) _))⟩
theorem vnul_blob (s : ByteArray) (w : World) : Calls Tryd.prog 41 #[.agg #[.string ⟨#[98, 108, 111, 98]⟩, .int .i64 0, .int .u64 0, .float .f64 0, .string s]] w fun e w' => e = .returned (.bool false) ∧ Below w.heap.size w w' := by
  go_enter Tryd.func41, Tryd.ntmps41
  go_wp2
  go_ret
  exact ⟨rfl, (by repeat (first | exact Below.refl _ _ | refine below_drewN ?_ _ | refine Below.drew ?_ | refine Below.alloc ?_ (by simp) _ | refine Below.setCell ?_ (by simp) _))⟩
theorem vnul_idealInt (n : Int) (h1 : -9223372036854775808 ≤ n) (h2 : n ≤ 9223372036854775807) (w : World) : Calls Tryd.prog 41 #[.agg #[.string ⟨#[105, 100, 101, 97, 108, 73, 110, 116]⟩, .int .i64 n, .int .u64 0, .float .f64 0, .string ⟨#[]⟩]] w fun e w' => e = .returned (.bool false) ∧ Below w.heap.size w w' := by
  go_enter Tryd.func41, Tryd.ntmps41
  go_wp2
  go_ret
  exact ⟨rfl, (by repeat (first | exact Below.refl _ _ | refine below_drewN ?_ _ | refine Below.drew ?_ | refine Below.alloc ?_ (by simp) _ | refine Below.setCell ?_ (by simp) _))⟩
theorem vnul_idealRune (n : Int) (h1 : -2147483648 ≤ n) (h2 : n ≤ 2147483647) (w : World) : Calls Tryd.prog 41 #[.agg #[.string ⟨#[105, 100, 101, 97, 108, 82, 117, 110, 101]⟩, .int .i64 n, .int .u64 0, .float .f64 0, .string ⟨#[]⟩]] w fun e w' => e = .returned (.bool false) ∧ Below w.heap.size w w' := by
  go_enter Tryd.func41, Tryd.ntmps41
  go_wp2
  go_ret
  exact ⟨rfl, (by repeat (first | exact Below.refl _ _ | refine below_drewN ?_ _ | refine Below.drew ?_ | refine Below.alloc ?_ (by simp) _ | refine Below.setCell ?_ (by simp) _))⟩
theorem vnul_idealUint (n : Int) (h1 : 0 ≤ n) (h2 : n ≤ 18446744073709551615) (w : World) : Calls Tryd.prog 41 #[.agg #[.string ⟨#[105, 100, 101, 97, 108, 85, 105, 110, 116]⟩, .int .i64 0, .int .u64 n, .float .f64 0, .string ⟨#[]⟩]] w fun e w' => e = .returned (.bool false) ∧ Below w.heap.size w w' := by
  go_enter Tryd.func41, Tryd.ntmps41
  go_wp2
  go_ret
  exact ⟨rfl, (by repeat (first | exact Below.refl _ _ | refine below_drewN ?_ _ | refine Below.drew ?_ | refine Below.alloc ?_ (by simp) _ | refine Below.setCell ?_ (by simp) _))⟩
theorem vnul_idealFloat (d : Nat) (w : World) : Calls Tryd.prog 41 #[.agg #[.string ⟨#[105, 100, 101, 97, 108, 70, 108, 111, 97, 116]⟩, .int .i64 0, .int .u64 0, .float .f64 d, .string ⟨#[]⟩]] w fun e w' => e = .returned (.bool false) ∧ Below w.heap.size w w' := by
  go_enter Tryd.func41, Tryd.ntmps41
  go_wp2
  go_ret
  exact ⟨rfl, (by repeat (first | exact Below.refl _ _ | refine below_drewN ?_ _ | refine Below.drew ?_ | refine Below.alloc ?_ (by simp) _ | refine Below.setCell ?_ (by simp) _))⟩
theorem vnul_any (v : V) (hv : v.ok) (w : World) : Calls Tryd.prog 41 #[.agg #[.string v.K, .int .i64 v.N, .int .u64 v.U, .float .f64 v.F, .string v.S]] w fun e w' => e = .returned (.bool v.isNull) ∧ Below w.heap.size w w' := by
  rcases v with _ | b | ⟨k, n⟩ | ⟨k, d⟩ | s | s | n | n | n | d
  · exact vnul_null w
  · exact vnul_bool b w
  · cases k
    · exact vnul_int8 n hv.1 hv.2 w
    · exact vnul_int16 n hv.1 hv.2 w
    · exact vnul_int32 n hv.1 hv.2 w
    · exact vnul_int64 n hv.1 hv.2 w
    · exact vnul_uint8 n hv.1 hv.2 w
    · exact vnul_uint16 n hv.1 hv.2 w
    · exact vnul_uint32 n hv.1 hv.2 w
    · exact vnul_uint64 n hv.1 hv.2 w
  · cases k
    · exact vnul_float32 d w
    · exact vnul_float64 d w
  · exact vnul_string s w
  · exact vnul_blob s w
  · exact vnul_idealInt n hv.1 hv.2 w
  · exact vnul_idealRune n hv.1 hv.2 w
  · exact vnul_idealUint n hv.1 hv.2 w
  · exact vnul_idealFloat d w
/-- A place: whole, and its number where it is not below 0. -/
def PlacePost (wh : Bool) (n : Int) (w : World) (e : Ending) (w' : World) : Prop :=
  ∃ (m : Int) (ok : Bool), e = .returned (.tuple #[.int .u64 m, .bool wh, .bool ok]) ∧ (wh = true → ok = decide (0 ≤ n) ∧ (0 ≤ n → m = n)) ∧ Below w.heap.size w w'
theorem place_post {wh : Bool} {n m : Int} {ok : Bool} {w w' : World} {e : Ending} (he : e = .returned (.tuple #[.int .u64 m, .bool wh, .bool ok])) (h : wh = true → ok = decide (0 ≤ n) ∧ (0 ≤ n → m = n)) (hb : Below w.heap.size w w') : PlacePost wh n w e w' := ⟨m, ok, he, h, hb⟩
theorem vplace_null (w : World) : Calls Tryd.prog 42 #[.agg #[.string ⟨#[]⟩, .int .i64 0, .int .u64 0, .float .f64 0, .string ⟨#[]⟩]] w (PlacePost false 0 w) := by
  go_enter Tryd.func42, Tryd.ntmps42
  go_wp2_with (first | (go_at_call 61; refine (vuns_null _).mono ?_; rintro e w' ⟨rfl, rfl⟩) | (go_at_call 58; refine (vsig_null _).mono ?_; rintro e w' ⟨rfl, rfl⟩) | (go_at_call 63; refine (vide_null _).mono ?_; rintro e w' ⟨rfl, rfl⟩))
  go_returns
  exact place_post rfl (fun h => nomatch h) (by repeat (first | exact Below.refl _ _ | refine below_drewN ?_ _ | refine Below.drew ?_ | refine Below.alloc ?_ (by simp) _ | refine Below.setCell ?_ (by simp) _))
theorem vplace_bool (b : Bool) (w : World) : Calls Tryd.prog 42 #[.agg #[.string ⟨#[98, 111, 111, 108]⟩, .int .i64 (V.bool b).N, .int .u64 0, .float .f64 0, .string ⟨#[]⟩]] w (PlacePost false 0 w) := by
  go_enter Tryd.func42, Tryd.ntmps42
  go_wp2_with (first | (go_at_call 61; refine (vuns_bool _).mono ?_; rintro e w' ⟨rfl, rfl⟩) | (go_at_call 58; refine (vsig_bool _).mono ?_; rintro e w' ⟨rfl, rfl⟩) | (go_at_call 63; refine (vide_bool _).mono ?_; rintro e w' ⟨rfl, rfl⟩))
  go_returns
  exact place_post rfl (fun h => nomatch h) (by repeat (first | exact Below.refl _ _ | refine below_drewN ?_ _ | refine Below.drew ?_ | refine Below.alloc ?_ (by simp) _ | refine Below.setCell ?_ (by simp) _))
theorem vplace_int8 (n : Int) (h1 : -128 ≤ n) (h2 : n ≤ 127) (w : World) : Calls Tryd.prog 42 #[.agg #[.string ⟨#[105, 110, 116, 56]⟩, .int .i64 n, .int .u64 0, .float .f64 0, .string ⟨#[]⟩]] w (PlacePost true n w) := by
  by_cases h0 : 0 ≤ n
  · have hw : IntKind.u64.wrap n = n := IntWalk.u64_in _ ⟨by omega, by omega⟩
    have H0 := Lib.hid h0
    clear h1 h2
    go_enter Tryd.func42, Tryd.ntmps42
    go_wp2_with (first | (go_at_call 61; refine (vuns_int8 _).mono ?_; rintro e w' ⟨rfl, rfl⟩) | (go_at_call 58; refine (vsig_int8 _).mono ?_; rintro e w' ⟨rfl, rfl⟩) | (go_at_call 63; refine (vide_int8 _).mono ?_; rintro e w' ⟨rfl, rfl⟩))
    go_quiet (fail)
    go_wp2
    go_returns
    exact place_post rfl (fun _ => ⟨by have := H0.out; simp <;> omega, fun _ => rfl⟩) (by repeat (first | exact Below.refl _ _ | refine below_drewN ?_ _ | refine Below.drew ?_ | refine Below.alloc ?_ (by simp) _ | refine Below.setCell ?_ (by simp) _))
  · clear h1 h2
    go_enter Tryd.func42, Tryd.ntmps42
    go_wp2_with (first | (go_at_call 61; refine (vuns_int8 _).mono ?_; rintro e w' ⟨rfl, rfl⟩) | (go_at_call 58; refine (vsig_int8 _).mono ?_; rintro e w' ⟨rfl, rfl⟩) | (go_at_call 63; refine (vide_int8 _).mono ?_; rintro e w' ⟨rfl, rfl⟩))
    go_quiet (fail)
    go_wp2
    go_returns
    exact place_post rfl (fun _ => ⟨by simp <;> omega, fun h => absurd h (by omega)⟩) (by repeat (first | exact Below.refl _ _ | refine below_drewN ?_ _ | refine Below.drew ?_ | refine Below.alloc ?_ (by simp) _ | refine Below.setCell ?_ (by simp) _))
theorem vplace_int16 (n : Int) (h1 : -32768 ≤ n) (h2 : n ≤ 32767) (w : World) : Calls Tryd.prog 42 #[.agg #[.string ⟨#[105, 110, 116, 49, 54]⟩, .int .i64 n, .int .u64 0, .float .f64 0, .string ⟨#[]⟩]] w (PlacePost true n w) := by
  by_cases h0 : 0 ≤ n
  · have hw : IntKind.u64.wrap n = n := IntWalk.u64_in _ ⟨by omega, by omega⟩
    have H0 := Lib.hid h0
    clear h1 h2
    go_enter Tryd.func42, Tryd.ntmps42
    go_wp2_with (first | (go_at_call 61; refine (vuns_int16 _).mono ?_; rintro e w' ⟨rfl, rfl⟩) | (go_at_call 58; refine (vsig_int16 _).mono ?_; rintro e w' ⟨rfl, rfl⟩) | (go_at_call 63; refine (vide_int16 _).mono ?_; rintro e w' ⟨rfl, rfl⟩))
    go_quiet (fail)
    go_wp2
    go_returns
    exact place_post rfl (fun _ => ⟨by have := H0.out; simp <;> omega, fun _ => rfl⟩) (by repeat (first | exact Below.refl _ _ | refine below_drewN ?_ _ | refine Below.drew ?_ | refine Below.alloc ?_ (by simp) _ | refine Below.setCell ?_ (by simp) _))
  · clear h1 h2
    go_enter Tryd.func42, Tryd.ntmps42
    go_wp2_with (first | (go_at_call 61; refine (vuns_int16 _).mono ?_; rintro e w' ⟨rfl, rfl⟩) | (go_at_call 58; refine (vsig_int16 _).mono ?_; rintro e w' ⟨rfl, rfl⟩) | (go_at_call 63; refine (vide_int16 _).mono ?_; rintro e w' ⟨rfl, rfl⟩))
    go_quiet (fail)
    go_wp2
    go_returns
    exact place_post rfl (fun _ => ⟨by simp <;> omega, fun h => absurd h (by omega)⟩) (by repeat (first | exact Below.refl _ _ | refine below_drewN ?_ _ | refine Below.drew ?_ | refine Below.alloc ?_ (by simp) _ | refine Below.setCell ?_ (by simp) _))
theorem vplace_int32 (n : Int) (h1 : -2147483648 ≤ n) (h2 : n ≤ 2147483647) (w : World) : Calls Tryd.prog 42 #[.agg #[.string ⟨#[105, 110, 116, 51, 50]⟩, .int .i64 n, .int .u64 0, .float .f64 0, .string ⟨#[]⟩]] w (PlacePost true n w) := by
  by_cases h0 : 0 ≤ n
  · have hw : IntKind.u64.wrap n = n := IntWalk.u64_in _ ⟨by omega, by omega⟩
    have H0 := Lib.hid h0
    clear h1 h2
    go_enter Tryd.func42, Tryd.ntmps42
    go_wp2_with (first | (go_at_call 61; refine (vuns_int32 _).mono ?_; rintro e w' ⟨rfl, rfl⟩) | (go_at_call 58; refine (vsig_int32 _).mono ?_; rintro e w' ⟨rfl, rfl⟩) | (go_at_call 63; refine (vide_int32 _).mono ?_; rintro e w' ⟨rfl, rfl⟩))
    go_quiet (fail)
    go_wp2
    go_returns
    exact place_post rfl (fun _ => ⟨by have := H0.out; simp <;> omega, fun _ => rfl⟩) (by repeat (first | exact Below.refl _ _ | refine below_drewN ?_ _ | refine Below.drew ?_ | refine Below.alloc ?_ (by simp) _ | refine Below.setCell ?_ (by simp) _))
  · clear h1 h2
    go_enter Tryd.func42, Tryd.ntmps42
    go_wp2_with (first | (go_at_call 61; refine (vuns_int32 _).mono ?_; rintro e w' ⟨rfl, rfl⟩) | (go_at_call 58; refine (vsig_int32 _).mono ?_; rintro e w' ⟨rfl, rfl⟩) | (go_at_call 63; refine (vide_int32 _).mono ?_; rintro e w' ⟨rfl, rfl⟩))
    go_quiet (fail)
    go_wp2
    go_returns
    exact place_post rfl (fun _ => ⟨by simp <;> omega, fun h => absurd h (by omega)⟩) (by repeat (first | exact Below.refl _ _ | refine below_drewN ?_ _ | refine Below.drew ?_ | refine Below.alloc ?_ (by simp) _ | refine Below.setCell ?_ (by simp) _))
theorem vplace_int64 (n : Int) (h1 : -9223372036854775808 ≤ n) (h2 : n ≤ 9223372036854775807) (w : World) : Calls Tryd.prog 42 #[.agg #[.string ⟨#[105, 110, 116, 54, 52]⟩, .int .i64 n, .int .u64 0, .float .f64 0, .string ⟨#[]⟩]] w (PlacePost true n w) := by
  by_cases h0 : 0 ≤ n
  · have hw : IntKind.u64.wrap n = n := IntWalk.u64_in _ ⟨by omega, by omega⟩
    have H0 := Lib.hid h0
    clear h1 h2
    go_enter Tryd.func42, Tryd.ntmps42
    go_wp2_with (first | (go_at_call 61; refine (vuns_int64 _).mono ?_; rintro e w' ⟨rfl, rfl⟩) | (go_at_call 58; refine (vsig_int64 _).mono ?_; rintro e w' ⟨rfl, rfl⟩) | (go_at_call 63; refine (vide_int64 _).mono ?_; rintro e w' ⟨rfl, rfl⟩))
    go_quiet (fail)
    go_wp2
    go_returns
    exact place_post rfl (fun _ => ⟨by have := H0.out; simp <;> omega, fun _ => rfl⟩) (by repeat (first | exact Below.refl _ _ | refine below_drewN ?_ _ | refine Below.drew ?_ | refine Below.alloc ?_ (by simp) _ | refine Below.setCell ?_ (by simp) _))
  · clear h1 h2
    go_enter Tryd.func42, Tryd.ntmps42
    go_wp2_with (first | (go_at_call 61; refine (vuns_int64 _).mono ?_; rintro e w' ⟨rfl, rfl⟩) | (go_at_call 58; refine (vsig_int64 _).mono ?_; rintro e w' ⟨rfl, rfl⟩) | (go_at_call 63; refine (vide_int64 _).mono ?_; rintro e w' ⟨rfl, rfl⟩))
    go_quiet (fail)
    go_wp2
    go_returns
    exact place_post rfl (fun _ => ⟨by simp <;> omega, fun h => absurd h (by omega)⟩) (by repeat (first | exact Below.refl _ _ | refine below_drewN ?_ _ | refine Below.drew ?_ | refine Below.alloc ?_ (by simp) _ | refine Below.setCell ?_ (by simp) _))
theorem vplace_uint8 (n : Int) (h1 : 0 ≤ n) (h2 : n ≤ 255) (w : World) : Calls Tryd.prog 42 #[.agg #[.string ⟨#[117, 105, 110, 116, 56]⟩, .int .i64 0, .int .u64 n, .float .f64 0, .string ⟨#[]⟩]] w (PlacePost true n w) := by
  go_enter Tryd.func42, Tryd.ntmps42
  go_wp2_with (first | (go_at_call 61; refine (vuns_uint8 _).mono ?_; rintro e w' ⟨rfl, rfl⟩) | (go_at_call 58; refine (vsig_uint8 _).mono ?_; rintro e w' ⟨rfl, rfl⟩) | (go_at_call 63; refine (vide_uint8 _).mono ?_; rintro e w' ⟨rfl, rfl⟩))
  go_returns
  exact place_post rfl (fun _ => ⟨by simp; omega, fun _ => rfl⟩) (by repeat (first | exact Below.refl _ _ | refine below_drewN ?_ _ | refine Below.drew ?_ | refine Below.alloc ?_ (by simp) _ | refine Below.setCell ?_ (by simp) _))
theorem vplace_uint16 (n : Int) (h1 : 0 ≤ n) (h2 : n ≤ 65535) (w : World) : Calls Tryd.prog 42 #[.agg #[.string ⟨#[117, 105, 110, 116, 49, 54]⟩, .int .i64 0, .int .u64 n, .float .f64 0, .string ⟨#[]⟩]] w (PlacePost true n w) := by
  go_enter Tryd.func42, Tryd.ntmps42
  go_wp2_with (first | (go_at_call 61; refine (vuns_uint16 _).mono ?_; rintro e w' ⟨rfl, rfl⟩) | (go_at_call 58; refine (vsig_uint16 _).mono ?_; rintro e w' ⟨rfl, rfl⟩) | (go_at_call 63; refine (vide_uint16 _).mono ?_; rintro e w' ⟨rfl, rfl⟩))
  go_returns
  exact place_post rfl (fun _ => ⟨by simp; omega, fun _ => rfl⟩) (by repeat (first | exact Below.refl _ _ | refine below_drewN ?_ _ | refine Below.drew ?_ | refine Below.alloc ?_ (by simp) _ | refine Below.setCell ?_ (by simp) _))
theorem vplace_uint32 (n : Int) (h1 : 0 ≤ n) (h2 : n ≤ 4294967295) (w : World) : Calls Tryd.prog 42 #[.agg #[.string ⟨#[117, 105, 110, 116, 51, 50]⟩, .int .i64 0, .int .u64 n, .float .f64 0, .string ⟨#[]⟩]] w (PlacePost true n w) := by
  go_enter Tryd.func42, Tryd.ntmps42
  go_wp2_with (first | (go_at_call 61; refine (vuns_uint32 _).mono ?_; rintro e w' ⟨rfl, rfl⟩) | (go_at_call 58; refine (vsig_uint32 _).mono ?_; rintro e w' ⟨rfl, rfl⟩) | (go_at_call 63; refine (vide_uint32 _).mono ?_; rintro e w' ⟨rfl, rfl⟩))
  go_returns
  exact place_post rfl (fun _ => ⟨by simp; omega, fun _ => rfl⟩) (by repeat (first | exact Below.refl _ _ | refine below_drewN ?_ _ | refine Below.drew ?_ | refine Below.alloc ?_ (by simp) _ | refine Below.setCell ?_ (by simp) _))
theorem vplace_uint64 (n : Int) (h1 : 0 ≤ n) (h2 : n ≤ 18446744073709551615) (w : World) : Calls Tryd.prog 42 #[.agg #[.string ⟨#[117, 105, 110, 116, 54, 52]⟩, .int .i64 0, .int .u64 n, .float .f64 0, .string ⟨#[]⟩]] w (PlacePost true n w) := by
  go_enter Tryd.func42, Tryd.ntmps42
  go_wp2_with (first | (go_at_call 61; refine (vuns_uint64 _).mono ?_; rintro e w' ⟨rfl, rfl⟩) | (go_at_call 58; refine (vsig_uint64 _).mono ?_; rintro e w' ⟨rfl, rfl⟩) | (go_at_call 63; refine (vide_uint64 _).mono ?_; rintro e w' ⟨rfl, rfl⟩))
  go_returns
  exact place_post rfl (fun _ => ⟨by simp; omega, fun _ => rfl⟩) (by repeat (first | exact Below.refl _ _ | refine below_drewN ?_ _ | refine Below.drew ?_ | refine Below.alloc ?_ (by simp) _ | refine Below.setCell ?_ (by simp) _))
theorem vplace_float32 (d : Nat) (w : World) : Calls Tryd.prog 42 #[.agg #[.string ⟨#[102, 108, 111, 97, 116, 51, 50]⟩, .int .i64 0, .int .u64 0, .float .f64 d, .string ⟨#[]⟩]] w (PlacePost false 0 w) := by
  go_enter Tryd.func42, Tryd.ntmps42
  go_wp2_with (first | (go_at_call 61; refine (vuns_float32 _).mono ?_; rintro e w' ⟨rfl, rfl⟩) | (go_at_call 58; refine (vsig_float32 _).mono ?_; rintro e w' ⟨rfl, rfl⟩) | (go_at_call 63; refine (vide_float32 _).mono ?_; rintro e w' ⟨rfl, rfl⟩))
  go_returns
  exact place_post rfl (fun h => nomatch h) (by repeat (first | exact Below.refl _ _ | refine below_drewN ?_ _ | refine Below.drew ?_ | refine Below.alloc ?_ (by simp) _ | refine Below.setCell ?_ (by simp) _))
theorem vplace_float64 (d : Nat) (w : World) : Calls Tryd.prog 42 #[.agg #[.string ⟨#[102, 108, 111, 97, 116, 54, 52]⟩, .int .i64 0, .int .u64 0, .float .f64 d, .string ⟨#[]⟩]] w (PlacePost false 0 w) := by
  go_enter Tryd.func42, Tryd.ntmps42
  go_wp2_with (first | (go_at_call 61; refine (vuns_float64 _).mono ?_; rintro e w' ⟨rfl, rfl⟩) | (go_at_call 58; refine (vsig_float64 _).mono ?_; rintro e w' ⟨rfl, rfl⟩) | (go_at_call 63; refine (vide_float64 _).mono ?_; rintro e w' ⟨rfl, rfl⟩))
  go_returns
  exact place_post rfl (fun h => nomatch h) (by repeat (first | exact Below.refl _ _ | refine below_drewN ?_ _ | refine Below.drew ?_ | refine Below.alloc ?_ (by simp) _ | refine Below.setCell ?_ (by simp) _))
theorem vplace_string (s : ByteArray) (w : World) : Calls Tryd.prog 42 #[.agg #[.string ⟨#[115, 116, 114, 105, 110, 103]⟩, .int .i64 0, .int .u64 0, .float .f64 0, .string s]] w (PlacePost false 0 w) := by
  go_enter Tryd.func42, Tryd.ntmps42
  go_wp2_with (first | (go_at_call 61; refine (vuns_string _).mono ?_; rintro e w' ⟨rfl, rfl⟩) | (go_at_call 58; refine (vsig_string _).mono ?_; rintro e w' ⟨rfl, rfl⟩) | (go_at_call 63; refine (vide_string _).mono ?_; rintro e w' ⟨rfl, rfl⟩))
  go_returns
  exact place_post rfl (fun h => nomatch h) (by repeat (first | exact Below.refl _ _ | refine below_drewN ?_ _ | refine Below.drew ?_ | refine Below.alloc ?_ (by simp) _ | refine Below.setCell ?_ (by simp) _))
theorem vplace_blob (s : ByteArray) (w : World) : Calls Tryd.prog 42 #[.agg #[.string ⟨#[98, 108, 111, 98]⟩, .int .i64 0, .int .u64 0, .float .f64 0, .string s]] w (PlacePost false 0 w) := by
  go_enter Tryd.func42, Tryd.ntmps42
  go_wp2_with (first | (go_at_call 61; refine (vuns_blob _).mono ?_; rintro e w' ⟨rfl, rfl⟩) | (go_at_call 58; refine (vsig_blob _).mono ?_; rintro e w' ⟨rfl, rfl⟩) | (go_at_call 63; refine (vide_blob _).mono ?_; rintro e w' ⟨rfl, rfl⟩))
  go_returns
  exact place_post rfl (fun h => nomatch h) (by repeat (first | exact Below.refl _ _ | refine below_drewN ?_ _ | refine Below.drew ?_ | refine Below.alloc ?_ (by simp) _ | refine Below.setCell ?_ (by simp) _))
theorem vplace_idealInt (n : Int) (h1 : -9223372036854775808 ≤ n) (h2 : n ≤ 9223372036854775807) (w : World) : Calls Tryd.prog 42 #[.agg #[.string ⟨#[105, 100, 101, 97, 108, 73, 110, 116]⟩, .int .i64 n, .int .u64 0, .float .f64 0, .string ⟨#[]⟩]] w (PlacePost true n w) := by
  by_cases h0 : 0 ≤ n
  · have hw : IntKind.u64.wrap n = n := IntWalk.u64_in _ ⟨by omega, by omega⟩
    have H0 := Lib.hid h0
    clear h1 h2
    go_enter Tryd.func42, Tryd.ntmps42
    go_wp2_with (first | (go_at_call 61; refine (vuns_idealInt _).mono ?_; rintro e w' ⟨rfl, rfl⟩) | (go_at_call 58; refine (vsig_idealInt _).mono ?_; rintro e w' ⟨rfl, rfl⟩) | (go_at_call 63; refine (vide_idealInt _).mono ?_; rintro e w' ⟨rfl, rfl⟩))
    go_quiet (fail)
    go_wp2
    go_returns
    exact place_post rfl (fun _ => ⟨by have := H0.out; simp <;> omega, fun _ => rfl⟩) (by repeat (first | exact Below.refl _ _ | refine below_drewN ?_ _ | refine Below.drew ?_ | refine Below.alloc ?_ (by simp) _ | refine Below.setCell ?_ (by simp) _))
  · clear h1 h2
    go_enter Tryd.func42, Tryd.ntmps42
    go_wp2_with (first | (go_at_call 61; refine (vuns_idealInt _).mono ?_; rintro e w' ⟨rfl, rfl⟩) | (go_at_call 58; refine (vsig_idealInt _).mono ?_; rintro e w' ⟨rfl, rfl⟩) | (go_at_call 63; refine (vide_idealInt _).mono ?_; rintro e w' ⟨rfl, rfl⟩))
    go_quiet (fail)
    go_wp2
    go_returns
    exact place_post rfl (fun _ => ⟨by simp <;> omega, fun h => absurd h (by omega)⟩) (by repeat (first | exact Below.refl _ _ | refine below_drewN ?_ _ | refine Below.drew ?_ | refine Below.alloc ?_ (by simp) _ | refine Below.setCell ?_ (by simp) _))
theorem vplace_idealRune (n : Int) (h1 : -2147483648 ≤ n) (h2 : n ≤ 2147483647) (w : World) : Calls Tryd.prog 42 #[.agg #[.string ⟨#[105, 100, 101, 97, 108, 82, 117, 110, 101]⟩, .int .i64 n, .int .u64 0, .float .f64 0, .string ⟨#[]⟩]] w (PlacePost true n w) := by
  by_cases h0 : 0 ≤ n
  · have hw : IntKind.u64.wrap n = n := IntWalk.u64_in _ ⟨by omega, by omega⟩
    have H0 := Lib.hid h0
    clear h1 h2
    go_enter Tryd.func42, Tryd.ntmps42
    go_wp2_with (first | (go_at_call 61; refine (vuns_idealRune _).mono ?_; rintro e w' ⟨rfl, rfl⟩) | (go_at_call 58; refine (vsig_idealRune _).mono ?_; rintro e w' ⟨rfl, rfl⟩) | (go_at_call 63; refine (vide_idealRune _).mono ?_; rintro e w' ⟨rfl, rfl⟩))
    go_quiet (fail)
    go_wp2
    go_returns
    exact place_post rfl (fun _ => ⟨by have := H0.out; simp <;> omega, fun _ => rfl⟩) (by repeat (first | exact Below.refl _ _ | refine below_drewN ?_ _ | refine Below.drew ?_ | refine Below.alloc ?_ (by simp) _ | refine Below.setCell ?_ (by simp) _))
  · clear h1 h2
    go_enter Tryd.func42, Tryd.ntmps42
    go_wp2_with (first | (go_at_call 61; refine (vuns_idealRune _).mono ?_; rintro e w' ⟨rfl, rfl⟩) | (go_at_call 58; refine (vsig_idealRune _).mono ?_; rintro e w' ⟨rfl, rfl⟩) | (go_at_call 63; refine (vide_idealRune _).mono ?_; rintro e w' ⟨rfl, rfl⟩))
    go_quiet (fail)
    go_wp2
    go_returns
    exact place_post rfl (fun _ => ⟨by simp <;> omega, fun h => absurd h (by omega)⟩) (by repeat (first | exact Below.refl _ _ | refine below_drewN ?_ _ | refine Below.drew ?_ | refine Below.alloc ?_ (by simp) _ | refine Below.setCell ?_ (by simp) _))
theorem vplace_idealUint (n : Int) (h1 : 0 ≤ n) (h2 : n ≤ 18446744073709551615) (w : World) : Calls Tryd.prog 42 #[.agg #[.string ⟨#[105, 100, 101, 97, 108, 85, 105, 110, 116]⟩, .int .i64 0, .int .u64 n, .float .f64 0, .string ⟨#[]⟩]] w (PlacePost true n w) := by
  go_enter Tryd.func42, Tryd.ntmps42
  go_wp2_with (first | (go_at_call 61; refine (vuns_idealUint _).mono ?_; rintro e w' ⟨rfl, rfl⟩) | (go_at_call 58; refine (vsig_idealUint _).mono ?_; rintro e w' ⟨rfl, rfl⟩) | (go_at_call 63; refine (vide_idealUint _).mono ?_; rintro e w' ⟨rfl, rfl⟩))
  go_returns
  exact place_post rfl (fun _ => ⟨by simp; omega, fun _ => rfl⟩) (by repeat (first | exact Below.refl _ _ | refine below_drewN ?_ _ | refine Below.drew ?_ | refine Below.alloc ?_ (by simp) _ | refine Below.setCell ?_ (by simp) _))
theorem vplace_idealFloat (d : Nat) (w : World) : Calls Tryd.prog 42 #[.agg #[.string ⟨#[105, 100, 101, 97, 108, 70, 108, 111, 97, 116]⟩, .int .i64 0, .int .u64 0, .float .f64 d, .string ⟨#[]⟩]] w (PlacePost false 0 w) := by
  go_enter Tryd.func42, Tryd.ntmps42
  go_wp2_with (first | (go_at_call 61; refine (vuns_idealFloat _).mono ?_; rintro e w' ⟨rfl, rfl⟩) | (go_at_call 58; refine (vsig_idealFloat _).mono ?_; rintro e w' ⟨rfl, rfl⟩) | (go_at_call 63; refine (vide_idealFloat _).mono ?_; rintro e w' ⟨rfl, rfl⟩))
  go_returns
  exact place_post rfl (fun h => nomatch h) (by repeat (first | exact Below.refl _ _ | refine below_drewN ?_ _ | refine Below.drew ?_ | refine Below.alloc ?_ (by simp) _ | refine Below.setCell ?_ (by simp) _))
theorem vplace_any (v : V) (hv : v.ok) (w : World) : Calls Tryd.prog 42 #[.agg #[.string v.K, .int .i64 v.N, .int .u64 v.U, .float .f64 v.F, .string v.S]] w (PlacePost v.whole v.num w) := by
  have un : ∀ {w : World} {e : Ending} {w' : World} (n' : Int), PlacePost false 0 w e w' → PlacePost false n' w e w' := fun n' h => by
    obtain ⟨m, ok, he, _, hb⟩ := h
    exact ⟨m, ok, he, (fun h => nomatch h), hb⟩
  rcases v with _ | b | ⟨k, n⟩ | ⟨k, d⟩ | s | s | n | n | n | d
  · exact (vplace_null w).mono fun e w' h => un _ h
  · exact (vplace_bool b w).mono fun e w' h => un _ h
  · cases k
    · have := vplace_int8 n hv.1 hv.2 w; simpa [V.whole, V.num, V.N, V.U, V.K, V.F, V.S] using this
    · have := vplace_int16 n hv.1 hv.2 w; simpa [V.whole, V.num, V.N, V.U, V.K, V.F, V.S] using this
    · have := vplace_int32 n hv.1 hv.2 w; simpa [V.whole, V.num, V.N, V.U, V.K, V.F, V.S] using this
    · have := vplace_int64 n hv.1 hv.2 w; simpa [V.whole, V.num, V.N, V.U, V.K, V.F, V.S] using this
    · have := vplace_uint8 n hv.1 hv.2 w; simpa [V.whole, V.num, V.N, V.U, V.K, V.F, V.S] using this
    · have := vplace_uint16 n hv.1 hv.2 w; simpa [V.whole, V.num, V.N, V.U, V.K, V.F, V.S] using this
    · have := vplace_uint32 n hv.1 hv.2 w; simpa [V.whole, V.num, V.N, V.U, V.K, V.F, V.S] using this
    · have := vplace_uint64 n hv.1 hv.2 w; simpa [V.whole, V.num, V.N, V.U, V.K, V.F, V.S] using this
  · cases k
    · exact (vplace_float32 d w).mono fun e w' h => un _ h
    · exact (vplace_float64 d w).mono fun e w' h => un _ h
  · exact (vplace_string s w).mono fun e w' h => un _ h
  · exact (vplace_blob s w).mono fun e w' h => un _ h
  · have := vplace_idealInt n hv.1 hv.2 w; simpa [V.whole, V.num, V.N, V.U, V.K, V.F, V.S] using this
  · have := vplace_idealRune n hv.1 hv.2 w; simpa [V.whole, V.num, V.N, V.U, V.K, V.F, V.S] using this
  · have := vplace_idealUint n hv.1 hv.2 w; simpa [V.whole, V.num, V.N, V.U, V.K, V.F, V.S] using this
  · exact (vplace_idealFloat d w).mono fun e w' h => un _ h
/-- What the reference says of a place. -/
def RefPost (v : V) (fits : Bool) (w : World) (e : Ending) (w' : World) : Prop :=
  ∃ (m c : Int) (sd : Bool), e = .returned (.tuple #[.int .u64 m, .int .i64 c, .bool sd]) ∧ (sd = true → v.said = true) ∧ (sd = true → fits = true → m = v.num ∧ c = 0) ∧ (sd = true → fits = false → c = 1) ∧ Below w.heap.size w w'
theorem ref_un {v : V} {fits : Bool} {m c : Int} {w w' : World} {e : Ending} (he : e = .returned (.tuple #[.int .u64 m, .int .i64 c, .bool false])) (hb : Below w.heap.size w w') : RefPost v fits w e w' :=
  ⟨m, c, false, he, (fun h => nomatch h), (fun h => nomatch h), (fun h => nomatch h), hb⟩
theorem ref_bad {v : V} {fits : Bool} {w w' : World} {e : Ending} (he : e = .returned (.tuple #[.int .u64 0, .int .i64 1, .bool true])) (hs : v.said = true) (hf : fits = false) (hb : Below w.heap.size w w') : RefPost v fits w e w' :=
  ⟨0, 1, true, he, fun _ => hs, fun _ h => (by rw [hf] at h; cases h), fun _ _ => rfl, hb⟩
theorem ref_good {v : V} {fits : Bool} {m : Int} {w w' : World} {e : Ending} (he : e = .returned (.tuple #[.int .u64 m, .int .i64 0, .bool true])) (hs : v.said = true) (hf : fits = true) (hm : m = v.num) (hb : Below w.heap.size w w') : RefPost v fits w e w' :=
  ⟨m, 0, true, he, fun _ => hs, fun _ _ => ⟨hm, rfl⟩, fun _ h => (by rw [hf] at h; cases h), hb⟩
set_option maxHeartbeats 4000000 in
theorem specAt_any (v : V) (hv : v.ok) (s : ByteArray) (text : Bool) (hl : s.size ≤ 2000) (w : World) :
    Calls Tryd.prog 20 #[.string s, .bool text, .agg #[.string v.K, .int .i64 v.N, .int .u64 v.U, .float .f64 v.F, .string v.S]] w (RefPost v (v.fits text s) w) := by
  have HV := Lib.hid hv
  have hk := flt_K v
  have hL : IntKind.u64.wrap (s.size : Int) = (s.size : Int) := IntWalk.u64_in _ ⟨by omega, by omega⟩
  have HL := Lib.hid hl
  clear hv hl
  go_enter Tryd.func20, Tryd.ntmps20
  have B0 : Below w.heap.size w (w.alloc (.cells #[.string v.K, .int .i64 v.N, .int .u64 v.U, .float .f64 v.F, .string v.S] 25)) := (Below.refl _ _).alloc (Nat.le_refl _) _
  have HB0 := Lib.hid B0
  clear B0
  go_wp2_with fail
  refine (sv_any v HV.out _).mono ?_
  rintro e w1 ⟨b1, rfl, hb1⟩
  have W1 := hb1
  clear hb1
  have ca := own_cells W1
  cases b1 with
  | false =>
    have HW := Lib.hid (HB0.out.trans (W1.mono HB0.out.size))
    clear W1
    go_wp2
    go_returns
    exact ref_un rfl HW.out
  | true =>
  go_wp2_with fail
  refine (vnul_any v HV.out _).mono ?_
  rintro e w2 ⟨rfl, hb2⟩
  have W2 := W1.trans (hb2.mono W1.size)
  have HW2 := Lib.hid (HB0.out.trans (W2.mono HB0.out.size))
  clear W1 hb2 ca
  have ca := own_cells W2
  cases hn : v.isNull with
  | true =>
    clear W2 hk
    go_wp2
    go_returns
    exact ref_un rfl HW2.out
  | false =>
  cases hf : v.isFlt with
  | true =>
    rw [hf] at hk
    clear W2
    go_wp2
    go_returns
    exact ref_un rfl HW2.out
  | false =>
  rw [hf] at hk
  have HS := Lib.hid (show v.said = true by rw [said_parts, hn, hf]; rfl)
  clear hn hf
  go_wp2_with fail
  refine (vplace_any v HV.out _).mono ?_
  rintro e w3 ⟨m, ok, rfl, hm, hb3⟩
  have HW3 := Lib.hid (HW2.out.trans (hb3.mono HW2.out.size))
  have HM := Lib.hid hm
  clear hm hb3 W2 ca hk
  cases hwh : v.whole with
  | false =>
    have HF := Lib.hid (show v.fits text s = false by unfold V.fits; rw [hwh]; rfl)
    clear hwh
    go_wp2
    go_returns
    exact ref_bad rfl HS.out HF.out HW3.out
  | true =>
  obtain ⟨hok, hmn⟩ := HM.out hwh
  by_cases h0 : 0 ≤ v.num
  · obtain rfl := hmn h0
    have hok' : ok = true := by rw [hok]; simpa using h0
    subst hok'
    cases text with
    | false =>
      have HF := Lib.hid (show v.fits false s = true by unfold V.fits; rw [hwh]; simpa using h0)
      clear hwh hmn h0 hok
      go_wp2
      go_returns
      exact ref_good rfl HS.out HF.out rfl HW3.out
    | true =>
      by_cases hb : (s.size : Int) ≤ v.num
      · have HF := Lib.hid (show v.fits true s = false by unfold V.fits; rw [hwh]; simp; omega)
        clear hwh hmn h0 hok
        go_wp2
        go_returns
        exact ref_bad rfl HS.out HF.out HW3.out
      · have HF := Lib.hid (show v.fits true s = true by unfold V.fits; rw [hwh]; simp; omega)
        clear hwh hmn h0 hok
        go_wp2
        go_returns
        exact ref_good rfl HS.out HF.out rfl HW3.out
  · have hok' : ok = false := by rw [hok]; simpa using h0
    subst hok'
    have HF := Lib.hid (show v.fits text s = false by unfold V.fits; rw [hwh]; simp; omega)
    clear hwh hmn h0 hok
    go_wp2
    go_returns
    exact ref_bad rfl HS.out HF.out HW3.out
end Go.Proofs.YtpkgngpmnapdoaaDoor
