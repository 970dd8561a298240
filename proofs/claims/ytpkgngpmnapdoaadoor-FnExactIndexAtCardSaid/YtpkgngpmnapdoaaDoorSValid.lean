/- spec.Valid of a value that is one. -/
import Derived.Deep.QuietTactic
import Derived.BigQuiet
import Derived.Test.YtpkgngpmnapdoaaDoorSKinds
namespace Go.Proofs.YtpkgngpmnapdoaaDoor
open Go.RowKit
set_option linter.unusedVariables false
set_option linter.unusedSimpArgs false
set_option maxRecDepth 100000
attribute [local go_sem] store_flt
set_option maxHeartbeats 1000000 in
theorem sv_null (w : World) : Calls Tryd.prog 40 #[.agg #[.string ⟨#[]⟩, .int .i64 0, .int .u64 0, .float .f64 0, .string ⟨#[]⟩]] w (SomeBool w) := by
  have hb := run_bits
  go_enter Tryd.func40, Tryd.ntmps40
  go_wp2_with fail
  go_quiet (fail)
  go_wp2_with (first | (go_at_call 58; refine (vsig_null _).mono ?_; rintro e w' ⟨rfl, rfl⟩) | (go_at_call 61; refine (vuns_null _).mono ?_; rintro e w' ⟨rfl, rfl⟩))
  go_ret
  exact ⟨_, rfl, (by repeat (first | exact Below.refl _ _ | refine below_drewN ?_ _ | refine Below.drew ?_ | refine Below.alloc ?_ (by simp) _ | refine Below.setCell ?_ (by simp) _))⟩
set_option maxHeartbeats 1000000 in
theorem sv_false (w : World) : Calls Tryd.prog 40 #[.agg #[.string ⟨#[98, 111, 111, 108]⟩, .int .i64 0, .int .u64 0, .float .f64 0, .string ⟨#[]⟩]] w (SomeBool w) := by
  have hb := run_bits
  go_enter Tryd.func40, Tryd.ntmps40
  go_wp2_with fail
  go_quiet (fail)
  go_wp2_with (first | (go_at_call 58; refine (vsig_bool _).mono ?_; rintro e w' ⟨rfl, rfl⟩) | (go_at_call 61; refine (vuns_bool _).mono ?_; rintro e w' ⟨rfl, rfl⟩))
  go_ret
  exact ⟨_, rfl, (by repeat (first | exact Below.refl _ _ | refine below_drewN ?_ _ | refine Below.drew ?_ | refine Below.alloc ?_ (by simp) _ | refine Below.setCell ?_ (by simp) _))⟩
set_option maxHeartbeats 1000000 in
theorem sv_true (w : World) : Calls Tryd.prog 40 #[.agg #[.string ⟨#[98, 111, 111, 108]⟩, .int .i64 1, .int .u64 0, .float .f64 0, .string ⟨#[]⟩]] w (SomeBool w) := by
  have hb := run_bits
  go_enter Tryd.func40, Tryd.ntmps40
  go_wp2_with fail
  go_quiet (fail)
  go_wp2_with (first | (go_at_call 58; refine (vsig_bool _).mono ?_; rintro e w' ⟨rfl, rfl⟩) | (go_at_call 61; refine (vuns_bool _).mono ?_; rintro e w' ⟨rfl, rfl⟩))
  go_ret
  exact ⟨_, rfl, (by repeat (first | exact Below.refl _ _ | refine below_drewN ?_ _ | refine Below.drew ?_ | refine Below.alloc ?_ (by simp) _ | refine Below.setCell ?_ (by simp) _))⟩
set_option maxHeartbeats 1000000 in
theorem sv_int8 (n : Int) (h1 : -128 ≤ n) (h2 : n ≤ 127) (w : World) : Calls Tryd.prog 40 #[.agg #[.string ⟨#[105, 110, 116, 56]⟩, .int .i64 n, .int .u64 0, .float .f64 0, .string ⟨#[]⟩]] w (SomeBool w) := by
  have hb := run_bits
  go_enter Tryd.func40, Tryd.ntmps40
  go_wp2_with fail
  go_quiet (fail)
  have B1 : Below (w.alloc (.cells #[.string ⟨#[105, 110, 116, 56]⟩, .int .i64 n, .int .u64 0, .float .f64 0, .string ⟨#[]⟩] 25)).heap.size (w.alloc (.cells #[.string ⟨#[105, 110, 116, 56]⟩, .int .i64 n, .int .u64 0, .float .f64 0, .string ⟨#[]⟩] 25)) ((w.alloc (.cells #[.string ⟨#[105, 110, 116, 56]⟩, .int .i64 n, .int .u64 0, .float .f64 0, .string ⟨#[]⟩] 25)).drewN nq) := below_drewN (Below.refl _ _) nq
  have HB1 := Lib.hid (((Below.refl w.heap.size w).alloc (Nat.le_refl _) (.cells #[.string ⟨#[105, 110, 116, 56]⟩, .int .i64 n, .int .u64 0, .float .f64 0, .string ⟨#[]⟩] 25)).trans (B1.mono (by simp)))
  have ca := own_cells B1
  clear B1
  generalize (w.alloc (.cells #[.string ⟨#[105, 110, 116, 56]⟩, .int .i64 n, .int .u64 0, .float .f64 0, .string ⟨#[]⟩] 25)).drewN nq = w1 at *
  go_wp2_with (first | (go_at_call 58; refine (vsig_int8 _).mono ?_; rintro e w' ⟨rfl, rfl⟩) | (go_at_call 61; refine (vuns_int8 _).mono ?_; rintro e w' ⟨rfl, rfl⟩))
  go_quiet ((first | (go_at_call 59; exact Calls.quiet_of_same (vlst_int8 _)) | (go_at_call 60; exact Calls.quiet_of_same (vgrt_int8 _))))
  go_wp2
  go_ret
  exact ⟨_, rfl, HB1.out.trans (below_drewN (Below.refl _ _) _)⟩
set_option maxHeartbeats 1000000 in
theorem sv_int16 (n : Int) (h1 : -32768 ≤ n) (h2 : n ≤ 32767) (w : World) : Calls Tryd.prog 40 #[.agg #[.string ⟨#[105, 110, 116, 49, 54]⟩, .int .i64 n, .int .u64 0, .float .f64 0, .string ⟨#[]⟩]] w (SomeBool w) := by
  have hb := run_bits
  go_enter Tryd.func40, Tryd.ntmps40
  go_wp2_with fail
  go_quiet (fail)
  have B1 : Below (w.alloc (.cells #[.string ⟨#[105, 110, 116, 49, 54]⟩, .int .i64 n, .int .u64 0, .float .f64 0, .string ⟨#[]⟩] 25)).heap.size (w.alloc (.cells #[.string ⟨#[105, 110, 116, 49, 54]⟩, .int .i64 n, .int .u64 0, .float .f64 0, .string ⟨#[]⟩] 25)) ((w.alloc (.cells #[.string ⟨#[105, 110, 116, 49, 54]⟩, .int .i64 n, .int .u64 0, .float .f64 0, .string ⟨#[]⟩] 25)).drewN nq) := below_drewN (Below.refl _ _) nq
  have HB1 := Lib.hid (((Below.refl w.heap.size w).alloc (Nat.le_refl _) (.cells #[.string ⟨#[105, 110, 116, 49, 54]⟩, .int .i64 n, .int .u64 0, .float .f64 0, .string ⟨#[]⟩] 25)).trans (B1.mono (by simp)))
  have ca := own_cells B1
  clear B1
  generalize (w.alloc (.cells #[.string ⟨#[105, 110, 116, 49, 54]⟩, .int .i64 n, .int .u64 0, .float .f64 0, .string ⟨#[]⟩] 25)).drewN nq = w1 at *
  go_wp2_with (first | (go_at_call 58; refine (vsig_int16 _).mono ?_; rintro e w' ⟨rfl, rfl⟩) | (go_at_call 61; refine (vuns_int16 _).mono ?_; rintro e w' ⟨rfl, rfl⟩))
  go_quiet ((first | (go_at_call 59; exact Calls.quiet_of_same (vlst_int16 _)) | (go_at_call 60; exact Calls.quiet_of_same (vgrt_int16 _))))
  go_wp2
  go_ret
  exact ⟨_, rfl, HB1.out.trans (below_drewN (Below.refl _ _) _)⟩
set_option maxHeartbeats 1000000 in
theorem sv_int32 (n : Int) (h1 : -2147483648 ≤ n) (h2 : n ≤ 2147483647) (w : World) : Calls Tryd.prog 40 #[.agg #[.string ⟨#[105, 110, 116, 51, 50]⟩, .int .i64 n, .int .u64 0, .float .f64 0, .string ⟨#[]⟩]] w (SomeBool w) := by
  have hb := run_bits
  go_enter Tryd.func40, Tryd.ntmps40
  go_wp2_with fail
  go_quiet (fail)
  have B1 : Below (w.alloc (.cells #[.string ⟨#[105, 110, 116, 51, 50]⟩, .int .i64 n, .int .u64 0, .float .f64 0, .string ⟨#[]⟩] 25)).heap.size (w.alloc (.cells #[.string ⟨#[105, 110, 116, 51, 50]⟩, .int .i64 n, .int .u64 0, .float .f64 0, .string ⟨#[]⟩] 25)) ((w.alloc (.cells #[.string ⟨#[105, 110, 116, 51, 50]⟩, .int .i64 n, .int .u64 0, .float .f64 0, .string ⟨#[]⟩] 25)).drewN nq) := below_drewN (Below.refl _ _) nq
  have HB1 := Lib.hid (((Below.refl w.heap.size w).alloc (Nat.le_refl _) (.cells #[.string ⟨#[105, 110, 116, 51, 50]⟩, .int .i64 n, .int .u64 0, .float .f64 0, .string ⟨#[]⟩] 25)).trans (B1.mono (by simp)))
  have ca := own_cells B1
  clear B1
  generalize (w.alloc (.cells #[.string ⟨#[105, 110, 116, 51, 50]⟩, .int .i64 n, .int .u64 0, .float .f64 0, .string ⟨#[]⟩] 25)).drewN nq = w1 at *
  go_wp2_with (first | (go_at_call 58; refine (vsig_int32 _).mono ?_; rintro e w' ⟨rfl, rfl⟩) | (go_at_call 61; refine (vuns_int32 _).mono ?_; rintro e w' ⟨rfl, rfl⟩))
  go_quiet ((first | (go_at_call 59; exact Calls.quiet_of_same (vlst_int32 _)) | (go_at_call 60; exact Calls.quiet_of_same (vgrt_int32 _))))
  go_wp2
  go_ret
  exact ⟨_, rfl, HB1.out.trans (below_drewN (Below.refl _ _) _)⟩
set_option maxHeartbeats 1000000 in
theorem sv_int64 (n : Int) (h1 : -9223372036854775808 ≤ n) (h2 : n ≤ 9223372036854775807) (w : World) : Calls Tryd.prog 40 #[.agg #[.string ⟨#[105, 110, 116, 54, 52]⟩, .int .i64 n, .int .u64 0, .float .f64 0, .string ⟨#[]⟩]] w (SomeBool w) := by
  have hb := run_bits
  go_enter Tryd.func40, Tryd.ntmps40
  go_wp2_with fail
  go_quiet (fail)
  have B1 : Below (w.alloc (.cells #[.string ⟨#[105, 110, 116, 54, 52]⟩, .int .i64 n, .int .u64 0, .float .f64 0, .string ⟨#[]⟩] 25)).heap.size (w.alloc (.cells #[.string ⟨#[105, 110, 116, 54, 52]⟩, .int .i64 n, .int .u64 0, .float .f64 0, .string ⟨#[]⟩] 25)) ((w.alloc (.cells #[.string ⟨#[105, 110, 116, 54, 52]⟩, .int .i64 n, .int .u64 0, .float .f64 0, .string ⟨#[]⟩] 25)).drewN nq) := below_drewN (Below.refl _ _) nq
  have HB1 := Lib.hid (((Below.refl w.heap.size w).alloc (Nat.le_refl _) (.cells #[.string ⟨#[105, 110, 116, 54, 52]⟩, .int .i64 n, .int .u64 0, .float .f64 0, .string ⟨#[]⟩] 25)).trans (B1.mono (by simp)))
  have ca := own_cells B1
  clear B1
  generalize (w.alloc (.cells #[.string ⟨#[105, 110, 116, 54, 52]⟩, .int .i64 n, .int .u64 0, .float .f64 0, .string ⟨#[]⟩] 25)).drewN nq = w1 at *
  go_wp2_with (first | (go_at_call 58; refine (vsig_int64 _).mono ?_; rintro e w' ⟨rfl, rfl⟩) | (go_at_call 61; refine (vuns_int64 _).mono ?_; rintro e w' ⟨rfl, rfl⟩))
  go_quiet ((first | (go_at_call 59; exact Calls.quiet_of_same (vlst_int64 _)) | (go_at_call 60; exact Calls.quiet_of_same (vgrt_int64 _))))
  go_wp2
  go_ret
  exact ⟨_, rfl, HB1.out.trans (below_drewN (Below.refl _ _) _)⟩
set_option maxHeartbeats 1000000 in
theorem sv_uint8 (n : Int) (h1 : 0 ≤ n) (h2 : n ≤ 255) (w : World) : Calls Tryd.prog 40 #[.agg #[.string ⟨#[117, 105, 110, 116, 56]⟩, .int .i64 0, .int .u64 n, .float .f64 0, .string ⟨#[]⟩]] w (SomeBool w) := by
  have hb := run_bits
  go_enter Tryd.func40, Tryd.ntmps40
  go_wp2_with fail
  go_quiet (fail)
  have B1 : Below (w.alloc (.cells #[.string ⟨#[117, 105, 110, 116, 56]⟩, .int .i64 0, .int .u64 n, .float .f64 0, .string ⟨#[]⟩] 25)).heap.size (w.alloc (.cells #[.string ⟨#[117, 105, 110, 116, 56]⟩, .int .i64 0, .int .u64 n, .float .f64 0, .string ⟨#[]⟩] 25)) ((w.alloc (.cells #[.string ⟨#[117, 105, 110, 116, 56]⟩, .int .i64 0, .int .u64 n, .float .f64 0, .string ⟨#[]⟩] 25)).drewN nq) := below_drewN (Below.refl _ _) nq
  have HB1 := Lib.hid (((Below.refl w.heap.size w).alloc (Nat.le_refl _) (.cells #[.string ⟨#[117, 105, 110, 116, 56]⟩, .int .i64 0, .int .u64 n, .float .f64 0, .string ⟨#[]⟩] 25)).trans (B1.mono (by simp)))
  have ca := own_cells B1
  clear B1
  generalize (w.alloc (.cells #[.string ⟨#[117, 105, 110, 116, 56]⟩, .int .i64 0, .int .u64 n, .float .f64 0, .string ⟨#[]⟩] 25)).drewN nq = w1 at *
  go_wp2_with (first | (go_at_call 58; refine (vsig_uint8 _).mono ?_; rintro e w' ⟨rfl, rfl⟩) | (go_at_call 61; refine (vuns_uint8 _).mono ?_; rintro e w' ⟨rfl, rfl⟩))
  go_quiet ((go_at_call 62; exact Calls.quiet_of_same (vmst_uint8 _)))
  go_wp2
  go_ret
  exact ⟨_, rfl, HB1.out.trans (below_drewN (Below.refl _ _) _)⟩
set_option maxHeartbeats 1000000 in
theorem sv_uint16 (n : Int) (h1 : 0 ≤ n) (h2 : n ≤ 65535) (w : World) : Calls Tryd.prog 40 #[.agg #[.string ⟨#[117, 105, 110, 116, 49, 54]⟩, .int .i64 0, .int .u64 n, .float .f64 0, .string ⟨#[]⟩]] w (SomeBool w) := by
  have hb := run_bits
  go_enter Tryd.func40, Tryd.ntmps40
  go_wp2_with fail
  go_quiet (fail)
  have B1 : Below (w.alloc (.cells #[.string ⟨#[117, 105, 110, 116, 49, 54]⟩, .int .i64 0, .int .u64 n, .float .f64 0, .string ⟨#[]⟩] 25)).heap.size (w.alloc (.cells #[.string ⟨#[117, 105, 110, 116, 49, 54]⟩, .int .i64 0, .int .u64 n, .float .f64 0, .string ⟨#[]⟩] 25)) ((w.alloc (.cells #[.string ⟨#[117, 105, 110, 116, 49, 54]⟩, .int .i64 0, .int .u64 n, .float .f64 0, .string ⟨#[]⟩] 25)).drewN nq) := below_drewN (Below.refl _ _) nq
  have HB1 := Lib.hid (((Below.refl w.heap.size w).alloc (Nat.le_refl _) (.cells #[.string ⟨#[117, 105, 110, 116, 49, 54]⟩, .int .i64 0, .int .u64 n, .float .f64 0, .string ⟨#[]⟩] 25)).trans (B1.mono (by simp)))
  have ca := own_cells B1
  clear B1
  generalize (w.alloc (.cells #[.string ⟨#[117, 105, 110, 116, 49, 54]⟩, .int .i64 0, .int .u64 n, .float .f64 0, .string ⟨#[]⟩] 25)).drewN nq = w1 at *
  go_wp2_with (first | (go_at_call 58; refine (vsig_uint16 _).mono ?_; rintro e w' ⟨rfl, rfl⟩) | (go_at_call 61; refine (vuns_uint16 _).mono ?_; rintro e w' ⟨rfl, rfl⟩))
  go_quiet ((go_at_call 62; exact Calls.quiet_of_same (vmst_uint16 _)))
  go_wp2
  go_ret
  exact ⟨_, rfl, HB1.out.trans (below_drewN (Below.refl _ _) _)⟩
set_option maxHeartbeats 1000000 in
theorem sv_uint32 (n : Int) (h1 : 0 ≤ n) (h2 : n ≤ 4294967295) (w : World) : Calls Tryd.prog 40 #[.agg #[.string ⟨#[117, 105, 110, 116, 51, 50]⟩, .int .i64 0, .int .u64 n, .float .f64 0, .string ⟨#[]⟩]] w (SomeBool w) := by
  have hb := run_bits
  go_enter Tryd.func40, Tryd.ntmps40
  go_wp2_with fail
  go_quiet (fail)
  have B1 : Below (w.alloc (.cells #[.string ⟨#[117, 105, 110, 116, 51, 50]⟩, .int .i64 0, .int .u64 n, .float .f64 0, .string ⟨#[]⟩] 25)).heap.size (w.alloc (.cells #[.string ⟨#[117, 105, 110, 116, 51, 50]⟩, .int .i64 0, .int .u64 n, .float .f64 0, .string ⟨#[]⟩] 25)) ((w.alloc (.cells #[.string ⟨#[117, 105, 110, 116, 51, 50]⟩, .int .i64 0, .int .u64 n, .float .f64 0, .string ⟨#[]⟩] 25)).drewN nq) := below_drewN (Below.refl _ _) nq
  have HB1 := Lib.hid (((Below.refl w.heap.size w).alloc (Nat.le_refl _) (.cells #[.string ⟨#[117, 105, 110, 116, 51, 50]⟩, .int .i64 0, .int .u64 n, .float .f64 0, .string ⟨#[]⟩] 25)).trans (B1.mono (by simp)))
  have ca := own_cells B1
  clear B1
  generalize (w.alloc (.cells #[.string ⟨#[117, 105, 110, 116, 51, 50]⟩, .int .i64 0, .int .u64 n, .float .f64 0, .string ⟨#[]⟩] 25)).drewN nq = w1 at *
  go_wp2_with (first | (go_at_call 58; refine (vsig_uint32 _).mono ?_; rintro e w' ⟨rfl, rfl⟩) | (go_at_call 61; refine (vuns_uint32 _).mono ?_; rintro e w' ⟨rfl, rfl⟩))
  go_quiet ((go_at_call 62; exact Calls.quiet_of_same (vmst_uint32 _)))
  go_wp2
  go_ret
  exact ⟨_, rfl, HB1.out.trans (below_drewN (Below.refl _ _) _)⟩
set_option maxHeartbeats 1000000 in
theorem sv_uint64 (n : Int) (h1 : 0 ≤ n) (h2 : n ≤ 18446744073709551615) (w : World) : Calls Tryd.prog 40 #[.agg #[.string ⟨#[117, 105, 110, 116, 54, 52]⟩, .int .i64 0, .int .u64 n, .float .f64 0, .string ⟨#[]⟩]] w (SomeBool w) := by
  have hb := run_bits
  go_enter Tryd.func40, Tryd.ntmps40
  go_wp2_with fail
  go_quiet (fail)
  have B1 : Below (w.alloc (.cells #[.string ⟨#[117, 105, 110, 116, 54, 52]⟩, .int .i64 0, .int .u64 n, .float .f64 0, .string ⟨#[]⟩] 25)).heap.size (w.alloc (.cells #[.string ⟨#[117, 105, 110, 116, 54, 52]⟩, .int .i64 0, .int .u64 n, .float .f64 0, .string ⟨#[]⟩] 25)) ((w.alloc (.cells #[.string ⟨#[117, 105, 110, 116, 54, 52]⟩, .int .i64 0, .int .u64 n, .float .f64 0, .string ⟨#[]⟩] 25)).drewN nq) := below_drewN (Below.refl _ _) nq
  have HB1 := Lib.hid (((Below.refl w.heap.size w).alloc (Nat.le_refl _) (.cells #[.string ⟨#[117, 105, 110, 116, 54, 52]⟩, .int .i64 0, .int .u64 n, .float .f64 0, .string ⟨#[]⟩] 25)).trans (B1.mono (by simp)))
  have ca := own_cells B1
  clear B1
  generalize (w.alloc (.cells #[.string ⟨#[117, 105, 110, 116, 54, 52]⟩, .int .i64 0, .int .u64 n, .float .f64 0, .string ⟨#[]⟩] 25)).drewN nq = w1 at *
  go_wp2_with (first | (go_at_call 58; refine (vsig_uint64 _).mono ?_; rintro e w' ⟨rfl, rfl⟩) | (go_at_call 61; refine (vuns_uint64 _).mono ?_; rintro e w' ⟨rfl, rfl⟩))
  go_quiet ((go_at_call 62; exact Calls.quiet_of_same (vmst_uint64 _)))
  go_wp2
  go_ret
  exact ⟨_, rfl, HB1.out.trans (below_drewN (Below.refl _ _) _)⟩
set_option maxHeartbeats 1000000 in
theorem sv_float64 (d : Nat) (w : World) : Calls Tryd.prog 40 #[.agg #[.string ⟨#[102, 108, 111, 97, 116, 54, 52]⟩, .int .i64 0, .int .u64 0, .float .f64 d, .string ⟨#[]⟩]] w (SomeBool w) := by
  have hb := run_bits
  go_enter Tryd.func40, Tryd.ntmps40
  go_wp2_with fail
  go_quiet (fail)
  go_wp2_with (first | (go_at_call 58; refine (vsig_float64 _).mono ?_; rintro e w' ⟨rfl, rfl⟩) | (go_at_call 61; refine (vuns_float64 _).mono ?_; rintro e w' ⟨rfl, rfl⟩))
  go_ret
  exact ⟨_, rfl, (by repeat (first | exact Below.refl _ _ | refine below_drewN ?_ _ | refine Below.drew ?_ | refine Below.alloc ?_ (by simp) _ | refine Below.setCell ?_ (by simp) _))⟩
set_option maxHeartbeats 1000000 in
theorem sv_idealFloat (d : Nat) (w : World) : Calls Tryd.prog 40 #[.agg #[.string ⟨#[105, 100, 101, 97, 108, 70, 108, 111, 97, 116]⟩, .int .i64 0, .int .u64 0, .float .f64 d, .string ⟨#[]⟩]] w (SomeBool w) := by
  have hb := run_bits
  go_enter Tryd.func40, Tryd.ntmps40
  go_wp2_with fail
  go_quiet (fail)
  go_wp2_with (first | (go_at_call 58; refine (vsig_idealFloat _).mono ?_; rintro e w' ⟨rfl, rfl⟩) | (go_at_call 61; refine (vuns_idealFloat _).mono ?_; rintro e w' ⟨rfl, rfl⟩))
  go_ret
  exact ⟨_, rfl, (by repeat (first | exact Below.refl _ _ | refine below_drewN ?_ _ | refine Below.drew ?_ | refine Below.alloc ?_ (by simp) _ | refine Below.setCell ?_ (by simp) _))⟩
set_option maxHeartbeats 1000000 in
theorem sv_string (s : ByteArray) (w : World) : Calls Tryd.prog 40 #[.agg #[.string ⟨#[115, 116, 114, 105, 110, 103]⟩, .int .i64 0, .int .u64 0, .float .f64 0, .string s]] w (SomeBool w) := by
  have hb := run_bits
  go_enter Tryd.func40, Tryd.ntmps40
  go_wp2_with fail
  go_quiet (fail)
  go_wp2_with (first | (go_at_call 58; refine (vsig_string _).mono ?_; rintro e w' ⟨rfl, rfl⟩) | (go_at_call 61; refine (vuns_string _).mono ?_; rintro e w' ⟨rfl, rfl⟩))
  go_ret
  exact ⟨_, rfl, (by repeat (first | exact Below.refl _ _ | refine below_drewN ?_ _ | refine Below.drew ?_ | refine Below.alloc ?_ (by simp) _ | refine Below.setCell ?_ (by simp) _))⟩
set_option maxHeartbeats 1000000 in
theorem sv_blob (s : ByteArray) (w : World) : Calls Tryd.prog 40 #[.agg #[.string ⟨#[98, 108, 111, 98]⟩, .int .i64 0, .int .u64 0, .float .f64 0, .string s]] w (SomeBool w) := by
  have hb := run_bits
  go_enter Tryd.func40, Tryd.ntmps40
  go_wp2_with fail
  go_quiet (fail)
  go_wp2_with (first | (go_at_call 58; refine (vsig_blob _).mono ?_; rintro e w' ⟨rfl, rfl⟩) | (go_at_call 61; refine (vuns_blob _).mono ?_; rintro e w' ⟨rfl, rfl⟩))
  go_ret
  exact ⟨_, rfl, (by repeat (first | exact Below.refl _ _ | refine below_drewN ?_ _ | refine Below.drew ?_ | refine Below.alloc ?_ (by simp) _ | refine Below.setCell ?_ (by simp) _))⟩
set_option maxHeartbeats 1000000 in
theorem sv_idealInt (n : Int) (w : World) : Calls Tryd.prog 40 #[.agg #[.string ⟨#[105, 100, 101, 97, 108, 73, 110, 116]⟩, .int .i64 n, .int .u64 0, .float .f64 0, .string ⟨#[]⟩]] w (SomeBool w) := by
  have hb := run_bits
  go_enter Tryd.func40, Tryd.ntmps40
  go_wp2_with fail
  go_quiet (fail)
  go_wp2_with (first | (go_at_call 58; refine (vsig_idealInt _).mono ?_; rintro e w' ⟨rfl, rfl⟩) | (go_at_call 61; refine (vuns_idealInt _).mono ?_; rintro e w' ⟨rfl, rfl⟩))
  go_ret
  exact ⟨_, rfl, (by repeat (first | exact Below.refl _ _ | refine below_drewN ?_ _ | refine Below.drew ?_ | refine Below.alloc ?_ (by simp) _ | refine Below.setCell ?_ (by simp) _))⟩
set_option maxHeartbeats 1000000 in
theorem sv_idealRune (n : Int) (w : World) : Calls Tryd.prog 40 #[.agg #[.string ⟨#[105, 100, 101, 97, 108, 82, 117, 110, 101]⟩, .int .i64 n, .int .u64 0, .float .f64 0, .string ⟨#[]⟩]] w (SomeBool w) := by
  have hb := run_bits
  go_enter Tryd.func40, Tryd.ntmps40
  go_wp2_with fail
  go_quiet (fail)
  go_wp2_with (first | (go_at_call 58; refine (vsig_idealRune _).mono ?_; rintro e w' ⟨rfl, rfl⟩) | (go_at_call 61; refine (vuns_idealRune _).mono ?_; rintro e w' ⟨rfl, rfl⟩))
  go_ret
  exact ⟨_, rfl, (by repeat (first | exact Below.refl _ _ | refine below_drewN ?_ _ | refine Below.drew ?_ | refine Below.alloc ?_ (by simp) _ | refine Below.setCell ?_ (by simp) _))⟩
set_option maxHeartbeats 1000000 in
theorem sv_idealUint (n : Int) (w : World) : Calls Tryd.prog 40 #[.agg #[.string ⟨#[105, 100, 101, 97, 108, 85, 105, 110, 116]⟩, .int .i64 0, .int .u64 n, .float .f64 0, .string ⟨#[]⟩]] w (SomeBool w) := by
  have hb := run_bits
  go_enter Tryd.func40, Tryd.ntmps40
  go_wp2_with fail
  go_quiet (fail)
  go_wp2_with (first | (go_at_call 58; refine (vsig_idealUint _).mono ?_; rintro e w' ⟨rfl, rfl⟩) | (go_at_call 61; refine (vuns_idealUint _).mono ?_; rintro e w' ⟨rfl, rfl⟩))
  go_ret
  exact ⟨_, rfl, (by repeat (first | exact Below.refl _ _ | refine below_drewN ?_ _ | refine Below.drew ?_ | refine Below.alloc ?_ (by simp) _ | refine Below.setCell ?_ (by simp) _))⟩
set_option maxHeartbeats 1000000 in
theorem sv_float32_nan (d : Nat) (hn : (FloatKind.f64.format.order d d != some Ordering.eq) = true) (w : World) : Calls Tryd.prog 40 #[.agg #[.string ⟨#[102, 108, 111, 97, 116, 51, 50]⟩, .int .i64 0, .int .u64 0, .float .f64 d, .string ⟨#[]⟩]] w (SomeBool w) := by
  have hb := run_bits
  go_enter Tryd.func40, Tryd.ntmps40
  go_wp2_with fail
  go_quiet (fail)
  go_wp2_with (first | (go_at_call 58; refine (vsig_float32 _).mono ?_; rintro e w' ⟨rfl, rfl⟩) | (go_at_call 61; refine (vuns_float32 _).mono ?_; rintro e w' ⟨rfl, rfl⟩))
  go_ret
  exact ⟨_, rfl, (by repeat (first | exact Below.refl _ _ | refine below_drewN ?_ _ | refine Below.drew ?_ | refine Below.alloc ?_ (by simp) _ | refine Below.setCell ?_ (by simp) _))⟩
set_option maxHeartbeats 1000000 in
theorem sv_float32_num (d r : Nat) (hn : (FloatKind.f64.format.order d d != some Ordering.eq) = false) (h1 : floatToFloatBits .f64 d .f32 = some r) (h2 : floatToFloatBits .f32 r .f64 = some d) (w : World) : Calls Tryd.prog 40 #[.agg #[.string ⟨#[102, 108, 111, 97, 116, 51, 50]⟩, .int .i64 0, .int .u64 0, .float .f64 d, .string ⟨#[]⟩]] w (SomeBool w) := by
  have hb := run_bits
  have hc1 := fun W => run_convert_float_float (P := Tryd.prog) W 23 68 .f64 .f32 d r rfl rfl h1
  have hc2 := fun W => run_convert_float_float (P := Tryd.prog) W 68 23 .f32 .f64 r d rfl rfl h2
  clear h1 h2
  go_enter Tryd.func40, Tryd.ntmps40
  go_wp2_with fail
  go_quiet (fail)
  go_wp2_with (first | (go_at_call 58; refine (vsig_float32 _).mono ?_; rintro e w' ⟨rfl, rfl⟩) | (go_at_call 61; refine (vuns_float32 _).mono ?_; rintro e w' ⟨rfl, rfl⟩))
  go_ret
  exact ⟨_, rfl, (by repeat (first | exact Below.refl _ _ | refine below_drewN ?_ _ | refine Below.drew ?_ | refine Below.alloc ?_ (by simp) _ | refine Below.setCell ?_ (by simp) _))⟩
theorem sv_any (v : V) (hv : v.ok) (w : World) : Calls Tryd.prog 40 #[.agg #[.string v.K, .int .i64 v.N, .int .u64 v.U, .float .f64 v.F, .string v.S]] w (SomeBool w) := by
  rcases v with _ | b | ⟨k, n⟩ | ⟨k, d⟩ | s | s | n | n | n | d
  · exact sv_null w
  · cases b
    · exact sv_false w
    · exact sv_true w
  · cases k
    · exact sv_int8 n hv.1 hv.2 w
    · exact sv_int16 n hv.1 hv.2 w
    · exact sv_int32 n hv.1 hv.2 w
    · exact sv_int64 n hv.1 hv.2 w
    · exact sv_uint8 n hv.1 hv.2 w
    · exact sv_uint16 n hv.1 hv.2 w
    · exact sv_uint32 n hv.1 hv.2 w
    · exact sv_uint64 n hv.1 hv.2 w
  · cases k
    · cases hn : nan64 d with
      | true => exact sv_float32_nan d hn w
      | false =>
        rcases hv with h | ⟨r, h1, h2⟩
        · rw [hn] at h; cases h
        · exact sv_float32_num d r hn h1 h2 w
    · exact sv_float64 d w
  · exact sv_string s w
  · exact sv_blob s w
  · exact sv_idealInt n w
  · exact sv_idealRune n w
  · exact sv_idealUint n w
  · exact sv_idealFloat d w
end Go.Proofs.YtpkgngpmnapdoaaDoor
