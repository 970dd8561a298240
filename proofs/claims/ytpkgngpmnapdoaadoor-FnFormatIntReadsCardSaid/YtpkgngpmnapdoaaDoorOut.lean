/- The contract of impl.out: for every value that can be inside. -/
import Derived.Test.YtpkgngpmnapdoaaDoorTa
import Derived.Test.YtpkgngpmnapdoaaDoorIn
namespace Go.Proofs.YtpkgngpmnapdoaaDoor
open Go.RowKit
set_option linter.unusedVariables false
set_option linter.unusedSimpArgs false
set_option maxRecDepth 100000
attribute [local go_sem] store_flt
attribute [local go_sem] ta4 tn4 ta74 tn74 ta75 tn75 ta21 tn21 ta2 tn2 ta5 tn5 ta76 tn76 ta77 tn77 ta22 tn22 ta3 tn3 ta30 tn30 ta68 tn68 ta23 tn23 ta9 tn9 ta78 tn78 ta88 tn88 ta90 tn90 ta91 tn91 ta93 tn93 ta82 tn82

/-- The plain data of a value. -/
def OutPost (v : V) (w : World) (e : Ending) (w' : World) : Prop := e = .returned (.agg #[.string v.K, .int .i64 v.N, .int .u64 v.U, .float .f64 v.F, .string v.S]) ∧ Below w.heap.size w w'
theorem truth_true (w : World) : Calls Tryd.prog 70 #[.bool true] w (OutPost (.bool true) w) := by
  go_enter Tryd.func70, Tryd.ntmps70
  go_wp2
  go_returns
  exact ⟨rfl, (by repeat (first | exact Below.refl _ _ | refine below_drewN ?_ _ | refine Below.drew ?_ | refine Below.alloc ?_ (by simp) _))⟩
theorem truth_false (w : World) : Calls Tryd.prog 70 #[.bool false] w (OutPost (.bool false) w) := by
  go_enter Tryd.func70, Tryd.ntmps70
  go_wp2
  go_returns
  exact ⟨rfl, (by repeat (first | exact Below.refl _ _ | refine below_drewN ?_ _ | refine Below.drew ?_ | refine Below.alloc ?_ (by simp) _))⟩
set_option maxRecDepth 100000 in
set_option maxHeartbeats 1000000 in
theorem out_null (w : World) : Calls Tryd.prog 54 #[.nilIface] w (OutPost (.null) w) := by
  go_enter Tryd.func54, Tryd.ntmps54
  go_wp2
  go_returns
  exact ⟨rfl, (by repeat (first | exact Below.refl _ _ | refine below_drewN ?_ _ | refine Below.drew ?_ | refine Below.alloc ?_ (by simp) _))⟩
set_option maxRecDepth 100000 in
set_option maxHeartbeats 1000000 in
theorem out_true (w : World) : Calls Tryd.prog 54 #[.iface 4 (.bool true)] w (OutPost (.bool true) w) := by
  go_enter Tryd.func54, Tryd.ntmps54
  go_wp2_with (go_at_call 70; refine (truth_true _).mono ?_; rintro e w1 ⟨rfl, hb⟩; obtain ⟨hc, hf⟩ := bcell hb; have hz := hb.size)
  exact bodyPost_ret (v := .agg #[.string (V.bool true).K, .int .i64 (V.bool true).N, .int .u64 (V.bool true).U, .float .f64 (V.bool true).F, .string (V.bool true).S]) (by simp [results, Tryd.results54, go_sem, hc, hz]) rfl
    ⟨rfl, (((((((Below.refl _ _).alloc (Nat.le_refl _) _).trans (hb.mono (by simp))).setCell (by simp) _).setCell (by simp) _).setCell (by simp) _).setCell (by simp) _).setCell (by simp) _⟩
set_option maxRecDepth 100000 in
set_option maxHeartbeats 1000000 in
theorem out_false (w : World) : Calls Tryd.prog 54 #[.iface 4 (.bool false)] w (OutPost (.bool false) w) := by
  go_enter Tryd.func54, Tryd.ntmps54
  go_wp2_with (go_at_call 70; refine (truth_false _).mono ?_; rintro e w1 ⟨rfl, hb⟩; obtain ⟨hc, hf⟩ := bcell hb; have hz := hb.size)
  exact bodyPost_ret (v := .agg #[.string (V.bool false).K, .int .i64 (V.bool false).N, .int .u64 (V.bool false).U, .float .f64 (V.bool false).F, .string (V.bool false).S]) (by simp [results, Tryd.results54, go_sem, hc, hz]) rfl
    ⟨rfl, (((((((Below.refl _ _).alloc (Nat.le_refl _) _).trans (hb.mono (by simp))).setCell (by simp) _).setCell (by simp) _).setCell (by simp) _).setCell (by simp) _).setCell (by simp) _⟩
set_option maxRecDepth 100000 in
set_option maxHeartbeats 1000000 in
theorem out_int8 (n : Int) (h1 : -128 ≤ n) (h2 : n ≤ 127) (w : World) : Calls Tryd.prog 54 #[.iface 74 (.int .i8 n)] w (OutPost (.int .i8 n) w) := by
  have hw : IntKind.i64.wrap n = n := IntWalk.i64_in _ ⟨by omega, by omega⟩
  go_enter Tryd.func54, Tryd.ntmps54
  go_wp2
  go_returns
  exact ⟨rfl, (by repeat (first | exact Below.refl _ _ | refine below_drewN ?_ _ | refine Below.drew ?_ | refine Below.alloc ?_ (by simp) _))⟩
set_option maxRecDepth 100000 in
set_option maxHeartbeats 1000000 in
theorem out_int16 (n : Int) (h1 : -32768 ≤ n) (h2 : n ≤ 32767) (w : World) : Calls Tryd.prog 54 #[.iface 75 (.int .i16 n)] w (OutPost (.int .i16 n) w) := by
  have hw : IntKind.i64.wrap n = n := IntWalk.i64_in _ ⟨by omega, by omega⟩
  go_enter Tryd.func54, Tryd.ntmps54
  go_wp2
  go_returns
  exact ⟨rfl, (by repeat (first | exact Below.refl _ _ | refine below_drewN ?_ _ | refine Below.drew ?_ | refine Below.alloc ?_ (by simp) _))⟩
set_option maxRecDepth 100000 in
set_option maxHeartbeats 1000000 in
theorem out_int32 (n : Int) (h1 : -2147483648 ≤ n) (h2 : n ≤ 2147483647) (w : World) : Calls Tryd.prog 54 #[.iface 21 (.int .i32 n)] w (OutPost (.int .i32 n) w) := by
  have hw : IntKind.i64.wrap n = n := IntWalk.i64_in _ ⟨by omega, by omega⟩
  go_enter Tryd.func54, Tryd.ntmps54
  go_wp2
  go_returns
  exact ⟨rfl, (by repeat (first | exact Below.refl _ _ | refine below_drewN ?_ _ | refine Below.drew ?_ | refine Below.alloc ?_ (by simp) _))⟩
set_option maxRecDepth 100000 in
set_option maxHeartbeats 1000000 in
theorem out_int64 (n : Int) (h1 : -9223372036854775808 ≤ n) (h2 : n ≤ 9223372036854775807) (w : World) : Calls Tryd.prog 54 #[.iface 2 (.int .i64 n)] w (OutPost (.int .i64 n) w) := by
  go_enter Tryd.func54, Tryd.ntmps54
  go_wp2
  go_returns
  exact ⟨rfl, (by repeat (first | exact Below.refl _ _ | refine below_drewN ?_ _ | refine Below.drew ?_ | refine Below.alloc ?_ (by simp) _))⟩
set_option maxRecDepth 100000 in
set_option maxHeartbeats 1000000 in
theorem out_uint8 (n : Int) (h1 : 0 ≤ n) (h2 : n ≤ 255) (w : World) : Calls Tryd.prog 54 #[.iface 5 (.int .u8 n)] w (OutPost (.int .u8 n) w) := by
  have hw : IntKind.u64.wrap n = n := IntWalk.u64_in _ ⟨by omega, by omega⟩
  go_enter Tryd.func54, Tryd.ntmps54
  go_wp2
  go_returns
  exact ⟨rfl, (by repeat (first | exact Below.refl _ _ | refine below_drewN ?_ _ | refine Below.drew ?_ | refine Below.alloc ?_ (by simp) _))⟩
set_option maxRecDepth 100000 in
set_option maxHeartbeats 1000000 in
theorem out_uint16 (n : Int) (h1 : 0 ≤ n) (h2 : n ≤ 65535) (w : World) : Calls Tryd.prog 54 #[.iface 76 (.int .u16 n)] w (OutPost (.int .u16 n) w) := by
  have hw : IntKind.u64.wrap n = n := IntWalk.u64_in _ ⟨by omega, by omega⟩
  go_enter Tryd.func54, Tryd.ntmps54
  go_wp2
  go_returns
  exact ⟨rfl, (by repeat (first | exact Below.refl _ _ | refine below_drewN ?_ _ | refine Below.drew ?_ | refine Below.alloc ?_ (by simp) _))⟩
set_option maxRecDepth 100000 in
set_option maxHeartbeats 1000000 in
theorem out_uint32 (n : Int) (h1 : 0 ≤ n) (h2 : n ≤ 4294967295) (w : World) : Calls Tryd.prog 54 #[.iface 77 (.int .u32 n)] w (OutPost (.int .u32 n) w) := by
  have hw : IntKind.u64.wrap n = n := IntWalk.u64_in _ ⟨by omega, by omega⟩
  go_enter Tryd.func54, Tryd.ntmps54
  go_wp2
  go_returns
  exact ⟨rfl, (by repeat (first | exact Below.refl _ _ | refine below_drewN ?_ _ | refine Below.drew ?_ | refine Below.alloc ?_ (by simp) _))⟩
set_option maxRecDepth 100000 in
set_option maxHeartbeats 1000000 in
theorem out_uint64 (n : Int) (h1 : 0 ≤ n) (h2 : n ≤ 18446744073709551615) (w : World) : Calls Tryd.prog 54 #[.iface 22 (.int .u64 n)] w (OutPost (.int .u64 n) w) := by
  go_enter Tryd.func54, Tryd.ntmps54
  go_wp2
  go_returns
  exact ⟨rfl, (by repeat (first | exact Below.refl _ _ | refine below_drewN ?_ _ | refine Below.drew ?_ | refine Below.alloc ?_ (by simp) _))⟩
set_option maxRecDepth 100000 in
set_option maxHeartbeats 1000000 in
theorem out_float64 (d : Nat) (w : World) : Calls Tryd.prog 54 #[.iface 23 (.float .f64 d)] w (OutPost (.flt .f64 d) w) := by
  go_enter Tryd.func54, Tryd.ntmps54
  go_wp2
  go_returns
  exact ⟨rfl, (by repeat (first | exact Below.refl _ _ | refine below_drewN ?_ _ | refine Below.drew ?_ | refine Below.alloc ?_ (by simp) _))⟩
set_option maxRecDepth 100000 in
set_option maxHeartbeats 1000000 in
theorem out_string (s : ByteArray) (w : World) : Calls Tryd.prog 54 #[.iface 9 (.string s)] w (OutPost (.str s) w) := by
  go_enter Tryd.func54, Tryd.ntmps54
  go_wp2
  go_returns
  exact ⟨rfl, (by repeat (first | exact Below.refl _ _ | refine below_drewN ?_ _ | refine Below.drew ?_ | refine Below.alloc ?_ (by simp) _))⟩
set_option maxRecDepth 100000 in
set_option maxHeartbeats 1000000 in
theorem out_idealInt (n : Int) (w : World) : Calls Tryd.prog 54 #[.iface 88 (.int .i64 n)] w (OutPost (.iInt n) w) := by
  go_enter Tryd.func54, Tryd.ntmps54
  go_wp2
  go_returns
  exact ⟨rfl, (by repeat (first | exact Below.refl _ _ | refine below_drewN ?_ _ | refine Below.drew ?_ | refine Below.alloc ?_ (by simp) _))⟩
set_option maxRecDepth 100000 in
set_option maxHeartbeats 1000000 in
theorem out_idealRune (n : Int) (h1 : -2147483648 ≤ n) (h2 : n ≤ 2147483647) (w : World) : Calls Tryd.prog 54 #[.iface 90 (.int .i32 n)] w (OutPost (.iRune n) w) := by
  have hw : IntKind.i64.wrap n = n := IntWalk.i64_in _ ⟨by omega, by omega⟩
  go_enter Tryd.func54, Tryd.ntmps54
  go_wp2
  go_returns
  exact ⟨rfl, (by repeat (first | exact Below.refl _ _ | refine below_drewN ?_ _ | refine Below.drew ?_ | refine Below.alloc ?_ (by simp) _))⟩
set_option maxRecDepth 100000 in
set_option maxHeartbeats 1000000 in
theorem out_idealUint (n : Int) (w : World) : Calls Tryd.prog 54 #[.iface 91 (.int .u64 n)] w (OutPost (.iUint n) w) := by
  go_enter Tryd.func54, Tryd.ntmps54
  go_wp2
  go_returns
  exact ⟨rfl, (by repeat (first | exact Below.refl _ _ | refine below_drewN ?_ _ | refine Below.drew ?_ | refine Below.alloc ?_ (by simp) _))⟩
set_option maxRecDepth 100000 in
set_option maxHeartbeats 1000000 in
theorem out_idealFloat (d : Nat) (w : World) : Calls Tryd.prog 54 #[.iface 93 (.float .f64 d)] w (OutPost (.iFlt d) w) := by
  go_enter Tryd.func54, Tryd.ntmps54
  go_wp2
  go_returns
  exact ⟨rfl, (by repeat (first | exact Below.refl _ _ | refine below_drewN ?_ _ | refine Below.drew ?_ | refine Below.alloc ?_ (by simp) _))⟩
set_option maxRecDepth 100000 in
set_option maxHeartbeats 1000000 in
theorem out_float32_num (d r : Nat) (h1 : floatToFloatBits .f32 r .f64 = some d) (w : World) : Calls Tryd.prog 54 #[.iface 68 (.float .f32 r)] w (OutPost (.flt .f32 d) w) := by
  have hc := fun W => run_convert_float_float (P := Tryd.prog) W 68 23 .f32 .f64 r d rfl rfl h1
  clear h1
  go_enter Tryd.func54, Tryd.ntmps54
  go_wp2
  go_returns
  exact ⟨rfl, (by repeat (first | exact Below.refl _ _ | refine below_drewN ?_ _ | refine Below.drew ?_ | refine Below.alloc ?_ (by simp) _))⟩
set_option maxRecDepth 100000 in
set_option maxHeartbeats 1000000 in
theorem out_float32_nan (d r : Nat) (h : nanK .f32 r = true) (w : World) : Calls Tryd.prog 54 #[.iface 68 (.float .f32 r)] w (OutPost (.flt .f32 (nanOf .f64 r (w.alloc (.cells #[.string ⟨#[]⟩, .int .i64 0, .int .u64 0, .float .f64 0, .string ⟨#[]⟩] 25)))) w) := by
  have hc := run_conv_nan (P := Tryd.prog) 68 23 .f32 .f64 r rfl rfl (by decide) h
  go_enter Tryd.func54, Tryd.ntmps54
  go_wp2
  go_returns
  exact ⟨rfl, (by repeat (first | exact Below.refl _ _ | refine below_drewN ?_ _ | refine Below.drew ?_ | refine Below.alloc ?_ (by simp) _))⟩
set_option maxRecDepth 100000 in
set_option maxHeartbeats 1000000 in
theorem out_blob (s : ByteArray) (b c : Nat) (w : World) (hlt : b < w.heap.size) (hcell : ∀ j (h : j < s.data.toList.length), w.cell? ⟨b, j, none⟩ = some (.int .u8 (s.data.toList[j].toNat : Int))) : Calls Tryd.prog 54 #[.iface 78 (.slice (some ⟨b, 0, none⟩) s.size c)] w (OutPost (.blob s) w) := by
  have hl : s.data.toList.length = s.size := by rw [Array.length_toList]; rfl
  have hc := run_convert_bytes_back (P := Tryd.prog) (w.alloc (.cells #[.string ⟨#[]⟩, .int .i64 0, .int .u64 0, .float .f64 0, .string ⟨#[]⟩] 25)) 78 9 5 ⟨b, 0, none⟩ c s.data.toList rfl rfl rfl (fun j hj => by
    have hb : Below w.heap.size w (w.alloc (.cells #[.string ⟨#[]⟩, .int .i64 0, .int .u64 0, .float .f64 0, .string ⟨#[]⟩] 25)) := (Below.refl _ _).alloc (Nat.le_refl _) _
    have := hb.cell (p := ⟨b, j, none⟩) hlt
    rw [show (Addr.add ⟨b, 0, none⟩ j) = ⟨b, j, none⟩ from by simp [Addr.add]; omega, this]
    exact hcell j hj)
  rw [hl] at hc
  clear hcell hl
  go_enter Tryd.func54, Tryd.ntmps54
  go_wp2
  go_returns
  exact ⟨rfl, (by repeat (first | exact Below.refl _ _ | refine below_drewN ?_ _ | refine Below.drew ?_ | refine Below.alloc ?_ (by simp) _))⟩
end Go.Proofs.YtpkgngpmnapdoaaDoor
