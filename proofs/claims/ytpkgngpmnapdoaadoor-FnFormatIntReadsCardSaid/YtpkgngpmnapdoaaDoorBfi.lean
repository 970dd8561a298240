/- builtinFormatInt: of every integer, in every base from 2 to 36. -/
import Derived.Test.YtpkgngpmnapdoaaDoorTa
import Derived.Test.YtpkgngpmnapdoaaDoorIn
import Derived.Test.YtpkgngpmnapdoaaDoorFmt
namespace Go.Proofs.YtpkgngpmnapdoaaDoor
open Go.RowKit
set_option linter.unusedVariables false
set_option linter.unusedSimpArgs false
set_option maxRecDepth 100000
attribute [local go_sem] store_flt
attribute [local go_sem] ta4 tn4 ta74 tn74 ta75 tn75 ta21 tn21 ta2 tn2 ta5 tn5 ta76 tn76 ta77 tn77 ta22 tn22 ta3 tn3 ta30 tn30 ta68 tn68 ta23 tn23 ta9 tn9 ta78 tn78 ta88 tn88 ta90 tn90 ta91 tn91 ta93 tn93 ta82 tn82

theorem co_any (a b : Int) (w : World) : Calls Tryd.prog 81 #[.iface 2 (.int .i64 a), .iface 2 (.int .i64 b)] w fun e w' => e = .returned (.iface 2 (.int .i64 a)) ∧ w' = w := by
  go_enter Tryd.func81, Tryd.ntmps81
  go_wp2
  go_returns
  exact ⟨rfl, rfl⟩
/-- The text of an integer in a base. -/
def txt (b : Nat) (n : Int) : ByteArray := ⟨(itoaB b n).toArray⟩
theorem txt_plain (b u : Nat) : txt b (u : Int) = ⟨(digs b u).toArray⟩ := by unfold txt itoaB; rw [if_neg (by omega)]; simp
def BfiPost (b : Nat) (n : Int) (w : World) (e : Ending) (w' : World) : Prop := e = .returned (.tuple #[.iface 9 (.string (txt b n)), .nilIface]) ∧ Below w.heap.size w w'
set_option maxHeartbeats 1000000 in
theorem bfi_int8 (b : Nat) (hb2 : 2 ≤ b) (hb36 : b ≤ 36) (n : Int) (h1 : -128 ≤ n) (h2 : n ≤ 127) (blk : Nat) (w : World) (hT : FmtW w) (c0 : w.cell? ⟨blk, 0, none⟩ = some (.iface 74 (.int .i8 n))) (c1 : w.cell? ⟨blk, 1, none⟩ = some (.iface 2 (.int .i64 (b : Int)))) :
    Calls Tryd.prog 67 #[.slice (some ⟨blk, 0, none⟩) 2 2, .map none] w (BfiPost b n w) := by
  have hw : IntKind.i64.wrap n = n := IntWalk.i64_in _ ⟨by omega, by omega⟩
  have H := Lib.hid (fi_pub b n hb2 hb36 (by omega) (by omega) w hT)
  have hwb : IntKind.i64.wrap (b : Int) = (b : Int) := IntWalk.i64_in _ ⟨by omega, by omega⟩
  clear hT h1 h2 hb2 hb36
  go_enter Tryd.func67, Tryd.ntmps67
  go_wp2_with (first | (go_at_call 81; (with_reducible refine (co_any _ _ _).mono ?_); rintro e w' ⟨rfl, rfl⟩) | (go_at_call 83; refine H.out.mono ?_; rintro e w' ⟨rfl, hb⟩))
  go_returns
  exact ⟨rfl, hb⟩
set_option maxHeartbeats 1000000 in
theorem bfi_int16 (b : Nat) (hb2 : 2 ≤ b) (hb36 : b ≤ 36) (n : Int) (h1 : -32768 ≤ n) (h2 : n ≤ 32767) (blk : Nat) (w : World) (hT : FmtW w) (c0 : w.cell? ⟨blk, 0, none⟩ = some (.iface 75 (.int .i16 n))) (c1 : w.cell? ⟨blk, 1, none⟩ = some (.iface 2 (.int .i64 (b : Int)))) :
    Calls Tryd.prog 67 #[.slice (some ⟨blk, 0, none⟩) 2 2, .map none] w (BfiPost b n w) := by
  have hw : IntKind.i64.wrap n = n := IntWalk.i64_in _ ⟨by omega, by omega⟩
  have H := Lib.hid (fi_pub b n hb2 hb36 (by omega) (by omega) w hT)
  have hwb : IntKind.i64.wrap (b : Int) = (b : Int) := IntWalk.i64_in _ ⟨by omega, by omega⟩
  clear hT h1 h2 hb2 hb36
  go_enter Tryd.func67, Tryd.ntmps67
  go_wp2_with (first | (go_at_call 81; (with_reducible refine (co_any _ _ _).mono ?_); rintro e w' ⟨rfl, rfl⟩) | (go_at_call 83; refine H.out.mono ?_; rintro e w' ⟨rfl, hb⟩))
  go_returns
  exact ⟨rfl, hb⟩
set_option maxHeartbeats 1000000 in
theorem bfi_int32 (b : Nat) (hb2 : 2 ≤ b) (hb36 : b ≤ 36) (n : Int) (h1 : -2147483648 ≤ n) (h2 : n ≤ 2147483647) (blk : Nat) (w : World) (hT : FmtW w) (c0 : w.cell? ⟨blk, 0, none⟩ = some (.iface 21 (.int .i32 n))) (c1 : w.cell? ⟨blk, 1, none⟩ = some (.iface 2 (.int .i64 (b : Int)))) :
    Calls Tryd.prog 67 #[.slice (some ⟨blk, 0, none⟩) 2 2, .map none] w (BfiPost b n w) := by
  have hw : IntKind.i64.wrap n = n := IntWalk.i64_in _ ⟨by omega, by omega⟩
  have H := Lib.hid (fi_pub b n hb2 hb36 (by omega) (by omega) w hT)
  have hwb : IntKind.i64.wrap (b : Int) = (b : Int) := IntWalk.i64_in _ ⟨by omega, by omega⟩
  clear hT h1 h2 hb2 hb36
  go_enter Tryd.func67, Tryd.ntmps67
  go_wp2_with (first | (go_at_call 81; (with_reducible refine (co_any _ _ _).mono ?_); rintro e w' ⟨rfl, rfl⟩) | (go_at_call 83; refine H.out.mono ?_; rintro e w' ⟨rfl, hb⟩))
  go_returns
  exact ⟨rfl, hb⟩
set_option maxHeartbeats 1000000 in
theorem bfi_int64 (b : Nat) (hb2 : 2 ≤ b) (hb36 : b ≤ 36) (n : Int) (h1 : -9223372036854775808 ≤ n) (h2 : n ≤ 9223372036854775807) (blk : Nat) (w : World) (hT : FmtW w) (c0 : w.cell? ⟨blk, 0, none⟩ = some (.iface 2 (.int .i64 n))) (c1 : w.cell? ⟨blk, 1, none⟩ = some (.iface 2 (.int .i64 (b : Int)))) :
    Calls Tryd.prog 67 #[.slice (some ⟨blk, 0, none⟩) 2 2, .map none] w (BfiPost b n w) := by
  have H := Lib.hid (fi_pub b n hb2 hb36 (by omega) (by omega) w hT)
  have hwb : IntKind.i64.wrap (b : Int) = (b : Int) := IntWalk.i64_in _ ⟨by omega, by omega⟩
  clear hT h1 h2 hb2 hb36
  go_enter Tryd.func67, Tryd.ntmps67
  go_wp2_with (first | (go_at_call 81; (with_reducible refine (co_any _ _ _).mono ?_); rintro e w' ⟨rfl, rfl⟩) | (go_at_call 83; refine H.out.mono ?_; rintro e w' ⟨rfl, hb⟩))
  go_returns
  exact ⟨rfl, hb⟩
set_option maxHeartbeats 1000000 in
theorem bfi_uint8 (b : Nat) (hb2 : 2 ≤ b) (hb36 : b ≤ 36) (n : Int) (h1 : 0 ≤ n) (h2 : n ≤ 255) (blk : Nat) (w : World) (hT : FmtW w) (c0 : w.cell? ⟨blk, 0, none⟩ = some (.iface 5 (.int .u8 n))) (c1 : w.cell? ⟨blk, 1, none⟩ = some (.iface 2 (.int .i64 (b : Int)))) :
    Calls Tryd.prog 67 #[.slice (some ⟨blk, 0, none⟩) 2 2, .map none] w (BfiPost b n w) := by
  obtain ⟨u, rfl⟩ := Int.eq_ofNat_of_zero_le h1
  have hw : IntKind.u64.wrap (u : Int) = (u : Int) := IntWalk.u64_in _ ⟨by omega, by omega⟩
  have H := Lib.hid (fu_pub b u hb2 hb36 (by omega) w hT)
  have hwb : IntKind.i64.wrap (b : Int) = (b : Int) := IntWalk.i64_in _ ⟨by omega, by omega⟩
  clear hT h1 h2 hb2 hb36
  go_enter Tryd.func67, Tryd.ntmps67
  go_wp2_with (first | (go_at_call 81; (with_reducible refine (co_any _ _ _).mono ?_); rintro e w' ⟨rfl, rfl⟩) | (go_at_call 82; refine H.out.mono ?_; rintro e w' ⟨rfl, hb⟩))
  go_returns
  exact ⟨by rw [txt_plain]; rfl, hb⟩
set_option maxHeartbeats 1000000 in
theorem bfi_uint16 (b : Nat) (hb2 : 2 ≤ b) (hb36 : b ≤ 36) (n : Int) (h1 : 0 ≤ n) (h2 : n ≤ 65535) (blk : Nat) (w : World) (hT : FmtW w) (c0 : w.cell? ⟨blk, 0, none⟩ = some (.iface 76 (.int .u16 n))) (c1 : w.cell? ⟨blk, 1, none⟩ = some (.iface 2 (.int .i64 (b : Int)))) :
    Calls Tryd.prog 67 #[.slice (some ⟨blk, 0, none⟩) 2 2, .map none] w (BfiPost b n w) := by
  obtain ⟨u, rfl⟩ := Int.eq_ofNat_of_zero_le h1
  have hw : IntKind.u64.wrap (u : Int) = (u : Int) := IntWalk.u64_in _ ⟨by omega, by omega⟩
  have H := Lib.hid (fu_pub b u hb2 hb36 (by omega) w hT)
  have hwb : IntKind.i64.wrap (b : Int) = (b : Int) := IntWalk.i64_in _ ⟨by omega, by omega⟩
  clear hT h1 h2 hb2 hb36
  go_enter Tryd.func67, Tryd.ntmps67
  go_wp2_with (first | (go_at_call 81; (with_reducible refine (co_any _ _ _).mono ?_); rintro e w' ⟨rfl, rfl⟩) | (go_at_call 82; refine H.out.mono ?_; rintro e w' ⟨rfl, hb⟩))
  go_returns
  exact ⟨by rw [txt_plain]; rfl, hb⟩
set_option maxHeartbeats 1000000 in
theorem bfi_uint32 (b : Nat) (hb2 : 2 ≤ b) (hb36 : b ≤ 36) (n : Int) (h1 : 0 ≤ n) (h2 : n ≤ 4294967295) (blk : Nat) (w : World) (hT : FmtW w) (c0 : w.cell? ⟨blk, 0, none⟩ = some (.iface 77 (.int .u32 n))) (c1 : w.cell? ⟨blk, 1, none⟩ = some (.iface 2 (.int .i64 (b : Int)))) :
    Calls Tryd.prog 67 #[.slice (some ⟨blk, 0, none⟩) 2 2, .map none] w (BfiPost b n w) := by
  obtain ⟨u, rfl⟩ := Int.eq_ofNat_of_zero_le h1
  have hw : IntKind.u64.wrap (u : Int) = (u : Int) := IntWalk.u64_in _ ⟨by omega, by omega⟩
  have H := Lib.hid (fu_pub b u hb2 hb36 (by omega) w hT)
  have hwb : IntKind.i64.wrap (b : Int) = (b : Int) := IntWalk.i64_in _ ⟨by omega, by omega⟩
  clear hT h1 h2 hb2 hb36
  go_enter Tryd.func67, Tryd.ntmps67
  go_wp2_with (first | (go_at_call 81; (with_reducible refine (co_any _ _ _).mono ?_); rintro e w' ⟨rfl, rfl⟩) | (go_at_call 82; refine H.out.mono ?_; rintro e w' ⟨rfl, hb⟩))
  go_returns
  exact ⟨by rw [txt_plain]; rfl, hb⟩
set_option maxHeartbeats 1000000 in
theorem bfi_uint64 (b : Nat) (hb2 : 2 ≤ b) (hb36 : b ≤ 36) (n : Int) (h1 : 0 ≤ n) (h2 : n ≤ 18446744073709551615) (blk : Nat) (w : World) (hT : FmtW w) (c0 : w.cell? ⟨blk, 0, none⟩ = some (.iface 22 (.int .u64 n))) (c1 : w.cell? ⟨blk, 1, none⟩ = some (.iface 2 (.int .i64 (b : Int)))) :
    Calls Tryd.prog 67 #[.slice (some ⟨blk, 0, none⟩) 2 2, .map none] w (BfiPost b n w) := by
  obtain ⟨u, rfl⟩ := Int.eq_ofNat_of_zero_le h1
  have H := Lib.hid (fu_pub b u hb2 hb36 (by omega) w hT)
  have hwb : IntKind.i64.wrap (b : Int) = (b : Int) := IntWalk.i64_in _ ⟨by omega, by omega⟩
  clear hT h1 h2 hb2 hb36
  go_enter Tryd.func67, Tryd.ntmps67
  go_wp2_with (first | (go_at_call 81; (with_reducible refine (co_any _ _ _).mono ?_); rintro e w' ⟨rfl, rfl⟩) | (go_at_call 82; refine H.out.mono ?_; rintro e w' ⟨rfl, hb⟩))
  go_returns
  exact ⟨by rw [txt_plain]; rfl, hb⟩
theorem bfi_any (b : Nat) (hb2 : 2 ≤ b) (hb36 : b ≤ 36) (k : IntKind) (n : Int) (hv : (V.int k n).ok) (x : Value) (w0 : World) (hx : (V.int k n).box w0 x) (blk : Nat) (w : World) (hT : FmtW w) (c0 : w.cell? ⟨blk, 0, none⟩ = some x) (c1 : w.cell? ⟨blk, 1, none⟩ = some (.iface 2 (.int .i64 (b : Int)))) :
    Calls Tryd.prog 67 #[.slice (some ⟨blk, 0, none⟩) 2 2, .map none] w (BfiPost b n w) := by
  cases k
  · obtain rfl := hx; exact bfi_int8 b hb2 hb36 n hv.1 hv.2 blk w hT c0 c1
  · obtain rfl := hx; exact bfi_int16 b hb2 hb36 n hv.1 hv.2 blk w hT c0 c1
  · obtain rfl := hx; exact bfi_int32 b hb2 hb36 n hv.1 hv.2 blk w hT c0 c1
  · obtain rfl := hx; exact bfi_int64 b hb2 hb36 n hv.1 hv.2 blk w hT c0 c1
  · obtain rfl := hx; exact bfi_uint8 b hb2 hb36 n hv.1 hv.2 blk w hT c0 c1
  · obtain rfl := hx; exact bfi_uint16 b hb2 hb36 n hv.1 hv.2 blk w hT c0 c1
  · obtain rfl := hx; exact bfi_uint32 b hb2 hb36 n hv.1 hv.2 blk w hT c0 c1
  · obtain rfl := hx; exact bfi_uint64 b hb2 hb36 n hv.1 hv.2 blk w hT c0 c1
theorem zfi_any (b : Nat) (hb2 : 2 ≤ b) (hb36 : b ≤ 36) (k : IntKind) (n : Int) (hv : (V.int k n).ok) (x : Value) (w0 : World) (hx : (V.int k n).box w0 x) (blk : Nat) (w : World) (hT : FmtW w) (c0 : w.cell? ⟨blk, 0, none⟩ = some x) (c1 : w.cell? ⟨blk, 1, none⟩ = some (.iface 2 (.int .i64 (b : Int)))) :
    Calls Tryd.prog 47 #[.slice (some ⟨blk, 0, none⟩) 2 2] w (BfiPost b n w) := by
  have H := Lib.hid (bfi_any b hb2 hb36 k n hv x w0 hx blk w hT c0 c1)
  clear hT c0 c1 hv hx
  go_enter Tryd.func47, Tryd.ntmps47
  go_wp2_with (go_at_call 67; refine H.out.mono ?_; rintro e w' ⟨rfl, hb⟩)
  go_returns
  exact ⟨rfl, hb⟩
end Go.Proofs.YtpkgngpmnapdoaaDoor
