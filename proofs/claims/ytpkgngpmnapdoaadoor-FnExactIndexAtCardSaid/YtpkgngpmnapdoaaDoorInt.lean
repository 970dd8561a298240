/- intExpr and what it calls: for every integer of a type. -/
import Derived.Test.YtpkgngpmnapdoaaDoorConc
import Derived.Test.YtpkgngpmnapdoaaDoorLaid
import Derived.Test.YtpkgngpmnapdoaaDoorErr
namespace Go.Proofs.YtpkgngpmnapdoaaDoor
open Go.RowKit
set_option linter.unusedVariables false
set_option linter.unusedSimpArgs false
set_option maxRecDepth 100000
attribute [local go_sem] store_flt
attribute [local go_sem] ta4 tn4 ta74 tn74 ta75 tn75 ta21 tn21 ta2 tn2 ta5 tn5 ta76 tn76 ta77 tn77 ta22 tn22 ta3 tn3 ta30 tn30 ta68 tn68 ta23 tn23 ta9 tn9 ta78 tn78 ta88 tn88 ta90 tn90 ta91 tn91 ta93 tn93 ta82 tn82

def NewPost (w : World) (e : Ending) (w' : World) : Prop := ∃ x, e = .returned x ∧ IsErr w' x ∧ Below w.heap.size w w'
theorem new_post {w w' : World} {e : Ending} {x : Value} (he : e = .returned x) (hx : IsErr w' x) (hb : Below w.heap.size w w') : NewPost w e w' := ⟨x, he, hx, hb⟩
theorem new_any (s : ByteArray) (w : World) : Calls Tryd.prog 69 #[.string s] w (NewPost w) := by
  go_enter Tryd.func69, Tryd.ntmps69
  go_wp2
  go_returns
  exact new_post rfl (IsErr.new rfl) (by repeat (first | exact Below.refl _ _ | refine below_drewN ?_ _ | refine Below.drew ?_ | refine Below.alloc ?_ (by simp) _ | refine Below.setCell ?_ (by simp) _))
theorem neg_any (x : Value) (w : World) : Calls Tryd.prog 68 #[x] w (NewPost w) := by
  go_enter Tryd.func68, Tryd.ntmps68
  go_wp2_with fail
  refine (new_any _ _).mono ?_
  rintro e w1 ⟨x, rfl, hx, hb⟩
  go_wp2
  go_ret
  exact new_post rfl hx hb

/-- What intExpr answers of an integer. -/
def IntPost (n : Int) (w : World) (e : Ending) (w' : World) : Prop :=
  ((0 ≤ n ∧ e = .returned (.tuple #[.int .i64 n, .nilIface])) ∨ (n < 0 ∧ ∃ x, e = .returned (.tuple #[.int .i64 0, x]) ∧ IsErr w' x)) ∧ Below w.heap.size w w'
theorem int_nat {n : Int} {w w' : World} {e : Ending} (h : 0 ≤ n) (he : e = .returned (.tuple #[.int .i64 n, .nilIface])) (hb : Below w.heap.size w w') : IntPost n w e w' := ⟨.inl ⟨h, he⟩, hb⟩
theorem int_neg {n : Int} {w w' : World} {e : Ending} {x : Value} (h : n < 0) (he : e = .returned (.tuple #[.int .i64 0, x])) (hx : IsErr w' x) (hb : Below w.heap.size w w') : IntPost n w e w' := ⟨.inr ⟨h, x, he, hx⟩, hb⟩
set_option maxRecDepth 100000 in
set_option maxHeartbeats 1000000 in
theorem int_int8 (n : Int) (h1 : -128 ≤ n) (h2 : n ≤ 127) (w : World) : Calls Tryd.prog 48 #[.iface 74 (.int .i8 n)] w (IntPost n w) := by
  have hw : IntKind.i64.wrap n = n := IntWalk.i64_in _ ⟨by omega, by omega⟩
  have H1 := Lib.hid h1
  have H2 := Lib.hid h2
  clear h1 h2
  by_cases hn : n < 0
  · go_enter Tryd.func48, Tryd.ntmps48
    go_wp2_with (go_at_call 68; refine (neg_any _ _).mono ?_; rintro e w1 ⟨x, rfl, hx, hb⟩)
    go_returns
    exact int_neg hn rfl hx hb
  · go_enter Tryd.func48, Tryd.ntmps48
    go_wp2
    go_returns
    exact int_nat (by omega) rfl (Below.refl _ _)
set_option maxRecDepth 100000 in
set_option maxHeartbeats 1000000 in
theorem int_int16 (n : Int) (h1 : -32768 ≤ n) (h2 : n ≤ 32767) (w : World) : Calls Tryd.prog 48 #[.iface 75 (.int .i16 n)] w (IntPost n w) := by
  have hw : IntKind.i64.wrap n = n := IntWalk.i64_in _ ⟨by omega, by omega⟩
  have H1 := Lib.hid h1
  have H2 := Lib.hid h2
  clear h1 h2
  by_cases hn : n < 0
  · go_enter Tryd.func48, Tryd.ntmps48
    go_wp2_with (go_at_call 68; refine (neg_any _ _).mono ?_; rintro e w1 ⟨x, rfl, hx, hb⟩)
    go_returns
    exact int_neg hn rfl hx hb
  · go_enter Tryd.func48, Tryd.ntmps48
    go_wp2
    go_returns
    exact int_nat (by omega) rfl (Below.refl _ _)
set_option maxRecDepth 100000 in
set_option maxHeartbeats 1000000 in
theorem int_int32 (n : Int) (h1 : -2147483648 ≤ n) (h2 : n ≤ 2147483647) (w : World) : Calls Tryd.prog 48 #[.iface 21 (.int .i32 n)] w (IntPost n w) := by
  have hw : IntKind.i64.wrap n = n := IntWalk.i64_in _ ⟨by omega, by omega⟩
  have H1 := Lib.hid h1
  have H2 := Lib.hid h2
  clear h1 h2
  by_cases hn : n < 0
  · go_enter Tryd.func48, Tryd.ntmps48
    go_wp2_with (go_at_call 68; refine (neg_any _ _).mono ?_; rintro e w1 ⟨x, rfl, hx, hb⟩)
    go_returns
    exact int_neg hn rfl hx hb
  · go_enter Tryd.func48, Tryd.ntmps48
    go_wp2
    go_returns
    exact int_nat (by omega) rfl (Below.refl _ _)
set_option maxRecDepth 100000 in
set_option maxHeartbeats 1000000 in
theorem int_int64 (n : Int) (h1 : -9223372036854775808 ≤ n) (h2 : n ≤ 9223372036854775807) (w : World) : Calls Tryd.prog 48 #[.iface 2 (.int .i64 n)] w (IntPost n w) := by
  have H1 := Lib.hid h1
  have H2 := Lib.hid h2
  clear h1 h2
  by_cases hn : n < 0
  · go_enter Tryd.func48, Tryd.ntmps48
    go_wp2_with (go_at_call 68; refine (neg_any _ _).mono ?_; rintro e w1 ⟨x, rfl, hx, hb⟩)
    go_returns
    exact int_neg hn rfl hx hb
  · go_enter Tryd.func48, Tryd.ntmps48
    go_wp2
    go_returns
    exact int_nat (by omega) rfl (Below.refl _ _)
set_option maxRecDepth 100000 in
set_option maxHeartbeats 1000000 in
theorem int_uint8 (n : Int) (h1 : 0 ≤ n) (h2 : n ≤ 255) (w : World) : Calls Tryd.prog 48 #[.iface 5 (.int .u8 n)] w (IntPost n w) := by
  have hw : IntKind.i64.wrap n = n := IntWalk.i64_in _ ⟨by omega, by omega⟩
  go_enter Tryd.func48, Tryd.ntmps48
  go_wp2
  go_returns
  exact int_nat h1 rfl (Below.refl _ _)
set_option maxRecDepth 100000 in
set_option maxHeartbeats 1000000 in
theorem int_uint16 (n : Int) (h1 : 0 ≤ n) (h2 : n ≤ 65535) (w : World) : Calls Tryd.prog 48 #[.iface 76 (.int .u16 n)] w (IntPost n w) := by
  have hw : IntKind.i64.wrap n = n := IntWalk.i64_in _ ⟨by omega, by omega⟩
  go_enter Tryd.func48, Tryd.ntmps48
  go_wp2
  go_returns
  exact int_nat h1 rfl (Below.refl _ _)
set_option maxRecDepth 100000 in
set_option maxHeartbeats 1000000 in
theorem int_uint32 (n : Int) (h1 : 0 ≤ n) (h2 : n ≤ 4294967295) (w : World) : Calls Tryd.prog 48 #[.iface 77 (.int .u32 n)] w (IntPost n w) := by
  have hw : IntKind.i64.wrap n = n := IntWalk.i64_in _ ⟨by omega, by omega⟩
  go_enter Tryd.func48, Tryd.ntmps48
  go_wp2
  go_returns
  exact int_nat h1 rfl (Below.refl _ _)
set_option maxRecDepth 100000 in
set_option maxHeartbeats 1000000 in
theorem int_uint64 (n : Int) (h1 : 0 ≤ n) (h2 : n ≤ 9223372036854775807) (w : World) : Calls Tryd.prog 48 #[.iface 22 (.int .u64 n)] w (IntPost n w) := by
  have hw : IntKind.i64.wrap n = n := IntWalk.i64_in _ ⟨by omega, by omega⟩
  go_enter Tryd.func48, Tryd.ntmps48
  go_wp2
  go_returns
  exact int_nat h1 rfl (Below.refl _ _)
theorem int_any (k : IntKind) (n : Int) (hv : (V.int k n).ok) (hm : n ≤ 9223372036854775807) (x : Value) (w : World) (hx : (V.int k n).box w x) : Calls Tryd.prog 48 #[x] w (IntPost n w) := by
  cases k
  · obtain rfl := hx; exact int_int8 n hv.1 hv.2 w
  · obtain rfl := hx; exact int_int16 n hv.1 hv.2 w
  · obtain rfl := hx; exact int_int32 n hv.1 hv.2 w
  · obtain rfl := hx; exact int_int64 n hv.1 hv.2 w
  · obtain rfl := hx; exact int_uint8 n hv.1 hv.2 w
  · obtain rfl := hx; exact int_uint16 n hv.1 hv.2 w
  · obtain rfl := hx; exact int_uint32 n hv.1 hv.2 w
  · obtain rfl := hx; exact int_uint64 n hv.1 hm w
theorem zzint_any (k : IntKind) (n : Int) (hv : (V.int k n).ok) (hm : n ≤ 9223372036854775807) (x : Value) (w : World) (hx : (V.int k n).box w x) : Calls Tryd.prog 28 #[x] w (IntPost n w) := by
  have H := Lib.hid (int_any k n hv hm x w hx)
  clear hx hv hm
  go_enter Tryd.func28, Tryd.ntmps28
  go_wp2_with fail
  refine H.out.mono ?_
  rintro e w1 ⟨⟨h, rfl⟩ | ⟨h, x, rfl, hx⟩, hb⟩
  · go_wp2
    go_returns
    exact int_nat h rfl hb
  · go_wp2
    go_returns
    exact int_neg h rfl hx hb
/-- What impl.IntExpr answers of an integer. -/
def NumPost (n : Int) (w : World) (e : Ending) (w' : World) : Prop :=
  ∃ m c : Int, e = .returned (.tuple #[.int .i64 m, .int .i64 c]) ∧ (0 ≤ n → m = n ∧ c = 0) ∧ (n < 0 → (c == 0) = false) ∧ Below w.heap.size w w'
theorem num_post {n m c : Int} {w w' : World} {e : Ending} (he : e = .returned (.tuple #[.int .i64 m, .int .i64 c])) (h0 : 0 ≤ n → m = n ∧ c = 0) (h1 : n < 0 → (c == 0) = false) (hb : Below w.heap.size w w') : NumPost n w e w' := ⟨m, c, he, h0, h1, hb⟩
set_option maxRecDepth 100000 in
set_option maxHeartbeats 1000000 in
theorem IntExpr_any (k : IntKind) (n : Int) (hv : (V.int k n).ok) (hm : n ≤ 9223372036854775807) (w : World) (hE : ErrW w) : Calls Tryd.prog 10 #[.agg #[.string (V.int k n).K, .int .i64 (V.int k n).N, .int .u64 (V.int k n).U, .float .f64 (V.int k n).F, .string (V.int k n).S]] w (NumPost n w) := by
  have HV := Lib.hid hv
  have HM := Lib.hid hm
  clear hv hm
  go_enter Tryd.func10, Tryd.ntmps10
  have B0 : Below w.heap.size w (w.alloc (.cells #[.string (V.int k n).K, .int .i64 (V.int k n).N, .int .u64 (V.int k n).U, .float .f64 (V.int k n).F, .string (V.int k n).S] 25)) := (Below.refl _ _).alloc (Nat.le_refl _) _
  have HE := Lib.hid (hE.below B0)
  have HB0 := Lib.hid B0
  clear hE B0
  go_wp2_with fail
  refine (in_any (.int k n) HV.out _).mono ?_
  rintro e w1 ⟨x, rfl, hx, hb1⟩
  have HX := Lib.hid hx
  have HB1 := Lib.hid (HB0.out.trans (hb1.mono HB0.out.size))
  have HE1 := Lib.hid (HE.out.below hb1)
  clear hx HB0 HE
  obtain ⟨hc, hf⟩ := bcell hb1
  have hz := hb1.size
  clear hb1
  go_wp2_with fail
  refine (zzint_any k n HV.out HM.out x _ HX.out).mono ?_
  rintro e w2 ⟨⟨h, rfl⟩ | ⟨h, y, rfl, hy⟩, hb2⟩
  · have HB2 := Lib.hid (HB1.out.trans (hb2.mono HB1.out.size))
    clear hb2
    go_wp2
    go_returns
    exact num_post rfl (fun _ => ⟨rfl, rfl⟩) (fun h' => by omega) HB2.out
  · have HB2 := Lib.hid (HB1.out.trans (hb2.mono HB1.out.size))
    have HE2 := Lib.hid (HE1.out.below hb2)
    have HY := Lib.hid hy
    obtain ⟨yb, yc, yt, hyx, _⟩ := hy
    subst hyx
    clear hb2 HE1
    go_wp2_with fail
    refine (zzErr_any _ _ HE2.out HY.out).mono ?_
    rintro e w3 ⟨c, rfl, hc0, rfl⟩
    go_wp2
    go_returns
    exact num_post rfl (fun h' => by omega) (fun _ => hc0) HB2.out
end Go.Proofs.YtpkgngpmnapdoaaDoor
