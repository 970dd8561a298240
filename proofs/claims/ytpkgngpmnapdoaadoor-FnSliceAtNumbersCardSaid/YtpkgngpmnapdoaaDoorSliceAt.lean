/- sliceExpr of a text that is not known, and impl.SliceAt: for every integer. -/
import Derived.Deep.RegionWith
import Derived.Test.YtpkgngpmnapdoaaDoorInteger
import Derived.Test.YtpkgngpmnapdoaaDoorAt
namespace Go.Proofs.YtpkgngpmnapdoaaDoor
open Go.RowKit
set_option linter.unusedVariables false
set_option linter.unusedSimpArgs false
set_option maxRecDepth 100000
attribute [local go_sem] store_flt
attribute [local go_sem] ta4 tn4 ta74 tn74 ta75 tn75 ta21 tn21 ta2 tn2 ta5 tn5 ta76 tn76 ta77 tn77 ta22 tn22 ta3 tn3 ta30 tn30 ta68 tn68 ta23 tn23 ta9 tn9 ta78 tn78 ta88 tn88 ta90 tn90 ta91 tn91 ta93 tn93 ta82 tn82
theorem one_cells {w wi : World} {A : Array Value} {t : TypeId} (h : Below (w.alloc (.cells A t)).heap.size (w.alloc (.cells A t)) wi) : ∀ j, wi.cell? ⟨w.heap.size, j, none⟩ = A[j]? := by
  intro j
  rw [h.cell (p := ⟨w.heap.size, j, none⟩) (by simp)]
  have e : (w.alloc (.cells A t)).heap[w.heap.size]? = some (.cells A t (0, 0)) := by
    show (w.heap.push _)[w.heap.size]? = _
    simp
  rw [cell_of_row _ _ j _ _ _ e]
set_option maxRecDepth 100000 in
set_option maxHeartbeats 1000000 in
theorem slice_int8 (n : Int) (h1 : -128 ≤ n) (h2 : n ≤ 127) (m : Int) (w : World) : Calls Tryd.prog 64 #[.pointer none, .iface 74 (.int .i8 n), .int .i64 m] w (AtPost true (decide (0 ≤ n)) n w) := by
  by_cases hn : n < 0
  · go_enter Tryd.func64, Tryd.ntmps64
    clear h1 h2
    go_wp2_with (go_at_call 77; refine (slneg_any _ _).mono ?_; rintro e w1 ⟨x, rfl, hx, hb⟩)
    go_returns
    exact at_bad rfl hx (fun _ => by simp <;> omega) hb
  · have hw : IntKind.u64.wrap n = n := IntWalk.u64_in _ ⟨by omega, by omega⟩
    have H1 := Lib.hid h1
    have H2 := Lib.hid h2
    clear h1 h2
    go_enter Tryd.func64, Tryd.ntmps64
    go_wp2
    go_returns
    exact at_good rfl (fun _ => ⟨by simp <;> omega, rfl⟩) (Below.refl _ _)
set_option maxRecDepth 100000 in
set_option maxHeartbeats 1000000 in
theorem slice_int16 (n : Int) (h1 : -32768 ≤ n) (h2 : n ≤ 32767) (m : Int) (w : World) : Calls Tryd.prog 64 #[.pointer none, .iface 75 (.int .i16 n), .int .i64 m] w (AtPost true (decide (0 ≤ n)) n w) := by
  by_cases hn : n < 0
  · go_enter Tryd.func64, Tryd.ntmps64
    clear h1 h2
    go_wp2_with (go_at_call 77; refine (slneg_any _ _).mono ?_; rintro e w1 ⟨x, rfl, hx, hb⟩)
    go_returns
    exact at_bad rfl hx (fun _ => by simp <;> omega) hb
  · have hw : IntKind.u64.wrap n = n := IntWalk.u64_in _ ⟨by omega, by omega⟩
    have H1 := Lib.hid h1
    have H2 := Lib.hid h2
    clear h1 h2
    go_enter Tryd.func64, Tryd.ntmps64
    go_wp2
    go_returns
    exact at_good rfl (fun _ => ⟨by simp <;> omega, rfl⟩) (Below.refl _ _)
set_option maxRecDepth 100000 in
set_option maxHeartbeats 1000000 in
theorem slice_int32 (n : Int) (h1 : -2147483648 ≤ n) (h2 : n ≤ 2147483647) (m : Int) (w : World) : Calls Tryd.prog 64 #[.pointer none, .iface 21 (.int .i32 n), .int .i64 m] w (AtPost true (decide (0 ≤ n)) n w) := by
  by_cases hn : n < 0
  · go_enter Tryd.func64, Tryd.ntmps64
    clear h1 h2
    go_wp2_with (go_at_call 77; refine (slneg_any _ _).mono ?_; rintro e w1 ⟨x, rfl, hx, hb⟩)
    go_returns
    exact at_bad rfl hx (fun _ => by simp <;> omega) hb
  · have hw : IntKind.u64.wrap n = n := IntWalk.u64_in _ ⟨by omega, by omega⟩
    have H1 := Lib.hid h1
    have H2 := Lib.hid h2
    clear h1 h2
    go_enter Tryd.func64, Tryd.ntmps64
    go_wp2
    go_returns
    exact at_good rfl (fun _ => ⟨by simp <;> omega, rfl⟩) (Below.refl _ _)
set_option maxRecDepth 100000 in
set_option maxHeartbeats 1000000 in
theorem slice_int64 (n : Int) (h1 : -9223372036854775808 ≤ n) (h2 : n ≤ 9223372036854775807) (m : Int) (w : World) : Calls Tryd.prog 64 #[.pointer none, .iface 2 (.int .i64 n), .int .i64 m] w (AtPost true (decide (0 ≤ n)) n w) := by
  by_cases hn : n < 0
  · go_enter Tryd.func64, Tryd.ntmps64
    clear h1 h2
    go_wp2_with (go_at_call 77; refine (slneg_any _ _).mono ?_; rintro e w1 ⟨x, rfl, hx, hb⟩)
    go_returns
    exact at_bad rfl hx (fun _ => by simp <;> omega) hb
  · have hw : IntKind.u64.wrap n = n := IntWalk.u64_in _ ⟨by omega, by omega⟩
    have H1 := Lib.hid h1
    have H2 := Lib.hid h2
    clear h1 h2
    go_enter Tryd.func64, Tryd.ntmps64
    go_wp2
    go_returns
    exact at_good rfl (fun _ => ⟨by simp <;> omega, rfl⟩) (Below.refl _ _)
set_option maxRecDepth 100000 in
set_option maxHeartbeats 1000000 in
theorem slice_uint8 (n : Int) (h1 : 0 ≤ n) (h2 : n ≤ 255) (m : Int) (w : World) : Calls Tryd.prog 64 #[.pointer none, .iface 5 (.int .u8 n), .int .i64 m] w (AtPost true (decide (0 ≤ n)) n w) := by
  have hw : IntKind.u64.wrap n = n := IntWalk.u64_in _ ⟨by omega, by omega⟩
  have H1 := Lib.hid h1
  have hn : ¬ n < 0 := by omega
  clear h1 h2
  go_enter Tryd.func64, Tryd.ntmps64
  go_wp2
  go_returns
  exact at_good rfl (fun _ => ⟨by have := H1.out; simp <;> omega, rfl⟩) (Below.refl _ _)
set_option maxRecDepth 100000 in
set_option maxHeartbeats 1000000 in
theorem slice_uint16 (n : Int) (h1 : 0 ≤ n) (h2 : n ≤ 65535) (m : Int) (w : World) : Calls Tryd.prog 64 #[.pointer none, .iface 76 (.int .u16 n), .int .i64 m] w (AtPost true (decide (0 ≤ n)) n w) := by
  have hw : IntKind.u64.wrap n = n := IntWalk.u64_in _ ⟨by omega, by omega⟩
  have H1 := Lib.hid h1
  have hn : ¬ n < 0 := by omega
  clear h1 h2
  go_enter Tryd.func64, Tryd.ntmps64
  go_wp2
  go_returns
  exact at_good rfl (fun _ => ⟨by have := H1.out; simp <;> omega, rfl⟩) (Below.refl _ _)
set_option maxRecDepth 100000 in
set_option maxHeartbeats 1000000 in
theorem slice_uint32 (n : Int) (h1 : 0 ≤ n) (h2 : n ≤ 4294967295) (m : Int) (w : World) : Calls Tryd.prog 64 #[.pointer none, .iface 77 (.int .u32 n), .int .i64 m] w (AtPost true (decide (0 ≤ n)) n w) := by
  have hw : IntKind.u64.wrap n = n := IntWalk.u64_in _ ⟨by omega, by omega⟩
  have H1 := Lib.hid h1
  have hn : ¬ n < 0 := by omega
  clear h1 h2
  go_enter Tryd.func64, Tryd.ntmps64
  go_wp2
  go_returns
  exact at_good rfl (fun _ => ⟨by have := H1.out; simp <;> omega, rfl⟩) (Below.refl _ _)
set_option maxRecDepth 100000 in
set_option maxHeartbeats 1000000 in
theorem slice_uint64 (n : Int) (h1 : 0 ≤ n) (h2 : n ≤ 18446744073709551615) (m : Int) (w : World) : Calls Tryd.prog 64 #[.pointer none, .iface 22 (.int .u64 n), .int .i64 m] w (AtPost true (decide (0 ≤ n)) n w) := by
  have H1 := Lib.hid h1
  have hn : ¬ n < 0 := by omega
  clear h1 h2
  go_enter Tryd.func64, Tryd.ntmps64
  go_wp2
  go_returns
  exact at_good rfl (fun _ => ⟨by have := H1.out; simp <;> omega, rfl⟩) (Below.refl _ _)
set_option maxRecDepth 100000 in
set_option maxHeartbeats 1000000 in
theorem slice_idealInt (n : Int) (h1 : -9223372036854775808 ≤ n) (h2 : n ≤ 9223372036854775807) (m : Int) (w : World) : Calls Tryd.prog 64 #[.pointer none, .iface 88 (.int .i64 n), .int .i64 m] w (AtPost true (decide (0 ≤ n)) n w) := by
  by_cases hn : n < 0
  · go_enter Tryd.func64, Tryd.ntmps64
    clear h1 h2
    go_wp2_with (go_at_call 77; refine (slneg_any _ _).mono ?_; rintro e w1 ⟨x, rfl, hx, hb⟩)
    go_returns
    exact at_bad rfl hx (fun _ => by simp <;> omega) hb
  · have hw : IntKind.u64.wrap n = n := IntWalk.u64_in _ ⟨by omega, by omega⟩
    have H1 := Lib.hid h1
    have H2 := Lib.hid h2
    clear h1 h2
    go_enter Tryd.func64, Tryd.ntmps64
    go_wp2
    go_returns
    exact at_good rfl (fun _ => ⟨by simp <;> omega, rfl⟩) (Below.refl _ _)
set_option maxRecDepth 100000 in
set_option maxHeartbeats 1000000 in
theorem slice_idealRune (n : Int) (h1 : -2147483648 ≤ n) (h2 : n ≤ 2147483647) (m : Int) (w : World) : Calls Tryd.prog 64 #[.pointer none, .iface 90 (.int .i32 n), .int .i64 m] w (AtPost true (decide (0 ≤ n)) n w) := by
  by_cases hn : n < 0
  · go_enter Tryd.func64, Tryd.ntmps64
    clear h1 h2
    go_wp2_with (go_at_call 77; refine (slneg_any _ _).mono ?_; rintro e w1 ⟨x, rfl, hx, hb⟩)
    go_returns
    exact at_bad rfl hx (fun _ => by simp <;> omega) hb
  · have hw : IntKind.u64.wrap n = n := IntWalk.u64_in _ ⟨by omega, by omega⟩
    have H1 := Lib.hid h1
    have H2 := Lib.hid h2
    clear h1 h2
    go_enter Tryd.func64, Tryd.ntmps64
    go_wp2
    go_returns
    exact at_good rfl (fun _ => ⟨by simp <;> omega, rfl⟩) (Below.refl _ _)
set_option maxRecDepth 100000 in
set_option maxHeartbeats 1000000 in
theorem slice_idealUint (n : Int) (h1 : 0 ≤ n) (h2 : n ≤ 18446744073709551615) (m : Int) (w : World) : Calls Tryd.prog 64 #[.pointer none, .iface 91 (.int .u64 n), .int .i64 m] w (AtPost true (decide (0 ≤ n)) n w) := by
  have H1 := Lib.hid h1
  have hn : ¬ n < 0 := by omega
  clear h1 h2
  go_enter Tryd.func64, Tryd.ntmps64
  go_wp2
  go_returns
  exact at_good rfl (fun _ => ⟨by have := H1.out; simp <;> omega, rfl⟩) (Below.refl _ _)
theorem slice_any (v : V) (hv : v.ok) (hw : v.whole = true) (m : Int) (x : Value) (w : World) (hx : v.box w x) : Calls Tryd.prog 64 #[.pointer none, x, .int .i64 m] w (AtPost true (decide (0 ≤ v.num)) v.num w) := by
  rcases v with _ | b | ⟨k, n⟩ | ⟨k, d⟩ | s | s | n | n | n | d <;> try (cases hw; done)
  · cases k
    · obtain rfl := hx; have := slice_int8 n hv.1 hv.2 m w; simpa [V.num, V.N, V.U] using this
    · obtain rfl := hx; have := slice_int16 n hv.1 hv.2 m w; simpa [V.num, V.N, V.U] using this
    · obtain rfl := hx; have := slice_int32 n hv.1 hv.2 m w; simpa [V.num, V.N, V.U] using this
    · obtain rfl := hx; have := slice_int64 n hv.1 hv.2 m w; simpa [V.num, V.N, V.U] using this
    · obtain rfl := hx; have := slice_uint8 n hv.1 hv.2 m w; simpa [V.num, V.N, V.U] using this
    · obtain rfl := hx; have := slice_uint16 n hv.1 hv.2 m w; simpa [V.num, V.N, V.U] using this
    · obtain rfl := hx; have := slice_uint32 n hv.1 hv.2 m w; simpa [V.num, V.N, V.U] using this
    · obtain rfl := hx; have := slice_uint64 n hv.1 hv.2 m w; simpa [V.num, V.N, V.U] using this
  · obtain rfl := hx; have := slice_idealInt n hv.1 hv.2 m w; simpa [V.num, V.N, V.U] using this
  · obtain rfl := hx; have := slice_idealRune n hv.1 hv.2 m w; simpa [V.num, V.N, V.U] using this
  · obtain rfl := hx; have := slice_idealUint n hv.1 hv.2 m w; simpa [V.num, V.N, V.U] using this
theorem zzslice_any (v : V) (hv : v.ok) (hw : v.whole = true) (m : Int) (x : Value) (w : World) (hx : v.box w x) : Calls Tryd.prog 43 #[.pointer none, x, .int .i64 m] w (AtPost true (decide (0 ≤ v.num)) v.num w) := by
  have H := Lib.hid (slice_any v hv hw m x w hx)
  clear hx hv hw
  go_enter Tryd.func43, Tryd.ntmps43
  go_wp2_with fail
  refine H.out.mono ?_
  rintro e w1 ⟨q, y, rfl, hy, hb⟩
  have HY := Lib.hid hy
  clear hy
  go_wp2
  go_returns
  exact ⟨q, y, rfl, HY.out, hb⟩
set_option maxRecDepth 100000 in
set_option maxHeartbeats 1000000 in
theorem SliceAt_any (v : V) (hv : v.ok) (hw : v.whole = true) (s : ByteArray) (m : Int) (w : World) (hE : ErrW w) :
    Calls Tryd.prog 21 #[.string s, .bool false, .agg #[.string v.K, .int .i64 v.N, .int .u64 v.U, .float .f64 v.F, .string v.S], .int .i64 m] w (SaidPost true (decide (0 ≤ v.num)) v.num w) := by
  have HV := Lib.hid hv
  have HW := Lib.hid hw
  clear hv hw
  go_enter Tryd.func21, Tryd.ntmps21
  have B0 : Below w.heap.size w (w.alloc (.cells #[.string v.K, .int .i64 v.N, .int .u64 v.U, .float .f64 v.F, .string v.S] 25)).drew := ((Below.refl _ _).alloc (Nat.le_refl _) _).drew
  have HE := Lib.hid (hE.below B0)
  have HB0 := Lib.hid B0
  clear hE B0
  go_wp2_with fail
  go_region_with (first | (go_at_call 38; refine (text_none _ _).mono ?_; rintro e w1 ⟨rfl, hb1⟩; have HB1 := Lib.hid (HB0.out.trans (hb1.mono HB0.out.size)); have HE1 := Lib.hid (HE.out.below hb1); have hz1 := hb1.size; simp at hz1; obtain ⟨hc1, hf1⟩ := bcell hb1; have q1 : w.heap.size < w1.heap.size := (by omega); clear hb1) | (go_at_call 29; refine (in_any v HV.out _).mono ?_; rintro e w2 ⟨x, rfl, hx, hb2⟩; have HX := Lib.hid hx; have HB2 := Lib.hid (HB1.out.trans (hb2.mono HB1.out.size)); have HE2 := Lib.hid (HE1.out.below hb2); clear hx hb2) | (go_at_call 43; refine (zzslice_any v HV.out HW.out m _ _ HX.out).mono ?_; rintro e w3 ⟨q, y, rfl, hy, hb3⟩; have HY := Lib.hid hy; have HB3 := Lib.hid (HB2.out.trans (hb3.mono HB2.out.size)); have HE3 := Lib.hid (HE2.out.below hb3); clear hy hb3) | (go_at_call 36; refine (number_any w _ HE3.out HY.out HB3.out).mono ?_; rintro e w4 ⟨q', c, rfl, h0, h1, hb4⟩; have H0 := Lib.hid h0; have H1 := Lib.hid h1; have HB4 := Lib.hid hb4; clear h0 h1 hb4))
  all_goals go_wp2
  all_goals go_returns
  all_goals exact said_post rfl H0.out H1.out HB4.out
end Go.Proofs.YtpkgngpmnapdoaaDoor
