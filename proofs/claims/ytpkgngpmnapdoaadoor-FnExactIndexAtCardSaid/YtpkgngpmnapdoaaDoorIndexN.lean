/- indexExpr, where no text is known. -/
import Derived.Test.YtpkgngpmnapdoaaDoorCut
namespace Go.Proofs.YtpkgngpmnapdoaaDoor
open Go.RowKit
set_option linter.unusedVariables false
set_option linter.unusedSimpArgs false
set_option maxRecDepth 100000
attribute [local go_sem] store_flt
attribute [local go_sem] ta4 tn4 ta74 tn74 ta75 tn75 ta21 tn21 ta2 tn2 ta5 tn5 ta76 tn76 ta77 tn77 ta22 tn22 ta3 tn3 ta30 tn30 ta68 tn68 ta23 tn23 ta9 tn9 ta78 tn78 ta88 tn88 ta90 tn90 ta91 tn91 ta93 tn93 ta82 tn82
attribute [local go_sem] cutW_cell cutW_frozen
set_option maxHeartbeats 1000000 in
theorem ixn_int8 (n : Int) (h1 : -128 ≤ n) (h2 : n ≤ 127) (w : World) : Calls Tryd.prog 57 #[(.pointer none), .iface 74 (.int .i8 n)] w (AtPost true (decide (0 ≤ n)) n w) := by
  by_cases hn : n < 0
  · clear h1 h2
    go_enter Tryd.func57, Tryd.ntmps57
    go_wp2_with (go_at_call 74; refine (negx_any _ _).mono ?_; rintro e w1 ⟨x, rfl, hx, hb⟩)
    go_returns
    exact at_bad rfl hx (fun _ => by simp <;> omega) hb
  · have hw : IntKind.u64.wrap n = n := IntWalk.u64_in _ ⟨by omega, by omega⟩
    have hw2 : IntKind.i64.wrap n = n := IntWalk.i64_in _ ⟨by omega, by omega⟩
    have H1 := Lib.hid h1
    have H2 := Lib.hid h2
    have HN := Lib.hid hn
    clear h1 h2
    go_enter Tryd.func57, Tryd.ntmps57
    go_wp2
    go_returns
    exact at_good rfl (fun _ => ⟨by have := HN.out; simp <;> omega, rfl⟩) (Below.refl _ _)
set_option maxHeartbeats 1000000 in
theorem ixn_int16 (n : Int) (h1 : -32768 ≤ n) (h2 : n ≤ 32767) (w : World) : Calls Tryd.prog 57 #[(.pointer none), .iface 75 (.int .i16 n)] w (AtPost true (decide (0 ≤ n)) n w) := by
  by_cases hn : n < 0
  · clear h1 h2
    go_enter Tryd.func57, Tryd.ntmps57
    go_wp2_with (go_at_call 74; refine (negx_any _ _).mono ?_; rintro e w1 ⟨x, rfl, hx, hb⟩)
    go_returns
    exact at_bad rfl hx (fun _ => by simp <;> omega) hb
  · have hw : IntKind.u64.wrap n = n := IntWalk.u64_in _ ⟨by omega, by omega⟩
    have hw2 : IntKind.i64.wrap n = n := IntWalk.i64_in _ ⟨by omega, by omega⟩
    have H1 := Lib.hid h1
    have H2 := Lib.hid h2
    have HN := Lib.hid hn
    clear h1 h2
    go_enter Tryd.func57, Tryd.ntmps57
    go_wp2
    go_returns
    exact at_good rfl (fun _ => ⟨by have := HN.out; simp <;> omega, rfl⟩) (Below.refl _ _)
set_option maxHeartbeats 1000000 in
theorem ixn_int32 (n : Int) (h1 : -2147483648 ≤ n) (h2 : n ≤ 2147483647) (w : World) : Calls Tryd.prog 57 #[(.pointer none), .iface 21 (.int .i32 n)] w (AtPost true (decide (0 ≤ n)) n w) := by
  by_cases hn : n < 0
  · clear h1 h2
    go_enter Tryd.func57, Tryd.ntmps57
    go_wp2_with (go_at_call 74; refine (negx_any _ _).mono ?_; rintro e w1 ⟨x, rfl, hx, hb⟩)
    go_returns
    exact at_bad rfl hx (fun _ => by simp <;> omega) hb
  · have hw : IntKind.u64.wrap n = n := IntWalk.u64_in _ ⟨by omega, by omega⟩
    have hw2 : IntKind.i64.wrap n = n := IntWalk.i64_in _ ⟨by omega, by omega⟩
    have H1 := Lib.hid h1
    have H2 := Lib.hid h2
    have HN := Lib.hid hn
    clear h1 h2
    go_enter Tryd.func57, Tryd.ntmps57
    go_wp2
    go_returns
    exact at_good rfl (fun _ => ⟨by have := HN.out; simp <;> omega, rfl⟩) (Below.refl _ _)
set_option maxHeartbeats 1000000 in
theorem ixn_int64 (n : Int) (h1 : -9223372036854775808 ≤ n) (h2 : n ≤ 9223372036854775807) (w : World) : Calls Tryd.prog 57 #[(.pointer none), .iface 2 (.int .i64 n)] w (AtPost true (decide (0 ≤ n)) n w) := by
  by_cases hn : n < 0
  · clear h1 h2
    go_enter Tryd.func57, Tryd.ntmps57
    go_wp2_with (go_at_call 74; refine (negx_any _ _).mono ?_; rintro e w1 ⟨x, rfl, hx, hb⟩)
    go_returns
    exact at_bad rfl hx (fun _ => by simp <;> omega) hb
  · have hw : IntKind.u64.wrap n = n := IntWalk.u64_in _ ⟨by omega, by omega⟩
    have H1 := Lib.hid h1
    have H2 := Lib.hid h2
    have HN := Lib.hid hn
    clear h1 h2
    go_enter Tryd.func57, Tryd.ntmps57
    go_wp2
    go_returns
    exact at_good rfl (fun _ => ⟨by have := HN.out; simp <;> omega, rfl⟩) (Below.refl _ _)
set_option maxHeartbeats 1000000 in
theorem ixn_uint8 (n : Int) (h1 : 0 ≤ n) (h2 : n ≤ 255) (w : World) : Calls Tryd.prog 57 #[(.pointer none), .iface 5 (.int .u8 n)] w (AtPost true (decide (0 ≤ n)) n w) := by
  have hn : ¬ n < 0 := by omega
  have hw : IntKind.u64.wrap n = n := IntWalk.u64_in _ ⟨by omega, by omega⟩
  have hw2 : IntKind.i64.wrap n = n := IntWalk.i64_in _ ⟨by omega, by omega⟩
  have H1 := Lib.hid h1
  have H2 := Lib.hid h2
  have HN := Lib.hid hn
  clear h1 h2
  go_enter Tryd.func57, Tryd.ntmps57
  go_wp2
  go_returns
  exact at_good rfl (fun _ => ⟨by have := HN.out; simp <;> omega, rfl⟩) (Below.refl _ _)
set_option maxHeartbeats 1000000 in
theorem ixn_uint16 (n : Int) (h1 : 0 ≤ n) (h2 : n ≤ 65535) (w : World) : Calls Tryd.prog 57 #[(.pointer none), .iface 76 (.int .u16 n)] w (AtPost true (decide (0 ≤ n)) n w) := by
  have hn : ¬ n < 0 := by omega
  have hw : IntKind.u64.wrap n = n := IntWalk.u64_in _ ⟨by omega, by omega⟩
  have hw2 : IntKind.i64.wrap n = n := IntWalk.i64_in _ ⟨by omega, by omega⟩
  have H1 := Lib.hid h1
  have H2 := Lib.hid h2
  have HN := Lib.hid hn
  clear h1 h2
  go_enter Tryd.func57, Tryd.ntmps57
  go_wp2
  go_returns
  exact at_good rfl (fun _ => ⟨by have := HN.out; simp <;> omega, rfl⟩) (Below.refl _ _)
set_option maxHeartbeats 1000000 in
theorem ixn_uint32 (n : Int) (h1 : 0 ≤ n) (h2 : n ≤ 4294967295) (w : World) : Calls Tryd.prog 57 #[(.pointer none), .iface 77 (.int .u32 n)] w (AtPost true (decide (0 ≤ n)) n w) := by
  have hn : ¬ n < 0 := by omega
  have hw : IntKind.u64.wrap n = n := IntWalk.u64_in _ ⟨by omega, by omega⟩
  have hw2 : IntKind.i64.wrap n = n := IntWalk.i64_in _ ⟨by omega, by omega⟩
  have H1 := Lib.hid h1
  have H2 := Lib.hid h2
  have HN := Lib.hid hn
  clear h1 h2
  go_enter Tryd.func57, Tryd.ntmps57
  go_wp2
  go_returns
  exact at_good rfl (fun _ => ⟨by have := HN.out; simp <;> omega, rfl⟩) (Below.refl _ _)
set_option maxHeartbeats 1000000 in
theorem ixn_uint64 (n : Int) (h1 : 0 ≤ n) (h2 : n ≤ 18446744073709551615) (w : World) : Calls Tryd.prog 57 #[(.pointer none), .iface 22 (.int .u64 n)] w (AtPost true (decide (0 ≤ n)) n w) := by
  have hn : ¬ n < 0 := by omega
  have H1 := Lib.hid h1
  have H2 := Lib.hid h2
  have HN := Lib.hid hn
  clear h1 h2
  go_enter Tryd.func57, Tryd.ntmps57
  go_wp2
  go_returns
  exact at_good rfl (fun _ => ⟨by have := HN.out; simp <;> omega, rfl⟩) (Below.refl _ _)
set_option maxHeartbeats 1000000 in
theorem ixn_idealInt (n : Int) (h1 : -9223372036854775808 ≤ n) (h2 : n ≤ 9223372036854775807) (w : World) : Calls Tryd.prog 57 #[(.pointer none), .iface 88 (.int .i64 n)] w (AtPost true (decide (0 ≤ n)) n w) := by
  by_cases hn : n < 0
  · clear h1 h2
    go_enter Tryd.func57, Tryd.ntmps57
    go_wp2_with (go_at_call 74; refine (negx_any _ _).mono ?_; rintro e w1 ⟨x, rfl, hx, hb⟩)
    go_returns
    exact at_bad rfl hx (fun _ => by simp <;> omega) hb
  · have hw : IntKind.u64.wrap n = n := IntWalk.u64_in _ ⟨by omega, by omega⟩
    have H1 := Lib.hid h1
    have H2 := Lib.hid h2
    have HN := Lib.hid hn
    clear h1 h2
    go_enter Tryd.func57, Tryd.ntmps57
    go_wp2
    go_returns
    exact at_good rfl (fun _ => ⟨by have := HN.out; simp <;> omega, rfl⟩) (Below.refl _ _)
set_option maxHeartbeats 1000000 in
theorem ixn_idealRune (n : Int) (h1 : -2147483648 ≤ n) (h2 : n ≤ 2147483647) (w : World) : Calls Tryd.prog 57 #[(.pointer none), .iface 90 (.int .i32 n)] w (AtPost true (decide (0 ≤ n)) n w) := by
  by_cases hn : n < 0
  · clear h1 h2
    go_enter Tryd.func57, Tryd.ntmps57
    go_wp2_with (go_at_call 74; refine (negx_any _ _).mono ?_; rintro e w1 ⟨x, rfl, hx, hb⟩)
    go_returns
    exact at_bad rfl hx (fun _ => by simp <;> omega) hb
  · have hw : IntKind.u64.wrap n = n := IntWalk.u64_in _ ⟨by omega, by omega⟩
    have hw2 : IntKind.i64.wrap n = n := IntWalk.i64_in _ ⟨by omega, by omega⟩
    have H1 := Lib.hid h1
    have H2 := Lib.hid h2
    have HN := Lib.hid hn
    clear h1 h2
    go_enter Tryd.func57, Tryd.ntmps57
    go_wp2
    go_returns
    exact at_good rfl (fun _ => ⟨by have := HN.out; simp <;> omega, rfl⟩) (Below.refl _ _)
set_option maxHeartbeats 1000000 in
theorem ixn_idealUint (n : Int) (h1 : 0 ≤ n) (h2 : n ≤ 18446744073709551615) (w : World) : Calls Tryd.prog 57 #[(.pointer none), .iface 91 (.int .u64 n)] w (AtPost true (decide (0 ≤ n)) n w) := by
  have hn : ¬ n < 0 := by omega
  have H1 := Lib.hid h1
  have H2 := Lib.hid h2
  have HN := Lib.hid hn
  clear h1 h2
  go_enter Tryd.func57, Tryd.ntmps57
  go_wp2
  go_returns
  exact at_good rfl (fun _ => ⟨by have := HN.out; simp <;> omega, rfl⟩) (Below.refl _ _)
set_option maxHeartbeats 1000000 in
theorem ixn_idealFloat (d : Nat) (w : World) : Calls Tryd.prog 57 #[(.pointer none), .iface 93 (.float .f64 d)] w (AtPost false false 0 w) := by
  have hk1 := fun W => run_cut 93 3 .i64 d rfl rfl W
  have hk2 := fun W => run_cut 93 22 .u64 d rfl rfl W
  cases hx : (FloatKind.f64.format.order d 0 == some Ordering.lt) with
  | true =>
    go_enter Tryd.func57, Tryd.ntmps57
    go_wp2_with (go_at_call 74; refine (negx_any _ _).mono ?_; rintro e w1 ⟨x, rfl, hx, hb⟩)
    go_returns
    exact at_bad rfl hx (fun h => nomatch h) hb
  | false =>
    go_enter Tryd.func57, Tryd.ntmps57
    go_wp2
    go_returns
    exact at_good rfl (fun h => nomatch h) (cutW_below _ _ (Below.refl _ _))
set_option maxHeartbeats 1000000 in
theorem ixn_null (w : World) : Calls Tryd.prog 57 #[(.pointer none), .nilIface] w (AtPost true false 0 w) := by
  go_enter Tryd.func57, Tryd.ntmps57
  go_wp2_with (go_at_call 69; refine (new_any _ _).mono ?_; rintro e w1 ⟨x, rfl, hx, hb⟩)
  go_returns
  exact at_bad rfl hx (fun _ => rfl) hb
set_option maxHeartbeats 1000000 in
theorem ixn_bool (b : Bool) (w : World) : Calls Tryd.prog 57 #[(.pointer none), .iface 4 (.bool b)] w (AtPost true false 0 w) := by
  go_enter Tryd.func57, Tryd.ntmps57
  go_wp2_with (go_at_call 69; refine (new_any _ _).mono ?_; rintro e w1 ⟨x, rfl, hx, hb⟩)
  go_returns
  exact at_bad rfl hx (fun _ => rfl) hb
set_option maxHeartbeats 1000000 in
theorem ixn_float32 (d : Nat) (w : World) : Calls Tryd.prog 57 #[(.pointer none), .iface 68 (.float .f32 d)] w (AtPost true false 0 w) := by
  go_enter Tryd.func57, Tryd.ntmps57
  go_wp2_with (go_at_call 69; refine (new_any _ _).mono ?_; rintro e w1 ⟨x, rfl, hx, hb⟩)
  go_returns
  exact at_bad rfl hx (fun _ => rfl) hb
set_option maxHeartbeats 1000000 in
theorem ixn_float64 (d : Nat) (w : World) : Calls Tryd.prog 57 #[(.pointer none), .iface 23 (.float .f64 d)] w (AtPost true false 0 w) := by
  go_enter Tryd.func57, Tryd.ntmps57
  go_wp2_with (go_at_call 69; refine (new_any _ _).mono ?_; rintro e w1 ⟨x, rfl, hx, hb⟩)
  go_returns
  exact at_bad rfl hx (fun _ => rfl) hb
set_option maxHeartbeats 1000000 in
theorem ixn_string (q : ByteArray) (w : World) : Calls Tryd.prog 57 #[(.pointer none), .iface 9 (.string q)] w (AtPost true false 0 w) := by
  go_enter Tryd.func57, Tryd.ntmps57
  go_wp2_with (go_at_call 69; refine (new_any _ _).mono ?_; rintro e w1 ⟨x, rfl, hx, hb⟩)
  go_returns
  exact at_bad rfl hx (fun _ => rfl) hb
set_option maxHeartbeats 1000000 in
theorem ixn_blob (a : Option Addr) (n c : Nat) (w : World) : Calls Tryd.prog 57 #[(.pointer none), .iface 78 (.slice a n c)] w (AtPost true false 0 w) := by
  go_enter Tryd.func57, Tryd.ntmps57
  go_wp2_with (go_at_call 69; refine (new_any _ _).mono ?_; rintro e w1 ⟨x, rfl, hx, hb⟩)
  go_returns
  exact at_bad rfl hx (fun _ => rfl) hb
theorem AtPost.moved {n n' : Int} {w w' : World} {e : Ending} (h : AtPost true false n w e w') : AtPost true false n' w e w' := by
  obtain ⟨m, x, he, hx, hb⟩ := h
  exact ⟨m, x, he, hx.elim (fun h => .inl ⟨h.1, fun hh => nomatch (h.2 hh).1⟩) .inr, hb⟩
theorem ixn_any (v : V) (hv : v.ok) (s : ByteArray) (x : Value) (w : World) (hx : v.box w x) : Calls Tryd.prog 57 #[(.pointer none), x] w (AtPost v.said (v.fits false s) v.num w) := by
  have mv : ∀ {g : Bool}, g = false → Calls Tryd.prog 57 #[(.pointer none), x] w (AtPost true false 0 w) → Calls Tryd.prog 57 #[(.pointer none), x] w (AtPost true g v.num w) := fun hg h => hg ▸ h.mono fun e w' h => h.moved
  have us : Calls Tryd.prog 57 #[(.pointer none), x] w (AtPost true false 0 w) → Calls Tryd.prog 57 #[(.pointer none), x] w (AtPost false (v.fits false s) v.num w) := fun h => h.mono fun e w' h => h.unsaid
  have us' : Calls Tryd.prog 57 #[(.pointer none), x] w (AtPost false false 0 w) → Calls Tryd.prog 57 #[(.pointer none), x] w (AtPost false (v.fits false s) v.num w) := fun h => h.mono fun e w' h => h.unsaid
  rcases v with _ | b | ⟨k, n⟩ | ⟨k, d⟩ | q | q | n | n | n | d
  · obtain rfl := hx; exact us (ixn_null w)
  · obtain rfl := hx; exact mv rfl (ixn_bool b w)
  · cases k
    · obtain rfl := hx; have := ixn_int8 n hv.1 hv.2 w; simpa [V.said, V.fits, V.whole, V.num, V.N, V.U] using this
    · obtain rfl := hx; have := ixn_int16 n hv.1 hv.2 w; simpa [V.said, V.fits, V.whole, V.num, V.N, V.U] using this
    · obtain rfl := hx; have := ixn_int32 n hv.1 hv.2 w; simpa [V.said, V.fits, V.whole, V.num, V.N, V.U] using this
    · obtain rfl := hx; have := ixn_int64 n hv.1 hv.2 w; simpa [V.said, V.fits, V.whole, V.num, V.N, V.U] using this
    · obtain rfl := hx; have := ixn_uint8 n hv.1 hv.2 w; simpa [V.said, V.fits, V.whole, V.num, V.N, V.U] using this
    · obtain rfl := hx; have := ixn_uint16 n hv.1 hv.2 w; simpa [V.said, V.fits, V.whole, V.num, V.N, V.U] using this
    · obtain rfl := hx; have := ixn_uint32 n hv.1 hv.2 w; simpa [V.said, V.fits, V.whole, V.num, V.N, V.U] using this
    · obtain rfl := hx; have := ixn_uint64 n hv.1 hv.2 w; simpa [V.said, V.fits, V.whole, V.num, V.N, V.U] using this
  · cases k
    · obtain ⟨r, rfl, _⟩ := hx; exact mv rfl (ixn_float32 r w)
    · obtain rfl := hx; exact mv rfl (ixn_float64 d w)
  · obtain rfl := hx; exact mv rfl (ixn_string q w)
  · obtain ⟨b, c, rfl, _⟩ := hx; exact mv rfl (ixn_blob _ _ _ w)
  · obtain rfl := hx; have := ixn_idealInt n hv.1 hv.2 w; simpa [V.said, V.fits, V.whole, V.num, V.N, V.U] using this
  · obtain rfl := hx; have := ixn_idealRune n hv.1 hv.2 w; simpa [V.said, V.fits, V.whole, V.num, V.N, V.U] using this
  · obtain rfl := hx; have := ixn_idealUint n hv.1 hv.2 w; simpa [V.said, V.fits, V.whole, V.num, V.N, V.U] using this
  · obtain rfl := hx; exact us' (ixn_idealFloat d w)
end Go.Proofs.YtpkgngpmnapdoaaDoor
