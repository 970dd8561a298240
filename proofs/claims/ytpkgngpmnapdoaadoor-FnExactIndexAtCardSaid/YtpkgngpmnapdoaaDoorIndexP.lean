/- indexExpr of a text. -/
import Derived.Test.YtpkgngpmnapdoaaDoorIndexN
namespace Go.Proofs.YtpkgngpmnapdoaaDoor
open Go.RowKit
set_option linter.unusedVariables false
set_option linter.unusedSimpArgs false
set_option maxRecDepth 100000
attribute [local go_sem] store_flt
attribute [local go_sem] ta4 tn4 ta74 tn74 ta75 tn75 ta21 tn21 ta2 tn2 ta5 tn5 ta76 tn76 ta77 tn77 ta22 tn22 ta3 tn3 ta30 tn30 ta68 tn68 ta23 tn23 ta9 tn9 ta78 tn78 ta88 tn88 ta90 tn90 ta91 tn91 ta93 tn93 ta82 tn82
attribute [local go_sem] cutW_cell cutW_frozen
set_option maxHeartbeats 1000000 in
theorem ixp_int8 (p : Nat) (s : ByteArray) (hl : s.size ≤ 2000) (n : Int) (h1 : -128 ≤ n) (h2 : n ≤ 127) (w : World) (hc : w.cell? ⟨p, 0, none⟩ = some (.string s)) : Calls Tryd.prog 57 #[(.pointer (some ⟨p, 0, none⟩)), .iface 74 (.int .i8 n)] w (AtPost true (decide (0 ≤ n) && decide (n < (s.size : Int))) n w) := by
  by_cases hn : n < 0
  · clear h1 h2 hl
    go_enter Tryd.func57, Tryd.ntmps57
    go_wp2_with (go_at_call 74; refine (negx_any _ _).mono ?_; rintro e w1 ⟨x, rfl, hx, hb⟩)
    go_returns
    exact at_bad rfl hx (fun _ => by simp <;> omega) hb
  · have hw : IntKind.u64.wrap n = n := IntWalk.u64_in _ ⟨by omega, by omega⟩
    have hw2 : IntKind.i64.wrap n = n := IntWalk.i64_in _ ⟨by omega, by omega⟩
    have hLi32 : IntKind.i32.wrap (s.size : Int) = (s.size : Int) := IntWalk.i32_in _ ⟨by omega, by omega⟩
    have hLu32 : IntKind.u32.wrap (s.size : Int) = (s.size : Int) := IntWalk.u32_in _ ⟨by omega, by omega⟩
    have hLu64 : IntKind.u64.wrap (s.size : Int) = (s.size : Int) := IntWalk.u64_in _ ⟨by omega, by omega⟩
    have hLi64 : IntKind.i64.wrap (s.size : Int) = (s.size : Int) := IntWalk.i64_in _ ⟨by omega, by omega⟩
    have H1 := Lib.hid h1
    have H2 := Lib.hid h2
    have HN := Lib.hid hn
    clear h1 h2 hl
    by_cases hb0 : n < (s.size : Int)
    · have hb1 : ¬ (s.size : Int) ≤ n := by omega
      go_enter Tryd.func57, Tryd.ntmps57
      go_wp2
      go_returns
      exact at_good rfl (fun _ => ⟨by have := HN.out; simp <;> omega, rfl⟩) (Below.refl _ _)
    · have hb1 : (s.size : Int) ≤ n := by omega
      go_enter Tryd.func57, Tryd.ntmps57
      go_wp2_with (go_at_call 75; refine (bound_any _ _ _).mono ?_; rintro e w1 ⟨x, rfl, hx, hb⟩)
      go_returns
      exact at_bad rfl hx (fun _ => by simp <;> omega) hb
set_option maxHeartbeats 1000000 in
theorem ixp_int16 (p : Nat) (s : ByteArray) (hl : s.size ≤ 2000) (n : Int) (h1 : -32768 ≤ n) (h2 : n ≤ 32767) (w : World) (hc : w.cell? ⟨p, 0, none⟩ = some (.string s)) : Calls Tryd.prog 57 #[(.pointer (some ⟨p, 0, none⟩)), .iface 75 (.int .i16 n)] w (AtPost true (decide (0 ≤ n) && decide (n < (s.size : Int))) n w) := by
  by_cases hn : n < 0
  · clear h1 h2 hl
    go_enter Tryd.func57, Tryd.ntmps57
    go_wp2_with (go_at_call 74; refine (negx_any _ _).mono ?_; rintro e w1 ⟨x, rfl, hx, hb⟩)
    go_returns
    exact at_bad rfl hx (fun _ => by simp <;> omega) hb
  · have hw : IntKind.u64.wrap n = n := IntWalk.u64_in _ ⟨by omega, by omega⟩
    have hw2 : IntKind.i64.wrap n = n := IntWalk.i64_in _ ⟨by omega, by omega⟩
    have hLi32 : IntKind.i32.wrap (s.size : Int) = (s.size : Int) := IntWalk.i32_in _ ⟨by omega, by omega⟩
    have hLu32 : IntKind.u32.wrap (s.size : Int) = (s.size : Int) := IntWalk.u32_in _ ⟨by omega, by omega⟩
    have hLu64 : IntKind.u64.wrap (s.size : Int) = (s.size : Int) := IntWalk.u64_in _ ⟨by omega, by omega⟩
    have hLi64 : IntKind.i64.wrap (s.size : Int) = (s.size : Int) := IntWalk.i64_in _ ⟨by omega, by omega⟩
    have H1 := Lib.hid h1
    have H2 := Lib.hid h2
    have HN := Lib.hid hn
    clear h1 h2 hl
    by_cases hb0 : n < (s.size : Int)
    · have hb1 : ¬ (s.size : Int) ≤ n := by omega
      go_enter Tryd.func57, Tryd.ntmps57
      go_wp2
      go_returns
      exact at_good rfl (fun _ => ⟨by have := HN.out; simp <;> omega, rfl⟩) (Below.refl _ _)
    · have hb1 : (s.size : Int) ≤ n := by omega
      go_enter Tryd.func57, Tryd.ntmps57
      go_wp2_with (go_at_call 75; refine (bound_any _ _ _).mono ?_; rintro e w1 ⟨x, rfl, hx, hb⟩)
      go_returns
      exact at_bad rfl hx (fun _ => by simp <;> omega) hb
set_option maxHeartbeats 1000000 in
theorem ixp_int32 (p : Nat) (s : ByteArray) (hl : s.size ≤ 2000) (n : Int) (h1 : -2147483648 ≤ n) (h2 : n ≤ 2147483647) (w : World) (hc : w.cell? ⟨p, 0, none⟩ = some (.string s)) : Calls Tryd.prog 57 #[(.pointer (some ⟨p, 0, none⟩)), .iface 21 (.int .i32 n)] w (AtPost true (decide (0 ≤ n) && decide (n < (s.size : Int))) n w) := by
  by_cases hn : n < 0
  · clear h1 h2 hl
    go_enter Tryd.func57, Tryd.ntmps57
    go_wp2_with (go_at_call 74; refine (negx_any _ _).mono ?_; rintro e w1 ⟨x, rfl, hx, hb⟩)
    go_returns
    exact at_bad rfl hx (fun _ => by simp <;> omega) hb
  · have hw : IntKind.u64.wrap n = n := IntWalk.u64_in _ ⟨by omega, by omega⟩
    have hw2 : IntKind.i64.wrap n = n := IntWalk.i64_in _ ⟨by omega, by omega⟩
    have hLi32 : IntKind.i32.wrap (s.size : Int) = (s.size : Int) := IntWalk.i32_in _ ⟨by omega, by omega⟩
    have hLu32 : IntKind.u32.wrap (s.size : Int) = (s.size : Int) := IntWalk.u32_in _ ⟨by omega, by omega⟩
    have hLu64 : IntKind.u64.wrap (s.size : Int) = (s.size : Int) := IntWalk.u64_in _ ⟨by omega, by omega⟩
    have hLi64 : IntKind.i64.wrap (s.size : Int) = (s.size : Int) := IntWalk.i64_in _ ⟨by omega, by omega⟩
    have H1 := Lib.hid h1
    have H2 := Lib.hid h2
    have HN := Lib.hid hn
    clear h1 h2 hl
    by_cases hb0 : n < (s.size : Int)
    · have hb1 : ¬ (s.size : Int) ≤ n := by omega
      go_enter Tryd.func57, Tryd.ntmps57
      go_wp2
      go_returns
      exact at_good rfl (fun _ => ⟨by have := HN.out; simp <;> omega, rfl⟩) (Below.refl _ _)
    · have hb1 : (s.size : Int) ≤ n := by omega
      go_enter Tryd.func57, Tryd.ntmps57
      go_wp2_with (go_at_call 75; refine (bound_any _ _ _).mono ?_; rintro e w1 ⟨x, rfl, hx, hb⟩)
      go_returns
      exact at_bad rfl hx (fun _ => by simp <;> omega) hb
set_option maxHeartbeats 1000000 in
theorem ixp_int64 (p : Nat) (s : ByteArray) (hl : s.size ≤ 2000) (n : Int) (h1 : -9223372036854775808 ≤ n) (h2 : n ≤ 9223372036854775807) (w : World) (hc : w.cell? ⟨p, 0, none⟩ = some (.string s)) : Calls Tryd.prog 57 #[(.pointer (some ⟨p, 0, none⟩)), .iface 2 (.int .i64 n)] w (AtPost true (decide (0 ≤ n) && decide (n < (s.size : Int))) n w) := by
  by_cases hn : n < 0
  · clear h1 h2 hl
    go_enter Tryd.func57, Tryd.ntmps57
    go_wp2_with (go_at_call 74; refine (negx_any _ _).mono ?_; rintro e w1 ⟨x, rfl, hx, hb⟩)
    go_returns
    exact at_bad rfl hx (fun _ => by simp <;> omega) hb
  · have hw : IntKind.u64.wrap n = n := IntWalk.u64_in _ ⟨by omega, by omega⟩
    have hLi32 : IntKind.i32.wrap (s.size : Int) = (s.size : Int) := IntWalk.i32_in _ ⟨by omega, by omega⟩
    have hLu32 : IntKind.u32.wrap (s.size : Int) = (s.size : Int) := IntWalk.u32_in _ ⟨by omega, by omega⟩
    have hLu64 : IntKind.u64.wrap (s.size : Int) = (s.size : Int) := IntWalk.u64_in _ ⟨by omega, by omega⟩
    have hLi64 : IntKind.i64.wrap (s.size : Int) = (s.size : Int) := IntWalk.i64_in _ ⟨by omega, by omega⟩
    have H1 := Lib.hid h1
    have H2 := Lib.hid h2
    have HN := Lib.hid hn
    clear h1 h2 hl
    by_cases hb0 : n < (s.size : Int)
    · have hb1 : ¬ (s.size : Int) ≤ n := by omega
      go_enter Tryd.func57, Tryd.ntmps57
      go_wp2
      go_returns
      exact at_good rfl (fun _ => ⟨by have := HN.out; simp <;> omega, rfl⟩) (Below.refl _ _)
    · have hb1 : (s.size : Int) ≤ n := by omega
      go_enter Tryd.func57, Tryd.ntmps57
      go_wp2_with (go_at_call 75; refine (bound_any _ _ _).mono ?_; rintro e w1 ⟨x, rfl, hx, hb⟩)
      go_returns
      exact at_bad rfl hx (fun _ => by simp <;> omega) hb
set_option maxHeartbeats 1000000 in
theorem ixp_uint8 (p : Nat) (s : ByteArray) (hl : s.size ≤ 2000) (n : Int) (h1 : 0 ≤ n) (h2 : n ≤ 255) (w : World) (hc : w.cell? ⟨p, 0, none⟩ = some (.string s)) : Calls Tryd.prog 57 #[(.pointer (some ⟨p, 0, none⟩)), .iface 5 (.int .u8 n)] w (AtPost true (decide (0 ≤ n) && decide (n < (s.size : Int))) n w) := by
  have hn : ¬ n < 0 := by omega
  have hw : IntKind.u64.wrap n = n := IntWalk.u64_in _ ⟨by omega, by omega⟩
  have hw2 : IntKind.i64.wrap n = n := IntWalk.i64_in _ ⟨by omega, by omega⟩
  have hLi32 : IntKind.i32.wrap (s.size : Int) = (s.size : Int) := IntWalk.i32_in _ ⟨by omega, by omega⟩
  have hLu32 : IntKind.u32.wrap (s.size : Int) = (s.size : Int) := IntWalk.u32_in _ ⟨by omega, by omega⟩
  have hLu64 : IntKind.u64.wrap (s.size : Int) = (s.size : Int) := IntWalk.u64_in _ ⟨by omega, by omega⟩
  have hLi64 : IntKind.i64.wrap (s.size : Int) = (s.size : Int) := IntWalk.i64_in _ ⟨by omega, by omega⟩
  have H1 := Lib.hid h1
  have H2 := Lib.hid h2
  have HN := Lib.hid hn
  clear h1 h2 hl
  by_cases hb0 : n < (s.size : Int)
  · have hb1 : ¬ (s.size : Int) ≤ n := by omega
    go_enter Tryd.func57, Tryd.ntmps57
    go_wp2
    go_returns
    exact at_good rfl (fun _ => ⟨by have := HN.out; simp <;> omega, rfl⟩) (Below.refl _ _)
  · have hb1 : (s.size : Int) ≤ n := by omega
    go_enter Tryd.func57, Tryd.ntmps57
    go_wp2_with (go_at_call 75; refine (bound_any _ _ _).mono ?_; rintro e w1 ⟨x, rfl, hx, hb⟩)
    go_returns
    exact at_bad rfl hx (fun _ => by simp <;> omega) hb
set_option maxHeartbeats 1000000 in
theorem ixp_uint16 (p : Nat) (s : ByteArray) (hl : s.size ≤ 2000) (n : Int) (h1 : 0 ≤ n) (h2 : n ≤ 65535) (w : World) (hc : w.cell? ⟨p, 0, none⟩ = some (.string s)) : Calls Tryd.prog 57 #[(.pointer (some ⟨p, 0, none⟩)), .iface 76 (.int .u16 n)] w (AtPost true (decide (0 ≤ n) && decide (n < (s.size : Int))) n w) := by
  have hn : ¬ n < 0 := by omega
  have hw : IntKind.u64.wrap n = n := IntWalk.u64_in _ ⟨by omega, by omega⟩
  have hw2 : IntKind.i64.wrap n = n := IntWalk.i64_in _ ⟨by omega, by omega⟩
  have hLi32 : IntKind.i32.wrap (s.size : Int) = (s.size : Int) := IntWalk.i32_in _ ⟨by omega, by omega⟩
  have hLu32 : IntKind.u32.wrap (s.size : Int) = (s.size : Int) := IntWalk.u32_in _ ⟨by omega, by omega⟩
  have hLu64 : IntKind.u64.wrap (s.size : Int) = (s.size : Int) := IntWalk.u64_in _ ⟨by omega, by omega⟩
  have hLi64 : IntKind.i64.wrap (s.size : Int) = (s.size : Int) := IntWalk.i64_in _ ⟨by omega, by omega⟩
  have H1 := Lib.hid h1
  have H2 := Lib.hid h2
  have HN := Lib.hid hn
  clear h1 h2 hl
  by_cases hb0 : n < (s.size : Int)
  · have hb1 : ¬ (s.size : Int) ≤ n := by omega
    go_enter Tryd.func57, Tryd.ntmps57
    go_wp2
    go_returns
    exact at_good rfl (fun _ => ⟨by have := HN.out; simp <;> omega, rfl⟩) (Below.refl _ _)
  · have hb1 : (s.size : Int) ≤ n := by omega
    go_enter Tryd.func57, Tryd.ntmps57
    go_wp2_with (go_at_call 75; refine (bound_any _ _ _).mono ?_; rintro e w1 ⟨x, rfl, hx, hb⟩)
    go_returns
    exact at_bad rfl hx (fun _ => by simp <;> omega) hb
set_option maxHeartbeats 1000000 in
theorem ixp_uint32 (p : Nat) (s : ByteArray) (hl : s.size ≤ 2000) (n : Int) (h1 : 0 ≤ n) (h2 : n ≤ 4294967295) (w : World) (hc : w.cell? ⟨p, 0, none⟩ = some (.string s)) : Calls Tryd.prog 57 #[(.pointer (some ⟨p, 0, none⟩)), .iface 77 (.int .u32 n)] w (AtPost true (decide (0 ≤ n) && decide (n < (s.size : Int))) n w) := by
  have hn : ¬ n < 0 := by omega
  have hw : IntKind.u64.wrap n = n := IntWalk.u64_in _ ⟨by omega, by omega⟩
  have hw2 : IntKind.i64.wrap n = n := IntWalk.i64_in _ ⟨by omega, by omega⟩
  have hLi32 : IntKind.i32.wrap (s.size : Int) = (s.size : Int) := IntWalk.i32_in _ ⟨by omega, by omega⟩
  have hLu32 : IntKind.u32.wrap (s.size : Int) = (s.size : Int) := IntWalk.u32_in _ ⟨by omega, by omega⟩
  have hLu64 : IntKind.u64.wrap (s.size : Int) = (s.size : Int) := IntWalk.u64_in _ ⟨by omega, by omega⟩
  have hLi64 : IntKind.i64.wrap (s.size : Int) = (s.size : Int) := IntWalk.i64_in _ ⟨by omega, by omega⟩
  have H1 := Lib.hid h1
  have H2 := Lib.hid h2
  have HN := Lib.hid hn
  clear h1 h2 hl
  by_cases hb0 : n < (s.size : Int)
  · have hb1 : ¬ (s.size : Int) ≤ n := by omega
    go_enter Tryd.func57, Tryd.ntmps57
    go_wp2
    go_returns
    exact at_good rfl (fun _ => ⟨by have := HN.out; simp <;> omega, rfl⟩) (Below.refl _ _)
  · have hb1 : (s.size : Int) ≤ n := by omega
    go_enter Tryd.func57, Tryd.ntmps57
    go_wp2_with (go_at_call 75; refine (bound_any _ _ _).mono ?_; rintro e w1 ⟨x, rfl, hx, hb⟩)
    go_returns
    exact at_bad rfl hx (fun _ => by simp <;> omega) hb
set_option maxHeartbeats 1000000 in
theorem ixp_uint64 (p : Nat) (s : ByteArray) (hl : s.size ≤ 2000) (n : Int) (h1 : 0 ≤ n) (h2 : n ≤ 18446744073709551615) (w : World) (hc : w.cell? ⟨p, 0, none⟩ = some (.string s)) : Calls Tryd.prog 57 #[(.pointer (some ⟨p, 0, none⟩)), .iface 22 (.int .u64 n)] w (AtPost true (decide (0 ≤ n) && decide (n < (s.size : Int))) n w) := by
  have hn : ¬ n < 0 := by omega
  have hLi32 : IntKind.i32.wrap (s.size : Int) = (s.size : Int) := IntWalk.i32_in _ ⟨by omega, by omega⟩
  have hLu32 : IntKind.u32.wrap (s.size : Int) = (s.size : Int) := IntWalk.u32_in _ ⟨by omega, by omega⟩
  have hLu64 : IntKind.u64.wrap (s.size : Int) = (s.size : Int) := IntWalk.u64_in _ ⟨by omega, by omega⟩
  have hLi64 : IntKind.i64.wrap (s.size : Int) = (s.size : Int) := IntWalk.i64_in _ ⟨by omega, by omega⟩
  have H1 := Lib.hid h1
  have H2 := Lib.hid h2
  have HN := Lib.hid hn
  clear h1 h2 hl
  by_cases hb0 : n < (s.size : Int)
  · have hb1 : ¬ (s.size : Int) ≤ n := by omega
    go_enter Tryd.func57, Tryd.ntmps57
    go_wp2
    go_returns
    exact at_good rfl (fun _ => ⟨by have := HN.out; simp <;> omega, rfl⟩) (Below.refl _ _)
  · have hb1 : (s.size : Int) ≤ n := by omega
    go_enter Tryd.func57, Tryd.ntmps57
    go_wp2_with (go_at_call 75; refine (bound_any _ _ _).mono ?_; rintro e w1 ⟨x, rfl, hx, hb⟩)
    go_returns
    exact at_bad rfl hx (fun _ => by simp <;> omega) hb
set_option maxHeartbeats 1000000 in
theorem ixp_idealInt (p : Nat) (s : ByteArray) (hl : s.size ≤ 2000) (n : Int) (h1 : -9223372036854775808 ≤ n) (h2 : n ≤ 9223372036854775807) (w : World) (hc : w.cell? ⟨p, 0, none⟩ = some (.string s)) : Calls Tryd.prog 57 #[(.pointer (some ⟨p, 0, none⟩)), .iface 88 (.int .i64 n)] w (AtPost true (decide (0 ≤ n) && decide (n < (s.size : Int))) n w) := by
  by_cases hn : n < 0
  · clear h1 h2 hl
    go_enter Tryd.func57, Tryd.ntmps57
    go_wp2_with (go_at_call 74; refine (negx_any _ _).mono ?_; rintro e w1 ⟨x, rfl, hx, hb⟩)
    go_returns
    exact at_bad rfl hx (fun _ => by simp <;> omega) hb
  · have hw : IntKind.u64.wrap n = n := IntWalk.u64_in _ ⟨by omega, by omega⟩
    have hLi32 : IntKind.i32.wrap (s.size : Int) = (s.size : Int) := IntWalk.i32_in _ ⟨by omega, by omega⟩
    have hLu32 : IntKind.u32.wrap (s.size : Int) = (s.size : Int) := IntWalk.u32_in _ ⟨by omega, by omega⟩
    have hLu64 : IntKind.u64.wrap (s.size : Int) = (s.size : Int) := IntWalk.u64_in _ ⟨by omega, by omega⟩
    have hLi64 : IntKind.i64.wrap (s.size : Int) = (s.size : Int) := IntWalk.i64_in _ ⟨by omega, by omega⟩
    have H1 := Lib.hid h1
    have H2 := Lib.hid h2
    have HN := Lib.hid hn
    clear h1 h2 hl
    by_cases hb0 : n < (s.size : Int)
    · have hb1 : ¬ (s.size : Int) ≤ n := by omega
      go_enter Tryd.func57, Tryd.ntmps57
      go_wp2
      go_returns
      exact at_good rfl (fun _ => ⟨by have := HN.out; simp <;> omega, rfl⟩) (Below.refl _ _)
    · have hb1 : (s.size : Int) ≤ n := by omega
      go_enter Tryd.func57, Tryd.ntmps57
      go_wp2_with (go_at_call 75; refine (bound_any _ _ _).mono ?_; rintro e w1 ⟨x, rfl, hx, hb⟩)
      go_returns
      exact at_bad rfl hx (fun _ => by simp <;> omega) hb
set_option maxHeartbeats 1000000 in
theorem ixp_idealRune (p : Nat) (s : ByteArray) (hl : s.size ≤ 2000) (n : Int) (h1 : -2147483648 ≤ n) (h2 : n ≤ 2147483647) (w : World) (hc : w.cell? ⟨p, 0, none⟩ = some (.string s)) : Calls Tryd.prog 57 #[(.pointer (some ⟨p, 0, none⟩)), .iface 90 (.int .i32 n)] w (AtPost true (decide (0 ≤ n) && decide (n < (s.size : Int))) n w) := by
  by_cases hn : n < 0
  · clear h1 h2 hl
    go_enter Tryd.func57, Tryd.ntmps57
    go_wp2_with (go_at_call 74; refine (negx_any _ _).mono ?_; rintro e w1 ⟨x, rfl, hx, hb⟩)
    go_returns
    exact at_bad rfl hx (fun _ => by simp <;> omega) hb
  · have hw : IntKind.u64.wrap n = n := IntWalk.u64_in _ ⟨by omega, by omega⟩
    have hw2 : IntKind.i64.wrap n = n := IntWalk.i64_in _ ⟨by omega, by omega⟩
    have hLi32 : IntKind.i32.wrap (s.size : Int) = (s.size : Int) := IntWalk.i32_in _ ⟨by omega, by omega⟩
    have hLu32 : IntKind.u32.wrap (s.size : Int) = (s.size : Int) := IntWalk.u32_in _ ⟨by omega, by omega⟩
    have hLu64 : IntKind.u64.wrap (s.size : Int) = (s.size : Int) := IntWalk.u64_in _ ⟨by omega, by omega⟩
    have hLi64 : IntKind.i64.wrap (s.size : Int) = (s.size : Int) := IntWalk.i64_in _ ⟨by omega, by omega⟩
    have H1 := Lib.hid h1
    have H2 := Lib.hid h2
    have HN := Lib.hid hn
    clear h1 h2 hl
    by_cases hb0 : n < (s.size : Int)
    · have hb1 : ¬ (s.size : Int) ≤ n := by omega
      go_enter Tryd.func57, Tryd.ntmps57
      go_wp2
      go_returns
      exact at_good rfl (fun _ => ⟨by have := HN.out; simp <;> omega, rfl⟩) (Below.refl _ _)
    · have hb1 : (s.size : Int) ≤ n := by omega
      go_enter Tryd.func57, Tryd.ntmps57
      go_wp2_with (go_at_call 75; refine (bound_any _ _ _).mono ?_; rintro e w1 ⟨x, rfl, hx, hb⟩)
      go_returns
      exact at_bad rfl hx (fun _ => by simp <;> omega) hb
set_option maxHeartbeats 1000000 in
theorem ixp_idealUint (p : Nat) (s : ByteArray) (hl : s.size ≤ 2000) (n : Int) (h1 : 0 ≤ n) (h2 : n ≤ 18446744073709551615) (w : World) (hc : w.cell? ⟨p, 0, none⟩ = some (.string s)) : Calls Tryd.prog 57 #[(.pointer (some ⟨p, 0, none⟩)), .iface 91 (.int .u64 n)] w (AtPost true (decide (0 ≤ n) && decide (n < (s.size : Int))) n w) := by
  have hn : ¬ n < 0 := by omega
  have hLi32 : IntKind.i32.wrap (s.size : Int) = (s.size : Int) := IntWalk.i32_in _ ⟨by omega, by omega⟩
  have hLu32 : IntKind.u32.wrap (s.size : Int) = (s.size : Int) := IntWalk.u32_in _ ⟨by omega, by omega⟩
  have hLu64 : IntKind.u64.wrap (s.size : Int) = (s.size : Int) := IntWalk.u64_in _ ⟨by omega, by omega⟩
  have hLi64 : IntKind.i64.wrap (s.size : Int) = (s.size : Int) := IntWalk.i64_in _ ⟨by omega, by omega⟩
  have H1 := Lib.hid h1
  have H2 := Lib.hid h2
  have HN := Lib.hid hn
  clear h1 h2 hl
  by_cases hb0 : n < (s.size : Int)
  · have hb1 : ¬ (s.size : Int) ≤ n := by omega
    go_enter Tryd.func57, Tryd.ntmps57
    go_wp2
    go_returns
    exact at_good rfl (fun _ => ⟨by have := HN.out; simp <;> omega, rfl⟩) (Below.refl _ _)
  · have hb1 : (s.size : Int) ≤ n := by omega
    go_enter Tryd.func57, Tryd.ntmps57
    go_wp2_with (go_at_call 75; refine (bound_any _ _ _).mono ?_; rintro e w1 ⟨x, rfl, hx, hb⟩)
    go_returns
    exact at_bad rfl hx (fun _ => by simp <;> omega) hb
set_option maxHeartbeats 1000000 in
theorem ixp_idealFloat (p : Nat) (s : ByteArray) (hl : s.size ≤ 2000) (d : Nat) (w : World) (hc : w.cell? ⟨p, 0, none⟩ = some (.string s)) : Calls Tryd.prog 57 #[(.pointer (some ⟨p, 0, none⟩)), .iface 93 (.float .f64 d)] w (AtPost false false 0 w) := by
  have hk1 := fun W => run_cut 93 3 .i64 d rfl rfl W
  have hk2 := fun W => run_cut 93 22 .u64 d rfl rfl W
  cases hx : (FloatKind.f64.format.order d 0 == some Ordering.lt) with
  | true =>
    go_enter Tryd.func57, Tryd.ntmps57
    go_wp2_with (go_at_call 74; refine (negx_any _ _).mono ?_; rintro e w1 ⟨x, rfl, hx, hb⟩)
    go_returns
    exact at_bad rfl hx (fun h => nomatch h) hb
  | false =>
    by_cases hb0 : (s.size : Int) ≤ cutN d .i64 w
    · go_enter Tryd.func57, Tryd.ntmps57
      go_wp2_with (go_at_call 75; refine (bound_any _ _ _).mono ?_; rintro e w1 ⟨x, rfl, hx, hb⟩)
      go_returns
      have q : Below w.heap.size w (cutW d .u64 (cutW d .i64 w)) := cutW_below _ _ (cutW_below _ _ (Below.refl _ _))
      exact at_bad rfl hx (fun h => nomatch h) (q.trans (hb.mono q.size))
    · go_enter Tryd.func57, Tryd.ntmps57
      go_wp2
      go_returns
      exact at_good rfl (fun h => nomatch h) (cutW_below _ _ (cutW_below _ _ (Below.refl _ _)))
set_option maxHeartbeats 1000000 in
theorem ixp_null (p : Nat) (s : ByteArray) (hl : s.size ≤ 2000) (w : World) (hc : w.cell? ⟨p, 0, none⟩ = some (.string s)) : Calls Tryd.prog 57 #[(.pointer (some ⟨p, 0, none⟩)), .nilIface] w (AtPost true false 0 w) := by
  go_enter Tryd.func57, Tryd.ntmps57
  go_wp2_with (go_at_call 69; refine (new_any _ _).mono ?_; rintro e w1 ⟨x, rfl, hx, hb⟩)
  go_returns
  exact at_bad rfl hx (fun _ => rfl) hb
set_option maxHeartbeats 1000000 in
theorem ixp_bool (p : Nat) (s : ByteArray) (hl : s.size ≤ 2000) (b : Bool) (w : World) (hc : w.cell? ⟨p, 0, none⟩ = some (.string s)) : Calls Tryd.prog 57 #[(.pointer (some ⟨p, 0, none⟩)), .iface 4 (.bool b)] w (AtPost true false 0 w) := by
  go_enter Tryd.func57, Tryd.ntmps57
  go_wp2_with (go_at_call 69; refine (new_any _ _).mono ?_; rintro e w1 ⟨x, rfl, hx, hb⟩)
  go_returns
  exact at_bad rfl hx (fun _ => rfl) hb
set_option maxHeartbeats 1000000 in
theorem ixp_float32 (p : Nat) (s : ByteArray) (hl : s.size ≤ 2000) (d : Nat) (w : World) (hc : w.cell? ⟨p, 0, none⟩ = some (.string s)) : Calls Tryd.prog 57 #[(.pointer (some ⟨p, 0, none⟩)), .iface 68 (.float .f32 d)] w (AtPost true false 0 w) := by
  go_enter Tryd.func57, Tryd.ntmps57
  go_wp2_with (go_at_call 69; refine (new_any _ _).mono ?_; rintro e w1 ⟨x, rfl, hx, hb⟩)
  go_returns
  exact at_bad rfl hx (fun _ => rfl) hb
set_option maxHeartbeats 1000000 in
theorem ixp_float64 (p : Nat) (s : ByteArray) (hl : s.size ≤ 2000) (d : Nat) (w : World) (hc : w.cell? ⟨p, 0, none⟩ = some (.string s)) : Calls Tryd.prog 57 #[(.pointer (some ⟨p, 0, none⟩)), .iface 23 (.float .f64 d)] w (AtPost true false 0 w) := by
  go_enter Tryd.func57, Tryd.ntmps57
  go_wp2_with (go_at_call 69; refine (new_any _ _).mono ?_; rintro e w1 ⟨x, rfl, hx, hb⟩)
  go_returns
  exact at_bad rfl hx (fun _ => rfl) hb
set_option maxHeartbeats 1000000 in
theorem ixp_string (p : Nat) (s : ByteArray) (hl : s.size ≤ 2000) (q : ByteArray) (w : World) (hc : w.cell? ⟨p, 0, none⟩ = some (.string s)) : Calls Tryd.prog 57 #[(.pointer (some ⟨p, 0, none⟩)), .iface 9 (.string q)] w (AtPost true false 0 w) := by
  go_enter Tryd.func57, Tryd.ntmps57
  go_wp2_with (go_at_call 69; refine (new_any _ _).mono ?_; rintro e w1 ⟨x, rfl, hx, hb⟩)
  go_returns
  exact at_bad rfl hx (fun _ => rfl) hb
set_option maxHeartbeats 1000000 in
theorem ixp_blob (p : Nat) (s : ByteArray) (hl : s.size ≤ 2000) (a : Option Addr) (n c : Nat) (w : World) (hc : w.cell? ⟨p, 0, none⟩ = some (.string s)) : Calls Tryd.prog 57 #[(.pointer (some ⟨p, 0, none⟩)), .iface 78 (.slice a n c)] w (AtPost true false 0 w) := by
  go_enter Tryd.func57, Tryd.ntmps57
  go_wp2_with (go_at_call 69; refine (new_any _ _).mono ?_; rintro e w1 ⟨x, rfl, hx, hb⟩)
  go_returns
  exact at_bad rfl hx (fun _ => rfl) hb
theorem ixp_any (v : V) (hv : v.ok) (p : Nat) (s : ByteArray) (hl : s.size ≤ 2000) (x : Value) (w : World) (hx : v.box w x) (hc : w.cell? ⟨p, 0, none⟩ = some (.string s)) : Calls Tryd.prog 57 #[(.pointer (some ⟨p, 0, none⟩)), x] w (AtPost v.said (v.fits true s) v.num w) := by
  have mv : ∀ {g : Bool}, g = false → Calls Tryd.prog 57 #[(.pointer (some ⟨p, 0, none⟩)), x] w (AtPost true false 0 w) → Calls Tryd.prog 57 #[(.pointer (some ⟨p, 0, none⟩)), x] w (AtPost true g v.num w) := fun hg h => hg ▸ h.mono fun e w' h => h.moved
  have us : Calls Tryd.prog 57 #[(.pointer (some ⟨p, 0, none⟩)), x] w (AtPost true false 0 w) → Calls Tryd.prog 57 #[(.pointer (some ⟨p, 0, none⟩)), x] w (AtPost false (v.fits true s) v.num w) := fun h => h.mono fun e w' h => h.unsaid
  have us' : Calls Tryd.prog 57 #[(.pointer (some ⟨p, 0, none⟩)), x] w (AtPost false false 0 w) → Calls Tryd.prog 57 #[(.pointer (some ⟨p, 0, none⟩)), x] w (AtPost false (v.fits true s) v.num w) := fun h => h.mono fun e w' h => h.unsaid
  rcases v with _ | b | ⟨k, n⟩ | ⟨k, d⟩ | q | q | n | n | n | d
  · obtain rfl := hx; exact us (ixp_null p s hl w hc)
  · obtain rfl := hx; exact mv rfl (ixp_bool p s hl b w hc)
  · cases k
    · obtain rfl := hx; have := ixp_int8 p s hl n hv.1 hv.2 w hc; simpa [V.said, V.fits, V.whole, V.num, V.N, V.U] using this
    · obtain rfl := hx; have := ixp_int16 p s hl n hv.1 hv.2 w hc; simpa [V.said, V.fits, V.whole, V.num, V.N, V.U] using this
    · obtain rfl := hx; have := ixp_int32 p s hl n hv.1 hv.2 w hc; simpa [V.said, V.fits, V.whole, V.num, V.N, V.U] using this
    · obtain rfl := hx; have := ixp_int64 p s hl n hv.1 hv.2 w hc; simpa [V.said, V.fits, V.whole, V.num, V.N, V.U] using this
    · obtain rfl := hx; have := ixp_uint8 p s hl n hv.1 hv.2 w hc; simpa [V.said, V.fits, V.whole, V.num, V.N, V.U] using this
    · obtain rfl := hx; have := ixp_uint16 p s hl n hv.1 hv.2 w hc; simpa [V.said, V.fits, V.whole, V.num, V.N, V.U] using this
    · obtain rfl := hx; have := ixp_uint32 p s hl n hv.1 hv.2 w hc; simpa [V.said, V.fits, V.whole, V.num, V.N, V.U] using this
    · obtain rfl := hx; have := ixp_uint64 p s hl n hv.1 hv.2 w hc; simpa [V.said, V.fits, V.whole, V.num, V.N, V.U] using this
  · cases k
    · obtain ⟨r, rfl, _⟩ := hx; exact mv rfl (ixp_float32 p s hl r w hc)
    · obtain rfl := hx; exact mv rfl (ixp_float64 p s hl d w hc)
  · obtain rfl := hx; exact mv rfl (ixp_string p s hl q w hc)
  · obtain ⟨b, c, rfl, _⟩ := hx; exact mv rfl (ixp_blob p s hl _ _ _ w hc)
  · obtain rfl := hx; have := ixp_idealInt p s hl n hv.1 hv.2 w hc; simpa [V.said, V.fits, V.whole, V.num, V.N, V.U] using this
  · obtain rfl := hx; have := ixp_idealRune p s hl n hv.1 hv.2 w hc; simpa [V.said, V.fits, V.whole, V.num, V.N, V.U] using this
  · obtain rfl := hx; have := ixp_idealUint p s hl n hv.1 hv.2 w hc; simpa [V.said, V.fits, V.whole, V.num, V.N, V.U] using this
  · obtain rfl := hx; exact us' (ixp_idealFloat p s hl d w hc)
end Go.Proofs.YtpkgngpmnapdoaaDoor
