/- typeCheck of a literal (idealRune) in one column, of each type. -/
import Derived.Test.YtdhnhgcdajlpjaaDoorTc0
namespace Go.Proofs.YtdhnhgcdajlpjaaDoor
open Go.RowKit
set_option linter.unusedVariables false
set_option linter.unusedSimpArgs false
set_option maxRecDepth 100000
attribute [local go_sem] store_flt
attribute [local go_sem] ta4 tn4 ta63 tn63 ta64 tn64 ta21 tn21 ta2 tn2 ta5 tn5 ta65 tn65 ta66 tn66 ta22 tn22 ta3 tn3 ta41 tn41 ta42 tn42 ta23 tn23 ta9 tn9 ta67 tn67 ta91 tn91 ta92 tn92 ta93 tn93 ta87 tn87 ta81 tn81
attribute [local go_sem] tb91 tb92 tb93 tb87 cutW_cell cutW_frozen oneW_cell oneW_frozen flrW_cell flrW_frozen
set_option maxHeartbeats 4000000 in
theorem tc_idealRune_bool (n : Int) (h1 : -2147483648 ≤ n) (h2 : n ≤ 2147483647) (rb cb kb : Nat) (w : World) (hrb : rb < w.heap.size) (hrc : w.cell? ⟨rb, 0, none⟩ = some (.iface 92 (.int .i32 n))) (hrf : w.frozen? ⟨rb, 0, none⟩ = false) (hcc : w.cell? ⟨cb, 0, none⟩ = some (.pointer (some ⟨kb, 0, none⟩))) (hki : w.cell? ⟨kb, 0, none⟩ = some (.int .i64 0)) (hkt : w.cell? ⟨kb, 2, none⟩ = some (.int .i64 98)) : Calls Tryd.prog 34 #[.slice (some ⟨rb, 0, none⟩) 1 1, .slice (some ⟨cb, 0, none⟩) 1 1] w (TcPost ⟨#[98, 111, 111, 108]⟩ rb w) := by
  have hwr : IntKind.i64.wrap n = n := IntWalk.i64_in _ ⟨by omega, by omega⟩
  have H1 := Lib.hid h1
  have H2 := Lib.hid h2
  clear h1 h2
  go_enter Tryd.func34, Tryd.ntmps34
  go_wp2_with fail
  refine wp_loop_rounds 2 ?_
  rw [rounds_succ]
  go_wp2_with (first | (go_at_call 55; refine (cc_idealRune _ _ _ _ hkt).mono ?_; rintro e w ⟨rfl, rfl⟩) | (go_at_call 56; refine (floor_any _ _).mono ?_; rintro e w' ⟨rfl, rfl⟩) | (go_at_call 57; refine (trunc_any _ _).mono ?_; rintro e w1 ⟨y, rfl, hy, hb⟩) | (go_at_call 58; refine (over_any _ _ _).mono ?_; rintro e w1 ⟨y, rfl, hy, hb⟩) | (go_at_call 59; refine (new_any _ _).mono ?_; rintro e w1 ⟨y, rfl, hy, hb⟩))
  all_goals first
    | (go_ret; exact tc_err rfl hy ((hb.cell (p := ⟨rb, 0, none⟩) hrb).trans hrc) (low_below hb (Nat.le_of_lt hrb)))
set_option maxHeartbeats 4000000 in
theorem tc_idealRune_int8 (n : Int) (h1 : -2147483648 ≤ n) (h2 : n ≤ 2147483647) (rb cb kb : Nat) (w : World) (hrb : rb < w.heap.size) (hrc : w.cell? ⟨rb, 0, none⟩ = some (.iface 92 (.int .i32 n))) (hrf : w.frozen? ⟨rb, 0, none⟩ = false) (hcc : w.cell? ⟨cb, 0, none⟩ = some (.pointer (some ⟨kb, 0, none⟩))) (hki : w.cell? ⟨kb, 0, none⟩ = some (.int .i64 0)) (hkt : w.cell? ⟨kb, 2, none⟩ = some (.int .i64 105)) : Calls Tryd.prog 34 #[.slice (some ⟨rb, 0, none⟩) 1 1, .slice (some ⟨cb, 0, none⟩) 1 1] w (TcPost ⟨#[105, 110, 116, 56]⟩ rb w) := by
  have hwr : IntKind.i64.wrap n = n := IntWalk.i64_in _ ⟨by omega, by omega⟩
  have H1 := Lib.hid h1
  have H2 := Lib.hid h2
  clear h1 h2
  go_enter Tryd.func34, Tryd.ntmps34
  go_wp2_with fail
  refine wp_loop_rounds 2 ?_
  rw [rounds_succ]
  go_wp2_with (first | (go_at_call 55; refine (cc_idealRune _ _ _ _ hkt).mono ?_; rintro e w ⟨rfl, rfl⟩) | (go_at_call 56; refine (floor_any _ _).mono ?_; rintro e w' ⟨rfl, rfl⟩) | (go_at_call 57; refine (trunc_any _ _).mono ?_; rintro e w1 ⟨y, rfl, hy, hb⟩) | (go_at_call 58; refine (over_any _ _ _).mono ?_; rintro e w1 ⟨y, rfl, hy, hb⟩) | (go_at_call 59; refine (new_any _ _).mono ?_; rintro e w1 ⟨y, rfl, hy, hb⟩))
  all_goals first
    | (go_ret; exact tc_err rfl hy ((hb.cell (p := ⟨rb, 0, none⟩) hrb).trans hrc) (low_below hb (Nat.le_of_lt hrb)))
    | (rw [rounds_succ]; go_wp2; go_ret; exact tc_ok (u := (.int .i8 n)) rfl ⟨by have := H1.out; have := H2.out; omega, by have := H1.out; have := H2.out; omega⟩ rfl rfl (by simp [go_sem, hrc, hrf] <;> (have := H1.out; have := H2.out; first | omega | exact IntWalk.i8_in n ⟨by omega, by omega⟩ | exact IntWalk.wrap32_in n ⟨by omega, by omega⟩ | exact IntWalk.wrap64_in n ⟨by omega, by omega⟩)) (by repeat (first | exact Below.refl _ _ | refine Below.setCell ?_ (Nat.le_refl rb) _ | refine cutW_below _ _ ?_ | refine oneW_below _ ?_ | refine flrW_below _ ?_)))
    | (rw [rounds_succ]; go_wp2; go_ret; exact tc_ok (u := (.int .i8 (IntKind.i8.wrap n))) rfl (wrap_ok _ _) rfl rfl (by simp [go_sem, hrc, hrf, cutW_cell, oneW_cell, flrW_cell]) (by repeat (first | exact Below.refl _ _ | refine Below.setCell ?_ (Nat.le_refl rb) _ | refine cutW_below _ _ ?_ | refine oneW_below _ ?_ | refine flrW_below _ ?_)))
set_option maxHeartbeats 4000000 in
theorem tc_idealRune_int16 (n : Int) (h1 : -2147483648 ≤ n) (h2 : n ≤ 2147483647) (rb cb kb : Nat) (w : World) (hrb : rb < w.heap.size) (hrc : w.cell? ⟨rb, 0, none⟩ = some (.iface 92 (.int .i32 n))) (hrf : w.frozen? ⟨rb, 0, none⟩ = false) (hcc : w.cell? ⟨cb, 0, none⟩ = some (.pointer (some ⟨kb, 0, none⟩))) (hki : w.cell? ⟨kb, 0, none⟩ = some (.int .i64 0)) (hkt : w.cell? ⟨kb, 2, none⟩ = some (.int .i64 106)) : Calls Tryd.prog 34 #[.slice (some ⟨rb, 0, none⟩) 1 1, .slice (some ⟨cb, 0, none⟩) 1 1] w (TcPost ⟨#[105, 110, 116, 49, 54]⟩ rb w) := by
  have hwr : IntKind.i64.wrap n = n := IntWalk.i64_in _ ⟨by omega, by omega⟩
  have H1 := Lib.hid h1
  have H2 := Lib.hid h2
  clear h1 h2
  go_enter Tryd.func34, Tryd.ntmps34
  go_wp2_with fail
  refine wp_loop_rounds 2 ?_
  rw [rounds_succ]
  go_wp2_with (first | (go_at_call 55; refine (cc_idealRune _ _ _ _ hkt).mono ?_; rintro e w ⟨rfl, rfl⟩) | (go_at_call 56; refine (floor_any _ _).mono ?_; rintro e w' ⟨rfl, rfl⟩) | (go_at_call 57; refine (trunc_any _ _).mono ?_; rintro e w1 ⟨y, rfl, hy, hb⟩) | (go_at_call 58; refine (over_any _ _ _).mono ?_; rintro e w1 ⟨y, rfl, hy, hb⟩) | (go_at_call 59; refine (new_any _ _).mono ?_; rintro e w1 ⟨y, rfl, hy, hb⟩))
  all_goals first
    | (go_ret; exact tc_err rfl hy ((hb.cell (p := ⟨rb, 0, none⟩) hrb).trans hrc) (low_below hb (Nat.le_of_lt hrb)))
    | (rw [rounds_succ]; go_wp2; go_ret; exact tc_ok (u := (.int .i16 n)) rfl ⟨by have := H1.out; have := H2.out; omega, by have := H1.out; have := H2.out; omega⟩ rfl rfl (by simp [go_sem, hrc, hrf] <;> (have := H1.out; have := H2.out; first | omega | exact IntWalk.i16_in n ⟨by omega, by omega⟩ | exact IntWalk.wrap32_in n ⟨by omega, by omega⟩ | exact IntWalk.wrap64_in n ⟨by omega, by omega⟩)) (by repeat (first | exact Below.refl _ _ | refine Below.setCell ?_ (Nat.le_refl rb) _ | refine cutW_below _ _ ?_ | refine oneW_below _ ?_ | refine flrW_below _ ?_)))
    | (rw [rounds_succ]; go_wp2; go_ret; exact tc_ok (u := (.int .i16 (IntKind.i16.wrap n))) rfl (wrap_ok _ _) rfl rfl (by simp [go_sem, hrc, hrf, cutW_cell, oneW_cell, flrW_cell]) (by repeat (first | exact Below.refl _ _ | refine Below.setCell ?_ (Nat.le_refl rb) _ | refine cutW_below _ _ ?_ | refine oneW_below _ ?_ | refine flrW_below _ ?_)))
set_option maxHeartbeats 4000000 in
theorem tc_idealRune_int32 (n : Int) (h1 : -2147483648 ≤ n) (h2 : n ≤ 2147483647) (rb cb kb : Nat) (w : World) (hrb : rb < w.heap.size) (hrc : w.cell? ⟨rb, 0, none⟩ = some (.iface 92 (.int .i32 n))) (hrf : w.frozen? ⟨rb, 0, none⟩ = false) (hcc : w.cell? ⟨cb, 0, none⟩ = some (.pointer (some ⟨kb, 0, none⟩))) (hki : w.cell? ⟨kb, 0, none⟩ = some (.int .i64 0)) (hkt : w.cell? ⟨kb, 2, none⟩ = some (.int .i64 107)) : Calls Tryd.prog 34 #[.slice (some ⟨rb, 0, none⟩) 1 1, .slice (some ⟨cb, 0, none⟩) 1 1] w (TcPost ⟨#[105, 110, 116, 51, 50]⟩ rb w) := by
  have hwr : IntKind.i64.wrap n = n := IntWalk.i64_in _ ⟨by omega, by omega⟩
  have H1 := Lib.hid h1
  have H2 := Lib.hid h2
  clear h1 h2
  go_enter Tryd.func34, Tryd.ntmps34
  go_wp2_with fail
  refine wp_loop_rounds 2 ?_
  rw [rounds_succ]
  go_wp2_with (first | (go_at_call 55; refine (cc_idealRune _ _ _ _ hkt).mono ?_; rintro e w ⟨rfl, rfl⟩) | (go_at_call 56; refine (floor_any _ _).mono ?_; rintro e w' ⟨rfl, rfl⟩) | (go_at_call 57; refine (trunc_any _ _).mono ?_; rintro e w1 ⟨y, rfl, hy, hb⟩) | (go_at_call 58; refine (over_any _ _ _).mono ?_; rintro e w1 ⟨y, rfl, hy, hb⟩) | (go_at_call 59; refine (new_any _ _).mono ?_; rintro e w1 ⟨y, rfl, hy, hb⟩))
  all_goals first
    | (go_ret; exact tc_err rfl hy ((hb.cell (p := ⟨rb, 0, none⟩) hrb).trans hrc) (low_below hb (Nat.le_of_lt hrb)))
    | (rw [rounds_succ]; go_wp2; go_ret; exact tc_ok (u := (.int .i32 n)) rfl ⟨by have := H1.out; have := H2.out; omega, by have := H1.out; have := H2.out; omega⟩ rfl rfl (by simp [go_sem, hrc, hrf] <;> (have := H1.out; have := H2.out; first | omega | exact IntWalk.i32_in n ⟨by omega, by omega⟩ | exact IntWalk.wrap32_in n ⟨by omega, by omega⟩ | exact IntWalk.wrap64_in n ⟨by omega, by omega⟩)) (by repeat (first | exact Below.refl _ _ | refine Below.setCell ?_ (Nat.le_refl rb) _ | refine cutW_below _ _ ?_ | refine oneW_below _ ?_ | refine flrW_below _ ?_)))
    | (rw [rounds_succ]; go_wp2; go_ret; exact tc_ok (u := (.int .i32 (IntKind.i32.wrap n))) rfl (wrap_ok _ _) rfl rfl (by simp [go_sem, hrc, hrf, cutW_cell, oneW_cell, flrW_cell]) (by repeat (first | exact Below.refl _ _ | refine Below.setCell ?_ (Nat.le_refl rb) _ | refine cutW_below _ _ ?_ | refine oneW_below _ ?_ | refine flrW_below _ ?_)))
set_option maxHeartbeats 4000000 in
theorem tc_idealRune_int64 (n : Int) (h1 : -2147483648 ≤ n) (h2 : n ≤ 2147483647) (rb cb kb : Nat) (w : World) (hrb : rb < w.heap.size) (hrc : w.cell? ⟨rb, 0, none⟩ = some (.iface 92 (.int .i32 n))) (hrf : w.frozen? ⟨rb, 0, none⟩ = false) (hcc : w.cell? ⟨cb, 0, none⟩ = some (.pointer (some ⟨kb, 0, none⟩))) (hki : w.cell? ⟨kb, 0, none⟩ = some (.int .i64 0)) (hkt : w.cell? ⟨kb, 2, none⟩ = some (.int .i64 108)) : Calls Tryd.prog 34 #[.slice (some ⟨rb, 0, none⟩) 1 1, .slice (some ⟨cb, 0, none⟩) 1 1] w (TcPost ⟨#[105, 110, 116, 54, 52]⟩ rb w) := by
  have hwr : IntKind.i64.wrap n = n := IntWalk.i64_in _ ⟨by omega, by omega⟩
  have H1 := Lib.hid h1
  have H2 := Lib.hid h2
  clear h1 h2
  go_enter Tryd.func34, Tryd.ntmps34
  go_wp2_with fail
  refine wp_loop_rounds 2 ?_
  rw [rounds_succ]
  go_wp2_with (first | (go_at_call 55; refine (cc_idealRune _ _ _ _ hkt).mono ?_; rintro e w ⟨rfl, rfl⟩) | (go_at_call 56; refine (floor_any _ _).mono ?_; rintro e w' ⟨rfl, rfl⟩) | (go_at_call 57; refine (trunc_any _ _).mono ?_; rintro e w1 ⟨y, rfl, hy, hb⟩) | (go_at_call 58; refine (over_any _ _ _).mono ?_; rintro e w1 ⟨y, rfl, hy, hb⟩) | (go_at_call 59; refine (new_any _ _).mono ?_; rintro e w1 ⟨y, rfl, hy, hb⟩))
  all_goals first
    | (go_ret; exact tc_err rfl hy ((hb.cell (p := ⟨rb, 0, none⟩) hrb).trans hrc) (low_below hb (Nat.le_of_lt hrb)))
    | (rw [rounds_succ]; go_wp2; go_ret; exact tc_ok (u := (.int .i64 n)) rfl (⟨by have := H1.out; omega, by have := H2.out; omega⟩) rfl rfl (by simp [go_sem, hrc, hrf, cutW_cell, oneW_cell, flrW_cell]) (by repeat (first | exact Below.refl _ _ | refine Below.setCell ?_ (Nat.le_refl rb) _ | refine cutW_below _ _ ?_ | refine oneW_below _ ?_ | refine flrW_below _ ?_)))
set_option maxHeartbeats 4000000 in
theorem tc_idealRune_uint8 (n : Int) (h1 : -2147483648 ≤ n) (h2 : n ≤ 2147483647) (rb cb kb : Nat) (w : World) (hrb : rb < w.heap.size) (hrc : w.cell? ⟨rb, 0, none⟩ = some (.iface 92 (.int .i32 n))) (hrf : w.frozen? ⟨rb, 0, none⟩ = false) (hcc : w.cell? ⟨cb, 0, none⟩ = some (.pointer (some ⟨kb, 0, none⟩))) (hki : w.cell? ⟨kb, 0, none⟩ = some (.int .i64 0)) (hkt : w.cell? ⟨kb, 2, none⟩ = some (.int .i64 117)) : Calls Tryd.prog 34 #[.slice (some ⟨rb, 0, none⟩) 1 1, .slice (some ⟨cb, 0, none⟩) 1 1] w (TcPost ⟨#[117, 105, 110, 116, 56]⟩ rb w) := by
  have hwr : IntKind.i64.wrap n = n := IntWalk.i64_in _ ⟨by omega, by omega⟩
  have H1 := Lib.hid h1
  have H2 := Lib.hid h2
  clear h1 h2
  go_enter Tryd.func34, Tryd.ntmps34
  go_wp2_with fail
  refine wp_loop_rounds 2 ?_
  rw [rounds_succ]
  go_wp2_with (first | (go_at_call 55; refine (cc_idealRune _ _ _ _ hkt).mono ?_; rintro e w ⟨rfl, rfl⟩) | (go_at_call 56; refine (floor_any _ _).mono ?_; rintro e w' ⟨rfl, rfl⟩) | (go_at_call 57; refine (trunc_any _ _).mono ?_; rintro e w1 ⟨y, rfl, hy, hb⟩) | (go_at_call 58; refine (over_any _ _ _).mono ?_; rintro e w1 ⟨y, rfl, hy, hb⟩) | (go_at_call 59; refine (new_any _ _).mono ?_; rintro e w1 ⟨y, rfl, hy, hb⟩))
  all_goals first
    | (go_ret; exact tc_err rfl hy ((hb.cell (p := ⟨rb, 0, none⟩) hrb).trans hrc) (low_below hb (Nat.le_of_lt hrb)))
    | (rw [rounds_succ]; go_wp2; go_ret; exact tc_ok (u := (.int .u8 n)) rfl ⟨by have := H1.out; have := H2.out; omega, by have := H1.out; have := H2.out; omega⟩ rfl rfl (by simp [go_sem, hrc, hrf] <;> (have := H1.out; have := H2.out; first | omega | exact IntWalk.u8_in n ⟨by omega, by omega⟩ | exact IntWalk.wrap32_in n ⟨by omega, by omega⟩ | exact IntWalk.wrap64_in n ⟨by omega, by omega⟩)) (by repeat (first | exact Below.refl _ _ | refine Below.setCell ?_ (Nat.le_refl rb) _ | refine cutW_below _ _ ?_ | refine oneW_below _ ?_ | refine flrW_below _ ?_)))
    | (rw [rounds_succ]; go_wp2; go_ret; exact tc_ok (u := (.int .u8 (IntKind.u8.wrap n))) rfl (wrap_ok _ _) rfl rfl (by simp [go_sem, hrc, hrf, cutW_cell, oneW_cell, flrW_cell]) (by repeat (first | exact Below.refl _ _ | refine Below.setCell ?_ (Nat.le_refl rb) _ | refine cutW_below _ _ ?_ | refine oneW_below _ ?_ | refine flrW_below _ ?_)))
set_option maxHeartbeats 4000000 in
theorem tc_idealRune_uint16 (n : Int) (h1 : -2147483648 ≤ n) (h2 : n ≤ 2147483647) (rb cb kb : Nat) (w : World) (hrb : rb < w.heap.size) (hrc : w.cell? ⟨rb, 0, none⟩ = some (.iface 92 (.int .i32 n))) (hrf : w.frozen? ⟨rb, 0, none⟩ = false) (hcc : w.cell? ⟨cb, 0, none⟩ = some (.pointer (some ⟨kb, 0, none⟩))) (hki : w.cell? ⟨kb, 0, none⟩ = some (.int .i64 0)) (hkt : w.cell? ⟨kb, 2, none⟩ = some (.int .i64 118)) : Calls Tryd.prog 34 #[.slice (some ⟨rb, 0, none⟩) 1 1, .slice (some ⟨cb, 0, none⟩) 1 1] w (TcPost ⟨#[117, 105, 110, 116, 49, 54]⟩ rb w) := by
  have hwr : IntKind.i64.wrap n = n := IntWalk.i64_in _ ⟨by omega, by omega⟩
  have H1 := Lib.hid h1
  have H2 := Lib.hid h2
  clear h1 h2
  go_enter Tryd.func34, Tryd.ntmps34
  go_wp2_with fail
  refine wp_loop_rounds 2 ?_
  rw [rounds_succ]
  go_wp2_with (first | (go_at_call 55; refine (cc_idealRune _ _ _ _ hkt).mono ?_; rintro e w ⟨rfl, rfl⟩) | (go_at_call 56; refine (floor_any _ _).mono ?_; rintro e w' ⟨rfl, rfl⟩) | (go_at_call 57; refine (trunc_any _ _).mono ?_; rintro e w1 ⟨y, rfl, hy, hb⟩) | (go_at_call 58; refine (over_any _ _ _).mono ?_; rintro e w1 ⟨y, rfl, hy, hb⟩) | (go_at_call 59; refine (new_any _ _).mono ?_; rintro e w1 ⟨y, rfl, hy, hb⟩))
  all_goals first
    | (go_ret; exact tc_err rfl hy ((hb.cell (p := ⟨rb, 0, none⟩) hrb).trans hrc) (low_below hb (Nat.le_of_lt hrb)))
    | (rw [rounds_succ]; go_wp2; go_ret; exact tc_ok (u := (.int .u16 n)) rfl ⟨by have := H1.out; have := H2.out; omega, by have := H1.out; have := H2.out; omega⟩ rfl rfl (by simp [go_sem, hrc, hrf] <;> (have := H1.out; have := H2.out; first | omega | exact IntWalk.u16_in n ⟨by omega, by omega⟩ | exact IntWalk.wrap32_in n ⟨by omega, by omega⟩ | exact IntWalk.wrap64_in n ⟨by omega, by omega⟩)) (by repeat (first | exact Below.refl _ _ | refine Below.setCell ?_ (Nat.le_refl rb) _ | refine cutW_below _ _ ?_ | refine oneW_below _ ?_ | refine flrW_below _ ?_)))
    | (rw [rounds_succ]; go_wp2; go_ret; exact tc_ok (u := (.int .u16 (IntKind.u16.wrap n))) rfl (wrap_ok _ _) rfl rfl (by simp [go_sem, hrc, hrf, cutW_cell, oneW_cell, flrW_cell]) (by repeat (first | exact Below.refl _ _ | refine Below.setCell ?_ (Nat.le_refl rb) _ | refine cutW_below _ _ ?_ | refine oneW_below _ ?_ | refine flrW_below _ ?_)))
set_option maxHeartbeats 4000000 in
theorem tc_idealRune_uint32 (n : Int) (h1 : -2147483648 ≤ n) (h2 : n ≤ 2147483647) (rb cb kb : Nat) (w : World) (hrb : rb < w.heap.size) (hrc : w.cell? ⟨rb, 0, none⟩ = some (.iface 92 (.int .i32 n))) (hrf : w.frozen? ⟨rb, 0, none⟩ = false) (hcc : w.cell? ⟨cb, 0, none⟩ = some (.pointer (some ⟨kb, 0, none⟩))) (hki : w.cell? ⟨kb, 0, none⟩ = some (.int .i64 0)) (hkt : w.cell? ⟨kb, 2, none⟩ = some (.int .i64 119)) : Calls Tryd.prog 34 #[.slice (some ⟨rb, 0, none⟩) 1 1, .slice (some ⟨cb, 0, none⟩) 1 1] w (TcPost ⟨#[117, 105, 110, 116, 51, 50]⟩ rb w) := by
  have hwr : IntKind.i64.wrap n = n := IntWalk.i64_in _ ⟨by omega, by omega⟩
  have H1 := Lib.hid h1
  have H2 := Lib.hid h2
  clear h1 h2
  go_enter Tryd.func34, Tryd.ntmps34
  go_wp2_with fail
  refine wp_loop_rounds 2 ?_
  rw [rounds_succ]
  go_wp2_with (first | (go_at_call 55; refine (cc_idealRune _ _ _ _ hkt).mono ?_; rintro e w ⟨rfl, rfl⟩) | (go_at_call 56; refine (floor_any _ _).mono ?_; rintro e w' ⟨rfl, rfl⟩) | (go_at_call 57; refine (trunc_any _ _).mono ?_; rintro e w1 ⟨y, rfl, hy, hb⟩) | (go_at_call 58; refine (over_any _ _ _).mono ?_; rintro e w1 ⟨y, rfl, hy, hb⟩) | (go_at_call 59; refine (new_any _ _).mono ?_; rintro e w1 ⟨y, rfl, hy, hb⟩))
  all_goals first
    | (go_ret; exact tc_err rfl hy ((hb.cell (p := ⟨rb, 0, none⟩) hrb).trans hrc) (low_below hb (Nat.le_of_lt hrb)))
    | (rw [rounds_succ]; go_wp2; go_ret; exact tc_ok (u := (.int .u32 n)) rfl ⟨by have := H1.out; have := H2.out; omega, by have := H1.out; have := H2.out; omega⟩ rfl rfl (by simp [go_sem, hrc, hrf] <;> (have := H1.out; have := H2.out; first | omega | exact IntWalk.u32_in n ⟨by omega, by omega⟩ | exact IntWalk.wrap32_in n ⟨by omega, by omega⟩ | exact IntWalk.wrap64_in n ⟨by omega, by omega⟩)) (by repeat (first | exact Below.refl _ _ | refine Below.setCell ?_ (Nat.le_refl rb) _ | refine cutW_below _ _ ?_ | refine oneW_below _ ?_ | refine flrW_below _ ?_)))
    | (rw [rounds_succ]; go_wp2; go_ret; exact tc_ok (u := (.int .u32 (IntKind.u32.wrap n))) rfl (wrap_ok _ _) rfl rfl (by simp [go_sem, hrc, hrf, cutW_cell, oneW_cell, flrW_cell]) (by repeat (first | exact Below.refl _ _ | refine Below.setCell ?_ (Nat.le_refl rb) _ | refine cutW_below _ _ ?_ | refine oneW_below _ ?_ | refine flrW_below _ ?_)))
set_option maxHeartbeats 4000000 in
theorem tc_idealRune_uint64 (n : Int) (h1 : -2147483648 ≤ n) (h2 : n ≤ 2147483647) (rb cb kb : Nat) (w : World) (hrb : rb < w.heap.size) (hrc : w.cell? ⟨rb, 0, none⟩ = some (.iface 92 (.int .i32 n))) (hrf : w.frozen? ⟨rb, 0, none⟩ = false) (hcc : w.cell? ⟨cb, 0, none⟩ = some (.pointer (some ⟨kb, 0, none⟩))) (hki : w.cell? ⟨kb, 0, none⟩ = some (.int .i64 0)) (hkt : w.cell? ⟨kb, 2, none⟩ = some (.int .i64 120)) : Calls Tryd.prog 34 #[.slice (some ⟨rb, 0, none⟩) 1 1, .slice (some ⟨cb, 0, none⟩) 1 1] w (TcPost ⟨#[117, 105, 110, 116, 54, 52]⟩ rb w) := by
  have hwr : IntKind.i64.wrap n = n := IntWalk.i64_in _ ⟨by omega, by omega⟩
  have H1 := Lib.hid h1
  have H2 := Lib.hid h2
  clear h1 h2
  go_enter Tryd.func34, Tryd.ntmps34
  go_wp2_with fail
  refine wp_loop_rounds 2 ?_
  rw [rounds_succ]
  go_wp2_with (first | (go_at_call 55; refine (cc_idealRune _ _ _ _ hkt).mono ?_; rintro e w ⟨rfl, rfl⟩) | (go_at_call 56; refine (floor_any _ _).mono ?_; rintro e w' ⟨rfl, rfl⟩) | (go_at_call 57; refine (trunc_any _ _).mono ?_; rintro e w1 ⟨y, rfl, hy, hb⟩) | (go_at_call 58; refine (over_any _ _ _).mono ?_; rintro e w1 ⟨y, rfl, hy, hb⟩) | (go_at_call 59; refine (new_any _ _).mono ?_; rintro e w1 ⟨y, rfl, hy, hb⟩))
  all_goals first
    | (go_ret; exact tc_err rfl hy ((hb.cell (p := ⟨rb, 0, none⟩) hrb).trans hrc) (low_below hb (Nat.le_of_lt hrb)))
    | (rw [rounds_succ]; go_wp2; go_ret; exact tc_ok (u := (.int .u64 n)) rfl ⟨by have := H1.out; have := H2.out; omega, by have := H1.out; have := H2.out; omega⟩ rfl rfl (by simp [go_sem, hrc, hrf] <;> (have := H1.out; have := H2.out; first | omega | exact IntWalk.u64_in n ⟨by omega, by omega⟩ | exact IntWalk.wrap32_in n ⟨by omega, by omega⟩ | exact IntWalk.wrap64_in n ⟨by omega, by omega⟩)) (by repeat (first | exact Below.refl _ _ | refine Below.setCell ?_ (Nat.le_refl rb) _ | refine cutW_below _ _ ?_ | refine oneW_below _ ?_ | refine flrW_below _ ?_)))
    | (rw [rounds_succ]; go_wp2; go_ret; exact tc_ok (u := (.int .u64 (IntKind.u64.wrap n))) rfl (wrap_ok _ _) rfl rfl (by simp [go_sem, hrc, hrf, cutW_cell, oneW_cell, flrW_cell]) (by repeat (first | exact Below.refl _ _ | refine Below.setCell ?_ (Nat.le_refl rb) _ | refine cutW_below _ _ ?_ | refine oneW_below _ ?_ | refine flrW_below _ ?_)))
set_option maxHeartbeats 4000000 in
theorem tc_idealRune_float32 (n : Int) (h1 : -2147483648 ≤ n) (h2 : n ≤ 2147483647) (rb cb kb : Nat) (w : World) (hrb : rb < w.heap.size) (hrc : w.cell? ⟨rb, 0, none⟩ = some (.iface 92 (.int .i32 n))) (hrf : w.frozen? ⟨rb, 0, none⟩ = false) (hcc : w.cell? ⟨cb, 0, none⟩ = some (.pointer (some ⟨kb, 0, none⟩))) (hki : w.cell? ⟨kb, 0, none⟩ = some (.int .i64 0)) (hkt : w.cell? ⟨kb, 2, none⟩ = some (.int .i64 102)) : Calls Tryd.prog 34 #[.slice (some ⟨rb, 0, none⟩) 1 1, .slice (some ⟨cb, 0, none⟩) 1 1] w (TcPost ⟨#[102, 108, 111, 97, 116, 51, 50]⟩ rb w) := by
  have hwr : IntKind.i64.wrap n = n := IntWalk.i64_in _ ⟨by omega, by omega⟩
  have H1 := Lib.hid h1
  have H2 := Lib.hid h2
  clear h1 h2
  go_enter Tryd.func34, Tryd.ntmps34
  go_wp2_with fail
  refine wp_loop_rounds 2 ?_
  rw [rounds_succ]
  go_wp2_with (first | (go_at_call 55; refine (cc_idealRune _ _ _ _ hkt).mono ?_; rintro e w ⟨rfl, rfl⟩) | (go_at_call 56; refine (floor_any _ _).mono ?_; rintro e w' ⟨rfl, rfl⟩) | (go_at_call 57; refine (trunc_any _ _).mono ?_; rintro e w1 ⟨y, rfl, hy, hb⟩) | (go_at_call 58; refine (over_any _ _ _).mono ?_; rintro e w1 ⟨y, rfl, hy, hb⟩) | (go_at_call 59; refine (new_any _ _).mono ?_; rintro e w1 ⟨y, rfl, hy, hb⟩))
  all_goals first
    | (go_ret; exact tc_err rfl hy ((hb.cell (p := ⟨rb, 0, none⟩) hrb).trans hrc) (low_below hb (Nat.le_of_lt hrb)))
    | (rw [rounds_succ]; go_wp2; obtain ⟨d0, hd1, hd2⟩ := f32_some (floatOfInt .f32 n) (single_lt n); go_ret; exact tc_ok (u := .flt .f32 d0) rfl hd1 rfl ⟨_, rfl, hd2⟩ (by simp [go_sem, hrc, hrf, cutW_cell, oneW_cell, flrW_cell]) (by repeat (first | exact Below.refl _ _ | refine Below.setCell ?_ (Nat.le_refl rb) _ | refine cutW_below _ _ ?_ | refine oneW_below _ ?_ | refine flrW_below _ ?_)))
set_option maxHeartbeats 4000000 in
theorem tc_idealRune_float64 (n : Int) (h1 : -2147483648 ≤ n) (h2 : n ≤ 2147483647) (rb cb kb : Nat) (w : World) (hrb : rb < w.heap.size) (hrc : w.cell? ⟨rb, 0, none⟩ = some (.iface 92 (.int .i32 n))) (hrf : w.frozen? ⟨rb, 0, none⟩ = false) (hcc : w.cell? ⟨cb, 0, none⟩ = some (.pointer (some ⟨kb, 0, none⟩))) (hki : w.cell? ⟨kb, 0, none⟩ = some (.int .i64 0)) (hkt : w.cell? ⟨kb, 2, none⟩ = some (.int .i64 103)) : Calls Tryd.prog 34 #[.slice (some ⟨rb, 0, none⟩) 1 1, .slice (some ⟨cb, 0, none⟩) 1 1] w (TcPost ⟨#[102, 108, 111, 97, 116, 54, 52]⟩ rb w) := by
  have hwr : IntKind.i64.wrap n = n := IntWalk.i64_in _ ⟨by omega, by omega⟩
  have H1 := Lib.hid h1
  have H2 := Lib.hid h2
  clear h1 h2
  go_enter Tryd.func34, Tryd.ntmps34
  go_wp2_with fail
  refine wp_loop_rounds 2 ?_
  rw [rounds_succ]
  go_wp2_with (first | (go_at_call 55; refine (cc_idealRune _ _ _ _ hkt).mono ?_; rintro e w ⟨rfl, rfl⟩) | (go_at_call 56; refine (floor_any _ _).mono ?_; rintro e w' ⟨rfl, rfl⟩) | (go_at_call 57; refine (trunc_any _ _).mono ?_; rintro e w1 ⟨y, rfl, hy, hb⟩) | (go_at_call 58; refine (over_any _ _ _).mono ?_; rintro e w1 ⟨y, rfl, hy, hb⟩) | (go_at_call 59; refine (new_any _ _).mono ?_; rintro e w1 ⟨y, rfl, hy, hb⟩))
  all_goals first
    | (go_ret; exact tc_err rfl hy ((hb.cell (p := ⟨rb, 0, none⟩) hrb).trans hrc) (low_below hb (Nat.le_of_lt hrb)))
    | (rw [rounds_succ]; go_wp2; go_ret; exact tc_ok (u := (.flt .f64 (floatOfInt .f64 n))) rfl (trivial) rfl rfl (by simp [go_sem, hrc, hrf, cutW_cell, oneW_cell, flrW_cell]) (by repeat (first | exact Below.refl _ _ | refine Below.setCell ?_ (Nat.le_refl rb) _ | refine cutW_below _ _ ?_ | refine oneW_below _ ?_ | refine flrW_below _ ?_)))
set_option maxHeartbeats 4000000 in
theorem tc_idealRune_string (n : Int) (h1 : -2147483648 ≤ n) (h2 : n ≤ 2147483647) (rb cb kb : Nat) (w : World) (hrb : rb < w.heap.size) (hrc : w.cell? ⟨rb, 0, none⟩ = some (.iface 92 (.int .i32 n))) (hrf : w.frozen? ⟨rb, 0, none⟩ = false) (hcc : w.cell? ⟨cb, 0, none⟩ = some (.pointer (some ⟨kb, 0, none⟩))) (hki : w.cell? ⟨kb, 0, none⟩ = some (.int .i64 0)) (hkt : w.cell? ⟨kb, 2, none⟩ = some (.int .i64 115)) : Calls Tryd.prog 34 #[.slice (some ⟨rb, 0, none⟩) 1 1, .slice (some ⟨cb, 0, none⟩) 1 1] w (TcPost ⟨#[115, 116, 114, 105, 110, 103]⟩ rb w) := by
  have hwr : IntKind.i64.wrap n = n := IntWalk.i64_in _ ⟨by omega, by omega⟩
  have H1 := Lib.hid h1
  have H2 := Lib.hid h2
  clear h1 h2
  go_enter Tryd.func34, Tryd.ntmps34
  go_wp2_with fail
  refine wp_loop_rounds 2 ?_
  rw [rounds_succ]
  go_wp2_with (first | (go_at_call 55; refine (cc_idealRune _ _ _ _ hkt).mono ?_; rintro e w ⟨rfl, rfl⟩) | (go_at_call 56; refine (floor_any _ _).mono ?_; rintro e w' ⟨rfl, rfl⟩) | (go_at_call 57; refine (trunc_any _ _).mono ?_; rintro e w1 ⟨y, rfl, hy, hb⟩) | (go_at_call 58; refine (over_any _ _ _).mono ?_; rintro e w1 ⟨y, rfl, hy, hb⟩) | (go_at_call 59; refine (new_any _ _).mono ?_; rintro e w1 ⟨y, rfl, hy, hb⟩))
  all_goals first
    | (go_ret; exact tc_err rfl hy ((hb.cell (p := ⟨rb, 0, none⟩) hrb).trans hrc) (low_below hb (Nat.le_of_lt hrb)))
set_option maxHeartbeats 4000000 in
theorem tc_idealRune_blob (n : Int) (h1 : -2147483648 ≤ n) (h2 : n ≤ 2147483647) (rb cb kb : Nat) (w : World) (hrb : rb < w.heap.size) (hrc : w.cell? ⟨rb, 0, none⟩ = some (.iface 92 (.int .i32 n))) (hrf : w.frozen? ⟨rb, 0, none⟩ = false) (hcc : w.cell? ⟨cb, 0, none⟩ = some (.pointer (some ⟨kb, 0, none⟩))) (hki : w.cell? ⟨kb, 0, none⟩ = some (.int .i64 0)) (hkt : w.cell? ⟨kb, 2, none⟩ = some (.int .i64 66)) : Calls Tryd.prog 34 #[.slice (some ⟨rb, 0, none⟩) 1 1, .slice (some ⟨cb, 0, none⟩) 1 1] w (TcPost ⟨#[98, 108, 111, 98]⟩ rb w) := by
  have hwr : IntKind.i64.wrap n = n := IntWalk.i64_in _ ⟨by omega, by omega⟩
  have H1 := Lib.hid h1
  have H2 := Lib.hid h2
  clear h1 h2
  go_enter Tryd.func34, Tryd.ntmps34
  go_wp2_with fail
  refine wp_loop_rounds 2 ?_
  rw [rounds_succ]
  go_wp2_with (first | (go_at_call 55; refine (cc_idealRune _ _ _ _ hkt).mono ?_; rintro e w ⟨rfl, rfl⟩) | (go_at_call 56; refine (floor_any _ _).mono ?_; rintro e w' ⟨rfl, rfl⟩) | (go_at_call 57; refine (trunc_any _ _).mono ?_; rintro e w1 ⟨y, rfl, hy, hb⟩) | (go_at_call 58; refine (over_any _ _ _).mono ?_; rintro e w1 ⟨y, rfl, hy, hb⟩) | (go_at_call 59; refine (new_any _ _).mono ?_; rintro e w1 ⟨y, rfl, hy, hb⟩))
  all_goals first
    | (go_ret; exact tc_err rfl hy ((hb.cell (p := ⟨rb, 0, none⟩) hrb).trans hrc) (low_below hb (Nat.le_of_lt hrb)))
end Go.Proofs.YtdhnhgcdajlpjaaDoor
