/- typeCheck of a literal (idealFloat) in one column, of each type. -/
import Derived.Test.YtdhnhgcdajlpjaaDoorTc0
namespace Go.Proofs.YtdhnhgcdajlpjaaDoor
open Go.RowKit
set_option linter.unusedVariables false
set_option linter.unusedSimpArgs false
set_option maxRecDepth 100000
attribute [local go_sem] store_flt
attribute [local go_sem] ta4 tn4 ta63 tn63 ta64 tn64 ta21 tn21 ta2 tn2 ta5 tn5 ta65 tn65 ta66 tn66 ta22 tn22 ta3 tn3 ta41 tn41 ta42 tn42 ta23 tn23 ta9 tn9 ta67 tn67 ta91 tn91 ta92 tn92 ta93 tn93 ta87 tn87 ta81 tn81
attribute [local go_sem] tb91 tb92 tb93 tb87 cutW_cell cutW_frozen oneW_cell oneW_frozen flrW_cell flrW_frozen
set_option maxHeartbeats 4000000 in
theorem tc_idealFloat_bool (d : Nat) (rb cb kb : Nat) (w : World) (hrb : rb < w.heap.size) (hrc : w.cell? ⟨rb, 0, none⟩ = some (.iface 87 (.float .f64 d))) (hrf : w.frozen? ⟨rb, 0, none⟩ = false) (hcc : w.cell? ⟨cb, 0, none⟩ = some (.pointer (some ⟨kb, 0, none⟩))) (hki : w.cell? ⟨kb, 0, none⟩ = some (.int .i64 0)) (hkt : w.cell? ⟨kb, 2, none⟩ = some (.int .i64 98)) : Calls Tryd.prog 34 #[.slice (some ⟨rb, 0, none⟩) 1 1, .slice (some ⟨cb, 0, none⟩) 1 1] w (TcPost ⟨#[98, 111, 111, 108]⟩ rb w) := by
  go_enter Tryd.func34, Tryd.ntmps34
  go_wp2_with fail
  refine wp_loop_rounds 2 ?_
  rw [rounds_succ]
  go_wp2_with (first | (go_at_call 55; refine (cc_idealFloat _ _ _ _ hkt).mono ?_; rintro e w ⟨rfl, rfl⟩) | (go_at_call 56; refine (floor_any _ _).mono ?_; rintro e w' ⟨rfl, rfl⟩) | (go_at_call 57; refine (trunc_any _ _).mono ?_; rintro e w1 ⟨y, rfl, hy, hb⟩) | (go_at_call 58; refine (over_any _ _ _).mono ?_; rintro e w1 ⟨y, rfl, hy, hb⟩) | (go_at_call 59; refine (new_any _ _).mono ?_; rintro e w1 ⟨y, rfl, hy, hb⟩))
  all_goals first
    | (go_ret; exact tc_err rfl hy ((hb.cell (p := ⟨rb, 0, none⟩) hrb).trans hrc) (low_below hb (Nat.le_of_lt hrb)))
set_option maxHeartbeats 4000000 in
theorem tc_idealFloat_int8 (d : Nat) (rb cb kb : Nat) (w : World) (hrb : rb < w.heap.size) (hrc : w.cell? ⟨rb, 0, none⟩ = some (.iface 87 (.float .f64 d))) (hrf : w.frozen? ⟨rb, 0, none⟩ = false) (hcc : w.cell? ⟨cb, 0, none⟩ = some (.pointer (some ⟨kb, 0, none⟩))) (hki : w.cell? ⟨kb, 0, none⟩ = some (.int .i64 0)) (hkt : w.cell? ⟨kb, 2, none⟩ = some (.int .i64 105)) : Calls Tryd.prog 34 #[.slice (some ⟨rb, 0, none⟩) 1 1, .slice (some ⟨cb, 0, none⟩) 1 1] w (TcPost ⟨#[105, 110, 116, 56]⟩ rb w) := by
  have hcut := fun W => run_cut 23 63 .i8 d rfl rfl W
  go_enter Tryd.func34, Tryd.ntmps34
  go_wp2_with fail
  refine wp_loop_rounds 2 ?_
  rw [rounds_succ]
  go_wp2_with (first | (go_at_call 55; refine (cc_idealFloat _ _ _ _ hkt).mono ?_; rintro e w ⟨rfl, rfl⟩) | (go_at_call 56; refine (floor_any _ _).mono ?_; rintro e w' ⟨rfl, rfl⟩) | (go_at_call 57; refine (trunc_any _ _).mono ?_; rintro e w1 ⟨y, rfl, hy, hb⟩) | (go_at_call 58; refine (over_any _ _ _).mono ?_; rintro e w1 ⟨y, rfl, hy, hb⟩) | (go_at_call 59; refine (new_any _ _).mono ?_; rintro e w1 ⟨y, rfl, hy, hb⟩))
  all_goals first
    | (go_ret; exact tc_err rfl hy ((hb.cell (p := ⟨rb, 0, none⟩) hrb).trans hrc) (low_below hb (Nat.le_of_lt hrb)))
    | (go_ret; exact tc_err rfl hy ((hb.cell (p := ⟨rb, 0, none⟩) (Nat.lt_of_lt_of_le hrb (flrW_below d (Below.refl 0 w)).size)).trans ((flrW_cell d w _).trans hrc)) (low_below ((flrW_below d (Below.refl _ w)).trans (hb.mono (flrW_below d (Below.refl 0 w)).size)) (Nat.le_of_lt hrb)))
    | (rw [rounds_succ]; go_wp2; go_ret; exact tc_ok (u := (.int .i8 (cutN d .i8 (flrW d w)))) rfl (cut_ok _ _ _) rfl rfl (by simp [go_sem, hrc, hrf, cutW_cell, oneW_cell, flrW_cell]) (by repeat (first | exact Below.refl _ _ | refine Below.setCell ?_ (Nat.le_refl rb) _ | refine cutW_below _ _ ?_ | refine oneW_below _ ?_ | refine flrW_below _ ?_)))
set_option maxHeartbeats 4000000 in
theorem tc_idealFloat_int16 (d : Nat) (rb cb kb : Nat) (w : World) (hrb : rb < w.heap.size) (hrc : w.cell? ⟨rb, 0, none⟩ = some (.iface 87 (.float .f64 d))) (hrf : w.frozen? ⟨rb, 0, none⟩ = false) (hcc : w.cell? ⟨cb, 0, none⟩ = some (.pointer (some ⟨kb, 0, none⟩))) (hki : w.cell? ⟨kb, 0, none⟩ = some (.int .i64 0)) (hkt : w.cell? ⟨kb, 2, none⟩ = some (.int .i64 106)) : Calls Tryd.prog 34 #[.slice (some ⟨rb, 0, none⟩) 1 1, .slice (some ⟨cb, 0, none⟩) 1 1] w (TcPost ⟨#[105, 110, 116, 49, 54]⟩ rb w) := by
  have hcut := fun W => run_cut 23 64 .i16 d rfl rfl W
  go_enter Tryd.func34, Tryd.ntmps34
  go_wp2_with fail
  refine wp_loop_rounds 2 ?_
  rw [rounds_succ]
  go_wp2_with (first | (go_at_call 55; refine (cc_idealFloat _ _ _ _ hkt).mono ?_; rintro e w ⟨rfl, rfl⟩) | (go_at_call 56; refine (floor_any _ _).mono ?_; rintro e w' ⟨rfl, rfl⟩) | (go_at_call 57; refine (trunc_any _ _).mono ?_; rintro e w1 ⟨y, rfl, hy, hb⟩) | (go_at_call 58; refine (over_any _ _ _).mono ?_; rintro e w1 ⟨y, rfl, hy, hb⟩) | (go_at_call 59; refine (new_any _ _).mono ?_; rintro e w1 ⟨y, rfl, hy, hb⟩))
  all_goals first
    | (go_ret; exact tc_err rfl hy ((hb.cell (p := ⟨rb, 0, none⟩) hrb).trans hrc) (low_below hb (Nat.le_of_lt hrb)))
    | (go_ret; exact tc_err rfl hy ((hb.cell (p := ⟨rb, 0, none⟩) (Nat.lt_of_lt_of_le hrb (flrW_below d (Below.refl 0 w)).size)).trans ((flrW_cell d w _).trans hrc)) (low_below ((flrW_below d (Below.refl _ w)).trans (hb.mono (flrW_below d (Below.refl 0 w)).size)) (Nat.le_of_lt hrb)))
    | (rw [rounds_succ]; go_wp2; go_ret; exact tc_ok (u := (.int .i16 (cutN d .i16 (flrW d w)))) rfl (cut_ok _ _ _) rfl rfl (by simp [go_sem, hrc, hrf, cutW_cell, oneW_cell, flrW_cell]) (by repeat (first | exact Below.refl _ _ | refine Below.setCell ?_ (Nat.le_refl rb) _ | refine cutW_below _ _ ?_ | refine oneW_below _ ?_ | refine flrW_below _ ?_)))
set_option maxHeartbeats 4000000 in
theorem tc_idealFloat_int32 (d : Nat) (rb cb kb : Nat) (w : World) (hrb : rb < w.heap.size) (hrc : w.cell? ⟨rb, 0, none⟩ = some (.iface 87 (.float .f64 d))) (hrf : w.frozen? ⟨rb, 0, none⟩ = false) (hcc : w.cell? ⟨cb, 0, none⟩ = some (.pointer (some ⟨kb, 0, none⟩))) (hki : w.cell? ⟨kb, 0, none⟩ = some (.int .i64 0)) (hkt : w.cell? ⟨kb, 2, none⟩ = some (.int .i64 107)) : Calls Tryd.prog 34 #[.slice (some ⟨rb, 0, none⟩) 1 1, .slice (some ⟨cb, 0, none⟩) 1 1] w (TcPost ⟨#[105, 110, 116, 51, 50]⟩ rb w) := by
  have hcut := fun W => run_cut 23 21 .i32 d rfl rfl W
  go_enter Tryd.func34, Tryd.ntmps34
  go_wp2_with fail
  refine wp_loop_rounds 2 ?_
  rw [rounds_succ]
  go_wp2_with (first | (go_at_call 55; refine (cc_idealFloat _ _ _ _ hkt).mono ?_; rintro e w ⟨rfl, rfl⟩) | (go_at_call 56; refine (floor_any _ _).mono ?_; rintro e w' ⟨rfl, rfl⟩) | (go_at_call 57; refine (trunc_any _ _).mono ?_; rintro e w1 ⟨y, rfl, hy, hb⟩) | (go_at_call 58; refine (over_any _ _ _).mono ?_; rintro e w1 ⟨y, rfl, hy, hb⟩) | (go_at_call 59; refine (new_any _ _).mono ?_; rintro e w1 ⟨y, rfl, hy, hb⟩))
  all_goals first
    | (go_ret; exact tc_err rfl hy ((hb.cell (p := ⟨rb, 0, none⟩) hrb).trans hrc) (low_below hb (Nat.le_of_lt hrb)))
    | (go_ret; exact tc_err rfl hy ((hb.cell (p := ⟨rb, 0, none⟩) (Nat.lt_of_lt_of_le hrb (flrW_below d (Below.refl 0 w)).size)).trans ((flrW_cell d w _).trans hrc)) (low_below ((flrW_below d (Below.refl _ w)).trans (hb.mono (flrW_below d (Below.refl 0 w)).size)) (Nat.le_of_lt hrb)))
    | (rw [rounds_succ]; go_wp2; go_ret; exact tc_ok (u := (.int .i32 (cutN d .i32 (flrW d w)))) rfl (cut_ok _ _ _) rfl rfl (by simp [go_sem, hrc, hrf, cutW_cell, oneW_cell, flrW_cell]) (by repeat (first | exact Below.refl _ _ | refine Below.setCell ?_ (Nat.le_refl rb) _ | refine cutW_below _ _ ?_ | refine oneW_below _ ?_ | refine flrW_below _ ?_)))
set_option maxHeartbeats 4000000 in
theorem tc_idealFloat_int64 (d : Nat) (rb cb kb : Nat) (w : World) (hrb : rb < w.heap.size) (hrc : w.cell? ⟨rb, 0, none⟩ = some (.iface 87 (.float .f64 d))) (hrf : w.frozen? ⟨rb, 0, none⟩ = false) (hcc : w.cell? ⟨cb, 0, none⟩ = some (.pointer (some ⟨kb, 0, none⟩))) (hki : w.cell? ⟨kb, 0, none⟩ = some (.int .i64 0)) (hkt : w.cell? ⟨kb, 2, none⟩ = some (.int .i64 108)) : Calls Tryd.prog 34 #[.slice (some ⟨rb, 0, none⟩) 1 1, .slice (some ⟨cb, 0, none⟩) 1 1] w (TcPost ⟨#[105, 110, 116, 54, 52]⟩ rb w) := by
  have hcut := fun W => run_cut 23 2 .i64 d rfl rfl W
  go_enter Tryd.func34, Tryd.ntmps34
  go_wp2_with fail
  refine wp_loop_rounds 2 ?_
  rw [rounds_succ]
  go_wp2_with (first | (go_at_call 55; refine (cc_idealFloat _ _ _ _ hkt).mono ?_; rintro e w ⟨rfl, rfl⟩) | (go_at_call 56; refine (floor_any _ _).mono ?_; rintro e w' ⟨rfl, rfl⟩) | (go_at_call 57; refine (trunc_any _ _).mono ?_; rintro e w1 ⟨y, rfl, hy, hb⟩) | (go_at_call 58; refine (over_any _ _ _).mono ?_; rintro e w1 ⟨y, rfl, hy, hb⟩) | (go_at_call 59; refine (new_any _ _).mono ?_; rintro e w1 ⟨y, rfl, hy, hb⟩))
  all_goals first
    | (go_ret; exact tc_err rfl hy ((hb.cell (p := ⟨rb, 0, none⟩) hrb).trans hrc) (low_below hb (Nat.le_of_lt hrb)))
    | (go_ret; exact tc_err rfl hy ((hb.cell (p := ⟨rb, 0, none⟩) (Nat.lt_of_lt_of_le hrb (flrW_below d (Below.refl 0 w)).size)).trans ((flrW_cell d w _).trans hrc)) (low_below ((flrW_below d (Below.refl _ w)).trans (hb.mono (flrW_below d (Below.refl 0 w)).size)) (Nat.le_of_lt hrb)))
    | (rw [rounds_succ]; go_wp2; go_ret; exact tc_ok (u := (.int .i64 (cutN d .i64 (flrW d w)))) rfl (cut_ok _ _ _) rfl rfl (by simp [go_sem, hrc, hrf, cutW_cell, oneW_cell, flrW_cell]) (by repeat (first | exact Below.refl _ _ | refine Below.setCell ?_ (Nat.le_refl rb) _ | refine cutW_below _ _ ?_ | refine oneW_below _ ?_ | refine flrW_below _ ?_)))
set_option maxHeartbeats 4000000 in
theorem tc_idealFloat_uint8 (d : Nat) (rb cb kb : Nat) (w : World) (hrb : rb < w.heap.size) (hrc : w.cell? ⟨rb, 0, none⟩ = some (.iface 87 (.float .f64 d))) (hrf : w.frozen? ⟨rb, 0, none⟩ = false) (hcc : w.cell? ⟨cb, 0, none⟩ = some (.pointer (some ⟨kb, 0, none⟩))) (hki : w.cell? ⟨kb, 0, none⟩ = some (.int .i64 0)) (hkt : w.cell? ⟨kb, 2, none⟩ = some (.int .i64 117)) : Calls Tryd.prog 34 #[.slice (some ⟨rb, 0, none⟩) 1 1, .slice (some ⟨cb, 0, none⟩) 1 1] w (TcPost ⟨#[117, 105, 110, 116, 56]⟩ rb w) := by
  have hcut := fun W => run_cut 23 5 .u8 d rfl rfl W
  go_enter Tryd.func34, Tryd.ntmps34
  go_wp2_with fail
  refine wp_loop_rounds 2 ?_
  rw [rounds_succ]
  go_wp2_with (first | (go_at_call 55; refine (cc_idealFloat _ _ _ _ hkt).mono ?_; rintro e w ⟨rfl, rfl⟩) | (go_at_call 56; refine (floor_any _ _).mono ?_; rintro e w' ⟨rfl, rfl⟩) | (go_at_call 57; refine (trunc_any _ _).mono ?_; rintro e w1 ⟨y, rfl, hy, hb⟩) | (go_at_call 58; refine (over_any _ _ _).mono ?_; rintro e w1 ⟨y, rfl, hy, hb⟩) | (go_at_call 59; refine (new_any _ _).mono ?_; rintro e w1 ⟨y, rfl, hy, hb⟩))
  all_goals first
    | (go_ret; exact tc_err rfl hy ((hb.cell (p := ⟨rb, 0, none⟩) hrb).trans hrc) (low_below hb (Nat.le_of_lt hrb)))
    | (go_ret; exact tc_err rfl hy ((hb.cell (p := ⟨rb, 0, none⟩) (Nat.lt_of_lt_of_le hrb (flrW_below d (Below.refl 0 w)).size)).trans ((flrW_cell d w _).trans hrc)) (low_below ((flrW_below d (Below.refl _ w)).trans (hb.mono (flrW_below d (Below.refl 0 w)).size)) (Nat.le_of_lt hrb)))
    | (rw [rounds_succ]; go_wp2; go_ret; exact tc_ok (u := (.int .u8 (cutN d .u8 (flrW d w)))) rfl (cut_ok _ _ _) rfl rfl (by simp [go_sem, hrc, hrf, cutW_cell, oneW_cell, flrW_cell]) (by repeat (first | exact Below.refl _ _ | refine Below.setCell ?_ (Nat.le_refl rb) _ | refine cutW_below _ _ ?_ | refine oneW_below _ ?_ | refine flrW_below _ ?_)))
set_option maxHeartbeats 4000000 in
theorem tc_idealFloat_uint16 (d : Nat) (rb cb kb : Nat) (w : World) (hrb : rb < w.heap.size) (hrc : w.cell? ⟨rb, 0, none⟩ = some (.iface 87 (.float .f64 d))) (hrf : w.frozen? ⟨rb, 0, none⟩ = false) (hcc : w.cell? ⟨cb, 0, none⟩ = some (.pointer (some ⟨kb, 0, none⟩))) (hki : w.cell? ⟨kb, 0, none⟩ = some (.int .i64 0)) (hkt : w.cell? ⟨kb, 2, none⟩ = some (.int .i64 118)) : Calls Tryd.prog 34 #[.slice (some ⟨rb, 0, none⟩) 1 1, .slice (some ⟨cb, 0, none⟩) 1 1] w (TcPost ⟨#[117, 105, 110, 116, 49, 54]⟩ rb w) := by
  have hcut := fun W => run_cut 23 65 .u16 d rfl rfl W
  go_enter Tryd.func34, Tryd.ntmps34
  go_wp2_with fail
  refine wp_loop_rounds 2 ?_
  rw [rounds_succ]
  go_wp2_with (first | (go_at_call 55; refine (cc_idealFloat _ _ _ _ hkt).mono ?_; rintro e w ⟨rfl, rfl⟩) | (go_at_call 56; refine (floor_any _ _).mono ?_; rintro e w' ⟨rfl, rfl⟩) | (go_at_call 57; refine (trunc_any _ _).mono ?_; rintro e w1 ⟨y, rfl, hy, hb⟩) | (go_at_call 58; refine (over_any _ _ _).mono ?_; rintro e w1 ⟨y, rfl, hy, hb⟩) | (go_at_call 59; refine (new_any _ _).mono ?_; rintro e w1 ⟨y, rfl, hy, hb⟩))
  all_goals first
    | (go_ret; exact tc_err rfl hy ((hb.cell (p := ⟨rb, 0, none⟩) hrb).trans hrc) (low_below hb (Nat.le_of_lt hrb)))
    | (go_ret; exact tc_err rfl hy ((hb.cell (p := ⟨rb, 0, none⟩) (Nat.lt_of_lt_of_le hrb (flrW_below d (Below.refl 0 w)).size)).trans ((flrW_cell d w _).trans hrc)) (low_below ((flrW_below d (Below.refl _ w)).trans (hb.mono (flrW_below d (Below.refl 0 w)).size)) (Nat.le_of_lt hrb)))
    | (rw [rounds_succ]; go_wp2; go_ret; exact tc_ok (u := (.int .u16 (cutN d .u16 (flrW d w)))) rfl (cut_ok _ _ _) rfl rfl (by simp [go_sem, hrc, hrf, cutW_cell, oneW_cell, flrW_cell]) (by repeat (first | exact Below.refl _ _ | refine Below.setCell ?_ (Nat.le_refl rb) _ | refine cutW_below _ _ ?_ | refine oneW_below _ ?_ | refine flrW_below _ ?_)))
set_option maxHeartbeats 4000000 in
theorem tc_idealFloat_uint32 (d : Nat) (rb cb kb : Nat) (w : World) (hrb : rb < w.heap.size) (hrc : w.cell? ⟨rb, 0, none⟩ = some (.iface 87 (.float .f64 d))) (hrf : w.frozen? ⟨rb, 0, none⟩ = false) (hcc : w.cell? ⟨cb, 0, none⟩ = some (.pointer (some ⟨kb, 0, none⟩))) (hki : w.cell? ⟨kb, 0, none⟩ = some (.int .i64 0)) (hkt : w.cell? ⟨kb, 2, none⟩ = some (.int .i64 119)) : Calls Tryd.prog 34 #[.slice (some ⟨rb, 0, none⟩) 1 1, .slice (some ⟨cb, 0, none⟩) 1 1] w (TcPost ⟨#[117, 105, 110, 116, 51, 50]⟩ rb w) := by
  have hcut := fun W => run_cut 23 66 .u32 d rfl rfl W
  go_enter Tryd.func34, Tryd.ntmps34
  go_wp2_with fail
  refine wp_loop_rounds 2 ?_
  rw [rounds_succ]
  go_wp2_with (first | (go_at_call 55; refine (cc_idealFloat _ _ _ _ hkt).mono ?_; rintro e w ⟨rfl, rfl⟩) | (go_at_call 56; refine (floor_any _ _).mono ?_; rintro e w' ⟨rfl, rfl⟩) | (go_at_call 57; refine (trunc_any _ _).mono ?_; rintro e w1 ⟨y, rfl, hy, hb⟩) | (go_at_call 58; refine (over_any _ _ _).mono ?_; rintro e w1 ⟨y, rfl, hy, hb⟩) | (go_at_call 59; refine (new_any _ _).mono ?_; rintro e w1 ⟨y, rfl, hy, hb⟩))
  all_goals first
    | (go_ret; exact tc_err rfl hy ((hb.cell (p := ⟨rb, 0, none⟩) hrb).trans hrc) (low_below hb (Nat.le_of_lt hrb)))
    | (go_ret; exact tc_err rfl hy ((hb.cell (p := ⟨rb, 0, none⟩) (Nat.lt_of_lt_of_le hrb (flrW_below d (Below.refl 0 w)).size)).trans ((flrW_cell d w _).trans hrc)) (low_below ((flrW_below d (Below.refl _ w)).trans (hb.mono (flrW_below d (Below.refl 0 w)).size)) (Nat.le_of_lt hrb)))
    | (rw [rounds_succ]; go_wp2; go_ret; exact tc_ok (u := (.int .u32 (cutN d .u32 (flrW d w)))) rfl (cut_ok _ _ _) rfl rfl (by simp [go_sem, hrc, hrf, cutW_cell, oneW_cell, flrW_cell]) (by repeat (first | exact Below.refl _ _ | refine Below.setCell ?_ (Nat.le_refl rb) _ | refine cutW_below _ _ ?_ | refine oneW_below _ ?_ | refine flrW_below _ ?_)))
set_option maxHeartbeats 4000000 in
theorem tc_idealFloat_uint64 (d : Nat) (rb cb kb : Nat) (w : World) (hrb : rb < w.heap.size) (hrc : w.cell? ⟨rb, 0, none⟩ = some (.iface 87 (.float .f64 d))) (hrf : w.frozen? ⟨rb, 0, none⟩ = false) (hcc : w.cell? ⟨cb, 0, none⟩ = some (.pointer (some ⟨kb, 0, none⟩))) (hki : w.cell? ⟨kb, 0, none⟩ = some (.int .i64 0)) (hkt : w.cell? ⟨kb, 2, none⟩ = some (.int .i64 120)) : Calls Tryd.prog 34 #[.slice (some ⟨rb, 0, none⟩) 1 1, .slice (some ⟨cb, 0, none⟩) 1 1] w (TcPost ⟨#[117, 105, 110, 116, 54, 52]⟩ rb w) := by
  have hcut := fun W => run_cut 23 22 .u64 d rfl rfl W
  go_enter Tryd.func34, Tryd.ntmps34
  go_wp2_with fail
  refine wp_loop_rounds 2 ?_
  rw [rounds_succ]
  go_wp2_with (first | (go_at_call 55; refine (cc_idealFloat _ _ _ _ hkt).mono ?_; rintro e w ⟨rfl, rfl⟩) | (go_at_call 56; refine (floor_any _ _).mono ?_; rintro e w' ⟨rfl, rfl⟩) | (go_at_call 57; refine (trunc_any _ _).mono ?_; rintro e w1 ⟨y, rfl, hy, hb⟩) | (go_at_call 58; refine (over_any _ _ _).mono ?_; rintro e w1 ⟨y, rfl, hy, hb⟩) | (go_at_call 59; refine (new_any _ _).mono ?_; rintro e w1 ⟨y, rfl, hy, hb⟩))
  all_goals first
    | (go_ret; exact tc_err rfl hy ((hb.cell (p := ⟨rb, 0, none⟩) hrb).trans hrc) (low_below hb (Nat.le_of_lt hrb)))
    | (go_ret; exact tc_err rfl hy ((hb.cell (p := ⟨rb, 0, none⟩) (Nat.lt_of_lt_of_le hrb (flrW_below d (Below.refl 0 w)).size)).trans ((flrW_cell d w _).trans hrc)) (low_below ((flrW_below d (Below.refl _ w)).trans (hb.mono (flrW_below d (Below.refl 0 w)).size)) (Nat.le_of_lt hrb)))
    | (rw [rounds_succ]; go_wp2; go_ret; exact tc_ok (u := (.int .u64 (cutN d .u64 (flrW d w)))) rfl (cut_ok _ _ _) rfl rfl (by simp [go_sem, hrc, hrf, cutW_cell, oneW_cell, flrW_cell]) (by repeat (first | exact Below.refl _ _ | refine Below.setCell ?_ (Nat.le_refl rb) _ | refine cutW_below _ _ ?_ | refine oneW_below _ ?_ | refine flrW_below _ ?_)))
set_option maxHeartbeats 4000000 in
theorem tc_idealFloat_float32 (d : Nat) (rb cb kb : Nat) (w : World) (hrb : rb < w.heap.size) (hrc : w.cell? ⟨rb, 0, none⟩ = some (.iface 87 (.float .f64 d))) (hrf : w.frozen? ⟨rb, 0, none⟩ = false) (hcc : w.cell? ⟨cb, 0, none⟩ = some (.pointer (some ⟨kb, 0, none⟩))) (hki : w.cell? ⟨kb, 0, none⟩ = some (.int .i64 0)) (hkt : w.cell? ⟨kb, 2, none⟩ = some (.int .i64 102)) : Calls Tryd.prog 34 #[.slice (some ⟨rb, 0, none⟩) 1 1, .slice (some ⟨cb, 0, none⟩) 1 1] w (TcPost ⟨#[102, 108, 111, 97, 116, 51, 50]⟩ rb w) := by
  have hone := fun W => run_one 23 42 d rfl rfl W
  go_enter Tryd.func34, Tryd.ntmps34
  go_wp2_with fail
  refine wp_loop_rounds 2 ?_
  rw [rounds_succ]
  go_wp2_with (first | (go_at_call 55; refine (cc_idealFloat _ _ _ _ hkt).mono ?_; rintro e w ⟨rfl, rfl⟩) | (go_at_call 56; refine (floor_any _ _).mono ?_; rintro e w' ⟨rfl, rfl⟩) | (go_at_call 57; refine (trunc_any _ _).mono ?_; rintro e w1 ⟨y, rfl, hy, hb⟩) | (go_at_call 58; refine (over_any _ _ _).mono ?_; rintro e w1 ⟨y, rfl, hy, hb⟩) | (go_at_call 59; refine (new_any _ _).mono ?_; rintro e w1 ⟨y, rfl, hy, hb⟩))
  all_goals first
    | (go_ret; exact tc_err rfl hy ((hb.cell (p := ⟨rb, 0, none⟩) hrb).trans hrc) (low_below hb (Nat.le_of_lt hrb)))
    | (rw [rounds_succ]; go_wp2; obtain ⟨d0, hd1, hd2⟩ := f32_some (oneN d w) (oneN_lt d w); go_ret; exact tc_ok (u := .flt .f32 d0) rfl hd1 rfl ⟨_, rfl, hd2⟩ (by simp [go_sem, hrc, hrf, cutW_cell, oneW_cell, flrW_cell]) (by repeat (first | exact Below.refl _ _ | refine Below.setCell ?_ (Nat.le_refl rb) _ | refine cutW_below _ _ ?_ | refine oneW_below _ ?_ | refine flrW_below _ ?_)))
set_option maxHeartbeats 4000000 in
theorem tc_idealFloat_float64 (d : Nat) (rb cb kb : Nat) (w : World) (hrb : rb < w.heap.size) (hrc : w.cell? ⟨rb, 0, none⟩ = some (.iface 87 (.float .f64 d))) (hrf : w.frozen? ⟨rb, 0, none⟩ = false) (hcc : w.cell? ⟨cb, 0, none⟩ = some (.pointer (some ⟨kb, 0, none⟩))) (hki : w.cell? ⟨kb, 0, none⟩ = some (.int .i64 0)) (hkt : w.cell? ⟨kb, 2, none⟩ = some (.int .i64 103)) : Calls Tryd.prog 34 #[.slice (some ⟨rb, 0, none⟩) 1 1, .slice (some ⟨cb, 0, none⟩) 1 1] w (TcPost ⟨#[102, 108, 111, 97, 116, 54, 52]⟩ rb w) := by
  go_enter Tryd.func34, Tryd.ntmps34
  go_wp2_with fail
  refine wp_loop_rounds 2 ?_
  rw [rounds_succ]
  go_wp2_with (first | (go_at_call 55; refine (cc_idealFloat _ _ _ _ hkt).mono ?_; rintro e w ⟨rfl, rfl⟩) | (go_at_call 56; refine (floor_any _ _).mono ?_; rintro e w' ⟨rfl, rfl⟩) | (go_at_call 57; refine (trunc_any _ _).mono ?_; rintro e w1 ⟨y, rfl, hy, hb⟩) | (go_at_call 58; refine (over_any _ _ _).mono ?_; rintro e w1 ⟨y, rfl, hy, hb⟩) | (go_at_call 59; refine (new_any _ _).mono ?_; rintro e w1 ⟨y, rfl, hy, hb⟩))
  all_goals first
    | (go_ret; exact tc_err rfl hy ((hb.cell (p := ⟨rb, 0, none⟩) hrb).trans hrc) (low_below hb (Nat.le_of_lt hrb)))
    | (rw [rounds_succ]; go_wp2; go_ret; exact tc_ok (u := (.flt .f64 d)) rfl (trivial) rfl rfl (by simp [go_sem, hrc, hrf, cutW_cell, oneW_cell, flrW_cell]) (by repeat (first | exact Below.refl _ _ | refine Below.setCell ?_ (Nat.le_refl rb) _ | refine cutW_below _ _ ?_ | refine oneW_below _ ?_ | refine flrW_below _ ?_)))
set_option maxHeartbeats 4000000 in
theorem tc_idealFloat_string (d : Nat) (rb cb kb : Nat) (w : World) (hrb : rb < w.heap.size) (hrc : w.cell? ⟨rb, 0, none⟩ = some (.iface 87 (.float .f64 d))) (hrf : w.frozen? ⟨rb, 0, none⟩ = false) (hcc : w.cell? ⟨cb, 0, none⟩ = some (.pointer (some ⟨kb, 0, none⟩))) (hki : w.cell? ⟨kb, 0, none⟩ = some (.int .i64 0)) (hkt : w.cell? ⟨kb, 2, none⟩ = some (.int .i64 115)) : Calls Tryd.prog 34 #[.slice (some ⟨rb, 0, none⟩) 1 1, .slice (some ⟨cb, 0, none⟩) 1 1] w (TcPost ⟨#[115, 116, 114, 105, 110, 103]⟩ rb w) := by
  go_enter Tryd.func34, Tryd.ntmps34
  go_wp2_with fail
  refine wp_loop_rounds 2 ?_
  rw [rounds_succ]
  go_wp2_with (first | (go_at_call 55; refine (cc_idealFloat _ _ _ _ hkt).mono ?_; rintro e w ⟨rfl, rfl⟩) | (go_at_call 56; refine (floor_any _ _).mono ?_; rintro e w' ⟨rfl, rfl⟩) | (go_at_call 57; refine (trunc_any _ _).mono ?_; rintro e w1 ⟨y, rfl, hy, hb⟩) | (go_at_call 58; refine (over_any _ _ _).mono ?_; rintro e w1 ⟨y, rfl, hy, hb⟩) | (go_at_call 59; refine (new_any _ _).mono ?_; rintro e w1 ⟨y, rfl, hy, hb⟩))
  all_goals first
    | (go_ret; exact tc_err rfl hy ((hb.cell (p := ⟨rb, 0, none⟩) hrb).trans hrc) (low_below hb (Nat.le_of_lt hrb)))
set_option maxHeartbeats 4000000 in
theorem tc_idealFloat_blob (d : Nat) (rb cb kb : Nat) (w : World) (hrb : rb < w.heap.size) (hrc : w.cell? ⟨rb, 0, none⟩ = some (.iface 87 (.float .f64 d))) (hrf : w.frozen? ⟨rb, 0, none⟩ = false) (hcc : w.cell? ⟨cb, 0, none⟩ = some (.pointer (some ⟨kb, 0, none⟩))) (hki : w.cell? ⟨kb, 0, none⟩ = some (.int .i64 0)) (hkt : w.cell? ⟨kb, 2, none⟩ = some (.int .i64 66)) : Calls Tryd.prog 34 #[.slice (some ⟨rb, 0, none⟩) 1 1, .slice (some ⟨cb, 0, none⟩) 1 1] w (TcPost ⟨#[98, 108, 111, 98]⟩ rb w) := by
  go_enter Tryd.func34, Tryd.ntmps34
  go_wp2_with fail
  refine wp_loop_rounds 2 ?_
  rw [rounds_succ]
  go_wp2_with (first | (go_at_call 55; refine (cc_idealFloat _ _ _ _ hkt).mono ?_; rintro e w ⟨rfl, rfl⟩) | (go_at_call 56; refine (floor_any _ _).mono ?_; rintro e w' ⟨rfl, rfl⟩) | (go_at_call 57; refine (trunc_any _ _).mono ?_; rintro e w1 ⟨y, rfl, hy, hb⟩) | (go_at_call 58; refine (over_any _ _ _).mono ?_; rintro e w1 ⟨y, rfl, hy, hb⟩) | (go_at_call 59; refine (new_any _ _).mono ?_; rintro e w1 ⟨y, rfl, hy, hb⟩))
  all_goals first
    | (go_ret; exact tc_err rfl hy ((hb.cell (p := ⟨rb, 0, none⟩) hrb).trans hrc) (low_below hb (Nat.le_of_lt hrb)))
end Go.Proofs.YtdhnhgcdajlpjaaDoor
