/- typeCheck of a value of a type, or NULL, in one column. -/
import Derived.Test.YtdhnhgcdajlpjaaDoorTc0
namespace Go.Proofs.YtdhnhgcdajlpjaaDoor
open Go.RowKit
set_option linter.unusedVariables false
set_option linter.unusedSimpArgs false
set_option maxRecDepth 100000
attribute [local go_sem] store_flt
attribute [local go_sem] ta4 tn4 ta63 tn63 ta64 tn64 ta21 tn21 ta2 tn2 ta5 tn5 ta65 tn65 ta66 tn66 ta22 tn22 ta3 tn3 ta41 tn41 ta42 tn42 ta23 tn23 ta9 tn9 ta67 tn67 ta91 tn91 ta92 tn92 ta93 tn93 ta87 tn87 ta81 tn81
set_option maxHeartbeats 4000000 in
theorem tcy_null (t : Int) (rb cb kb : Nat) (w : World) (hrb : rb < w.heap.size) (hrc : w.cell? ⟨rb, 0, none⟩ = some (.nilIface)) (hrf : w.frozen? ⟨rb, 0, none⟩ = false) (hcc : w.cell? ⟨cb, 0, none⟩ = some (.pointer (some ⟨kb, 0, none⟩))) (hki : w.cell? ⟨kb, 0, none⟩ = some (.int .i64 0)) (hkt : w.cell? ⟨kb, 2, none⟩ = some (.int .i64 t)) : Calls Tryd.prog 34 #[.slice (some ⟨rb, 0, none⟩) 1 1, .slice (some ⟨cb, 0, none⟩) 1 1] w fun e w' => e = .returned .nilIface ∧ w' = w := by
  go_enter Tryd.func34, Tryd.ntmps34
  go_wp2_with fail
  refine wp_loop_rounds 2 ?_
  rw [rounds_succ]
  go_wp2_with (go_at_call 55; refine (cc_null _ _ _ hkt).mono ?_; rintro e w ⟨rfl, rfl⟩)
  rw [rounds_succ]
  go_wp2
  go_ret
  exact ⟨rfl, rfl⟩
set_option maxHeartbeats 4000000 in
theorem tcy_bool (b : Bool) (rb cb kb : Nat) (w : World) (hrb : rb < w.heap.size) (hrc : w.cell? ⟨rb, 0, none⟩ = some (.iface 4 (.bool b))) (hrf : w.frozen? ⟨rb, 0, none⟩ = false) (hcc : w.cell? ⟨cb, 0, none⟩ = some (.pointer (some ⟨kb, 0, none⟩))) (hki : w.cell? ⟨kb, 0, none⟩ = some (.int .i64 0)) (hkt : w.cell? ⟨kb, 2, none⟩ = some (.int .i64 98)) : Calls Tryd.prog 34 #[.slice (some ⟨rb, 0, none⟩) 1 1, .slice (some ⟨cb, 0, none⟩) 1 1] w fun e w' => e = .returned .nilIface ∧ w' = w := by
  go_enter Tryd.func34, Tryd.ntmps34
  go_wp2_with fail
  refine wp_loop_rounds 2 ?_
  rw [rounds_succ]
  go_wp2_with (go_at_call 55; refine (cc_bool _ _ _ _ hkt).mono ?_; rintro e w ⟨rfl, rfl⟩)
  rw [rounds_succ]
  go_wp2
  go_ret
  exact ⟨rfl, rfl⟩
set_option maxHeartbeats 4000000 in
theorem tcn_bool (b : Bool) (t : Int) (ht : (t == 98) = false) (rb cb kb : Nat) (w : World) (hrb : rb < w.heap.size) (hrc : w.cell? ⟨rb, 0, none⟩ = some (.iface 4 (.bool b))) (hrf : w.frozen? ⟨rb, 0, none⟩ = false) (hcc : w.cell? ⟨cb, 0, none⟩ = some (.pointer (some ⟨kb, 0, none⟩))) (hki : w.cell? ⟨kb, 0, none⟩ = some (.int .i64 0)) (hkt : w.cell? ⟨kb, 2, none⟩ = some (.int .i64 t)) : Calls Tryd.prog 34 #[.slice (some ⟨rb, 0, none⟩) 1 1, .slice (some ⟨cb, 0, none⟩) 1 1] w (NewPost w) := by
  go_enter Tryd.func34, Tryd.ntmps34
  go_wp2_with fail
  refine wp_loop_rounds 2 ?_
  rw [rounds_succ]
  go_wp2_with (first | (go_at_call 55; refine (cc_bool _ _ _ _ hkt).mono ?_; rintro e w ⟨rfl, rfl⟩) | (go_at_call 59; refine (new_any _ _).mono ?_; rintro e w1 ⟨y, rfl, hy, hb⟩))
  go_ret
  exact ⟨y, rfl, hy, hb⟩
set_option maxHeartbeats 4000000 in
theorem tcy_int8 (n : Int) (rb cb kb : Nat) (w : World) (hrb : rb < w.heap.size) (hrc : w.cell? ⟨rb, 0, none⟩ = some (.iface 63 (.int .i8 n))) (hrf : w.frozen? ⟨rb, 0, none⟩ = false) (hcc : w.cell? ⟨cb, 0, none⟩ = some (.pointer (some ⟨kb, 0, none⟩))) (hki : w.cell? ⟨kb, 0, none⟩ = some (.int .i64 0)) (hkt : w.cell? ⟨kb, 2, none⟩ = some (.int .i64 105)) : Calls Tryd.prog 34 #[.slice (some ⟨rb, 0, none⟩) 1 1, .slice (some ⟨cb, 0, none⟩) 1 1] w fun e w' => e = .returned .nilIface ∧ w' = w := by
  go_enter Tryd.func34, Tryd.ntmps34
  go_wp2_with fail
  refine wp_loop_rounds 2 ?_
  rw [rounds_succ]
  go_wp2_with (go_at_call 55; refine (cc_int8 _ _ _ _ hkt).mono ?_; rintro e w ⟨rfl, rfl⟩)
  rw [rounds_succ]
  go_wp2
  go_ret
  exact ⟨rfl, rfl⟩
set_option maxHeartbeats 4000000 in
theorem tcn_int8 (n : Int) (t : Int) (ht : (t == 105) = false) (rb cb kb : Nat) (w : World) (hrb : rb < w.heap.size) (hrc : w.cell? ⟨rb, 0, none⟩ = some (.iface 63 (.int .i8 n))) (hrf : w.frozen? ⟨rb, 0, none⟩ = false) (hcc : w.cell? ⟨cb, 0, none⟩ = some (.pointer (some ⟨kb, 0, none⟩))) (hki : w.cell? ⟨kb, 0, none⟩ = some (.int .i64 0)) (hkt : w.cell? ⟨kb, 2, none⟩ = some (.int .i64 t)) : Calls Tryd.prog 34 #[.slice (some ⟨rb, 0, none⟩) 1 1, .slice (some ⟨cb, 0, none⟩) 1 1] w (NewPost w) := by
  go_enter Tryd.func34, Tryd.ntmps34
  go_wp2_with fail
  refine wp_loop_rounds 2 ?_
  rw [rounds_succ]
  go_wp2_with (first | (go_at_call 55; refine (cc_int8 _ _ _ _ hkt).mono ?_; rintro e w ⟨rfl, rfl⟩) | (go_at_call 59; refine (new_any _ _).mono ?_; rintro e w1 ⟨y, rfl, hy, hb⟩))
  go_ret
  exact ⟨y, rfl, hy, hb⟩
set_option maxHeartbeats 4000000 in
theorem tcy_int16 (n : Int) (rb cb kb : Nat) (w : World) (hrb : rb < w.heap.size) (hrc : w.cell? ⟨rb, 0, none⟩ = some (.iface 64 (.int .i16 n))) (hrf : w.frozen? ⟨rb, 0, none⟩ = false) (hcc : w.cell? ⟨cb, 0, none⟩ = some (.pointer (some ⟨kb, 0, none⟩))) (hki : w.cell? ⟨kb, 0, none⟩ = some (.int .i64 0)) (hkt : w.cell? ⟨kb, 2, none⟩ = some (.int .i64 106)) : Calls Tryd.prog 34 #[.slice (some ⟨rb, 0, none⟩) 1 1, .slice (some ⟨cb, 0, none⟩) 1 1] w fun e w' => e = .returned .nilIface ∧ w' = w := by
  go_enter Tryd.func34, Tryd.ntmps34
  go_wp2_with fail
  refine wp_loop_rounds 2 ?_
  rw [rounds_succ]
  go_wp2_with (go_at_call 55; refine (cc_int16 _ _ _ _ hkt).mono ?_; rintro e w ⟨rfl, rfl⟩)
  rw [rounds_succ]
  go_wp2
  go_ret
  exact ⟨rfl, rfl⟩
set_option maxHeartbeats 4000000 in
theorem tcn_int16 (n : Int) (t : Int) (ht : (t == 106) = false) (rb cb kb : Nat) (w : World) (hrb : rb < w.heap.size) (hrc : w.cell? ⟨rb, 0, none⟩ = some (.iface 64 (.int .i16 n))) (hrf : w.frozen? ⟨rb, 0, none⟩ = false) (hcc : w.cell? ⟨cb, 0, none⟩ = some (.pointer (some ⟨kb, 0, none⟩))) (hki : w.cell? ⟨kb, 0, none⟩ = some (.int .i64 0)) (hkt : w.cell? ⟨kb, 2, none⟩ = some (.int .i64 t)) : Calls Tryd.prog 34 #[.slice (some ⟨rb, 0, none⟩) 1 1, .slice (some ⟨cb, 0, none⟩) 1 1] w (NewPost w) := by
  go_enter Tryd.func34, Tryd.ntmps34
  go_wp2_with fail
  refine wp_loop_rounds 2 ?_
  rw [rounds_succ]
  go_wp2_with (first | (go_at_call 55; refine (cc_int16 _ _ _ _ hkt).mono ?_; rintro e w ⟨rfl, rfl⟩) | (go_at_call 59; refine (new_any _ _).mono ?_; rintro e w1 ⟨y, rfl, hy, hb⟩))
  go_ret
  exact ⟨y, rfl, hy, hb⟩
set_option maxHeartbeats 4000000 in
theorem tcy_int32 (n : Int) (rb cb kb : Nat) (w : World) (hrb : rb < w.heap.size) (hrc : w.cell? ⟨rb, 0, none⟩ = some (.iface 21 (.int .i32 n))) (hrf : w.frozen? ⟨rb, 0, none⟩ = false) (hcc : w.cell? ⟨cb, 0, none⟩ = some (.pointer (some ⟨kb, 0, none⟩))) (hki : w.cell? ⟨kb, 0, none⟩ = some (.int .i64 0)) (hkt : w.cell? ⟨kb, 2, none⟩ = some (.int .i64 107)) : Calls Tryd.prog 34 #[.slice (some ⟨rb, 0, none⟩) 1 1, .slice (some ⟨cb, 0, none⟩) 1 1] w fun e w' => e = .returned .nilIface ∧ w' = w := by
  go_enter Tryd.func34, Tryd.ntmps34
  go_wp2_with fail
  refine wp_loop_rounds 2 ?_
  rw [rounds_succ]
  go_wp2_with (go_at_call 55; refine (cc_int32 _ _ _ _ hkt).mono ?_; rintro e w ⟨rfl, rfl⟩)
  rw [rounds_succ]
  go_wp2
  go_ret
  exact ⟨rfl, rfl⟩
set_option maxHeartbeats 4000000 in
theorem tcn_int32 (n : Int) (t : Int) (ht : (t == 107) = false) (rb cb kb : Nat) (w : World) (hrb : rb < w.heap.size) (hrc : w.cell? ⟨rb, 0, none⟩ = some (.iface 21 (.int .i32 n))) (hrf : w.frozen? ⟨rb, 0, none⟩ = false) (hcc : w.cell? ⟨cb, 0, none⟩ = some (.pointer (some ⟨kb, 0, none⟩))) (hki : w.cell? ⟨kb, 0, none⟩ = some (.int .i64 0)) (hkt : w.cell? ⟨kb, 2, none⟩ = some (.int .i64 t)) : Calls Tryd.prog 34 #[.slice (some ⟨rb, 0, none⟩) 1 1, .slice (some ⟨cb, 0, none⟩) 1 1] w (NewPost w) := by
  go_enter Tryd.func34, Tryd.ntmps34
  go_wp2_with fail
  refine wp_loop_rounds 2 ?_
  rw [rounds_succ]
  go_wp2_with (first | (go_at_call 55; refine (cc_int32 _ _ _ _ hkt).mono ?_; rintro e w ⟨rfl, rfl⟩) | (go_at_call 59; refine (new_any _ _).mono ?_; rintro e w1 ⟨y, rfl, hy, hb⟩))
  go_ret
  exact ⟨y, rfl, hy, hb⟩
set_option maxHeartbeats 4000000 in
theorem tcy_int64 (n : Int) (rb cb kb : Nat) (w : World) (hrb : rb < w.heap.size) (hrc : w.cell? ⟨rb, 0, none⟩ = some (.iface 2 (.int .i64 n))) (hrf : w.frozen? ⟨rb, 0, none⟩ = false) (hcc : w.cell? ⟨cb, 0, none⟩ = some (.pointer (some ⟨kb, 0, none⟩))) (hki : w.cell? ⟨kb, 0, none⟩ = some (.int .i64 0)) (hkt : w.cell? ⟨kb, 2, none⟩ = some (.int .i64 108)) : Calls Tryd.prog 34 #[.slice (some ⟨rb, 0, none⟩) 1 1, .slice (some ⟨cb, 0, none⟩) 1 1] w fun e w' => e = .returned .nilIface ∧ w' = w := by
  go_enter Tryd.func34, Tryd.ntmps34
  go_wp2_with fail
  refine wp_loop_rounds 2 ?_
  rw [rounds_succ]
  go_wp2_with (go_at_call 55; refine (cc_int64 _ _ _ _ hkt).mono ?_; rintro e w ⟨rfl, rfl⟩)
  rw [rounds_succ]
  go_wp2
  go_ret
  exact ⟨rfl, rfl⟩
set_option maxHeartbeats 4000000 in
theorem tcn_int64 (n : Int) (t : Int) (ht : (t == 108) = false) (rb cb kb : Nat) (w : World) (hrb : rb < w.heap.size) (hrc : w.cell? ⟨rb, 0, none⟩ = some (.iface 2 (.int .i64 n))) (hrf : w.frozen? ⟨rb, 0, none⟩ = false) (hcc : w.cell? ⟨cb, 0, none⟩ = some (.pointer (some ⟨kb, 0, none⟩))) (hki : w.cell? ⟨kb, 0, none⟩ = some (.int .i64 0)) (hkt : w.cell? ⟨kb, 2, none⟩ = some (.int .i64 t)) : Calls Tryd.prog 34 #[.slice (some ⟨rb, 0, none⟩) 1 1, .slice (some ⟨cb, 0, none⟩) 1 1] w (NewPost w) := by
  go_enter Tryd.func34, Tryd.ntmps34
  go_wp2_with fail
  refine wp_loop_rounds 2 ?_
  rw [rounds_succ]
  go_wp2_with (first | (go_at_call 55; refine (cc_int64 _ _ _ _ hkt).mono ?_; rintro e w ⟨rfl, rfl⟩) | (go_at_call 59; refine (new_any _ _).mono ?_; rintro e w1 ⟨y, rfl, hy, hb⟩))
  go_ret
  exact ⟨y, rfl, hy, hb⟩
set_option maxHeartbeats 4000000 in
theorem tcy_uint8 (n : Int) (rb cb kb : Nat) (w : World) (hrb : rb < w.heap.size) (hrc : w.cell? ⟨rb, 0, none⟩ = some (.iface 5 (.int .u8 n))) (hrf : w.frozen? ⟨rb, 0, none⟩ = false) (hcc : w.cell? ⟨cb, 0, none⟩ = some (.pointer (some ⟨kb, 0, none⟩))) (hki : w.cell? ⟨kb, 0, none⟩ = some (.int .i64 0)) (hkt : w.cell? ⟨kb, 2, none⟩ = some (.int .i64 117)) : Calls Tryd.prog 34 #[.slice (some ⟨rb, 0, none⟩) 1 1, .slice (some ⟨cb, 0, none⟩) 1 1] w fun e w' => e = .returned .nilIface ∧ w' = w := by
  go_enter Tryd.func34, Tryd.ntmps34
  go_wp2_with fail
  refine wp_loop_rounds 2 ?_
  rw [rounds_succ]
  go_wp2_with (go_at_call 55; refine (cc_uint8 _ _ _ _ hkt).mono ?_; rintro e w ⟨rfl, rfl⟩)
  rw [rounds_succ]
  go_wp2
  go_ret
  exact ⟨rfl, rfl⟩
set_option maxHeartbeats 4000000 in
theorem tcn_uint8 (n : Int) (t : Int) (ht : (t == 117) = false) (rb cb kb : Nat) (w : World) (hrb : rb < w.heap.size) (hrc : w.cell? ⟨rb, 0, none⟩ = some (.iface 5 (.int .u8 n))) (hrf : w.frozen? ⟨rb, 0, none⟩ = false) (hcc : w.cell? ⟨cb, 0, none⟩ = some (.pointer (some ⟨kb, 0, none⟩))) (hki : w.cell? ⟨kb, 0, none⟩ = some (.int .i64 0)) (hkt : w.cell? ⟨kb, 2, none⟩ = some (.int .i64 t)) : Calls Tryd.prog 34 #[.slice (some ⟨rb, 0, none⟩) 1 1, .slice (some ⟨cb, 0, none⟩) 1 1] w (NewPost w) := by
  go_enter Tryd.func34, Tryd.ntmps34
  go_wp2_with fail
  refine wp_loop_rounds 2 ?_
  rw [rounds_succ]
  go_wp2_with (first | (go_at_call 55; refine (cc_uint8 _ _ _ _ hkt).mono ?_; rintro e w ⟨rfl, rfl⟩) | (go_at_call 59; refine (new_any _ _).mono ?_; rintro e w1 ⟨y, rfl, hy, hb⟩))
  go_ret
  exact ⟨y, rfl, hy, hb⟩
set_option maxHeartbeats 4000000 in
theorem tcy_uint16 (n : Int) (rb cb kb : Nat) (w : World) (hrb : rb < w.heap.size) (hrc : w.cell? ⟨rb, 0, none⟩ = some (.iface 65 (.int .u16 n))) (hrf : w.frozen? ⟨rb, 0, none⟩ = false) (hcc : w.cell? ⟨cb, 0, none⟩ = some (.pointer (some ⟨kb, 0, none⟩))) (hki : w.cell? ⟨kb, 0, none⟩ = some (.int .i64 0)) (hkt : w.cell? ⟨kb, 2, none⟩ = some (.int .i64 118)) : Calls Tryd.prog 34 #[.slice (some ⟨rb, 0, none⟩) 1 1, .slice (some ⟨cb, 0, none⟩) 1 1] w fun e w' => e = .returned .nilIface ∧ w' = w := by
  go_enter Tryd.func34, Tryd.ntmps34
  go_wp2_with fail
  refine wp_loop_rounds 2 ?_
  rw [rounds_succ]
  go_wp2_with (go_at_call 55; refine (cc_uint16 _ _ _ _ hkt).mono ?_; rintro e w ⟨rfl, rfl⟩)
  rw [rounds_succ]
  go_wp2
  go_ret
  exact ⟨rfl, rfl⟩
set_option maxHeartbeats 4000000 in
theorem tcn_uint16 (n : Int) (t : Int) (ht : (t == 118) = false) (rb cb kb : Nat) (w : World) (hrb : rb < w.heap.size) (hrc : w.cell? ⟨rb, 0, none⟩ = some (.iface 65 (.int .u16 n))) (hrf : w.frozen? ⟨rb, 0, none⟩ = false) (hcc : w.cell? ⟨cb, 0, none⟩ = some (.pointer (some ⟨kb, 0, none⟩))) (hki : w.cell? ⟨kb, 0, none⟩ = some (.int .i64 0)) (hkt : w.cell? ⟨kb, 2, none⟩ = some (.int .i64 t)) : Calls Tryd.prog 34 #[.slice (some ⟨rb, 0, none⟩) 1 1, .slice (some ⟨cb, 0, none⟩) 1 1] w (NewPost w) := by
  go_enter Tryd.func34, Tryd.ntmps34
  go_wp2_with fail
  refine wp_loop_rounds 2 ?_
  rw [rounds_succ]
  go_wp2_with (first | (go_at_call 55; refine (cc_uint16 _ _ _ _ hkt).mono ?_; rintro e w ⟨rfl, rfl⟩) | (go_at_call 59; refine (new_any _ _).mono ?_; rintro e w1 ⟨y, rfl, hy, hb⟩))
  go_ret
  exact ⟨y, rfl, hy, hb⟩
set_option maxHeartbeats 4000000 in
theorem tcy_uint32 (n : Int) (rb cb kb : Nat) (w : World) (hrb : rb < w.heap.size) (hrc : w.cell? ⟨rb, 0, none⟩ = some (.iface 66 (.int .u32 n))) (hrf : w.frozen? ⟨rb, 0, none⟩ = false) (hcc : w.cell? ⟨cb, 0, none⟩ = some (.pointer (some ⟨kb, 0, none⟩))) (hki : w.cell? ⟨kb, 0, none⟩ = some (.int .i64 0)) (hkt : w.cell? ⟨kb, 2, none⟩ = some (.int .i64 119)) : Calls Tryd.prog 34 #[.slice (some ⟨rb, 0, none⟩) 1 1, .slice (some ⟨cb, 0, none⟩) 1 1] w fun e w' => e = .returned .nilIface ∧ w' = w := by
  go_enter Tryd.func34, Tryd.ntmps34
  go_wp2_with fail
  refine wp_loop_rounds 2 ?_
  rw [rounds_succ]
  go_wp2_with (go_at_call 55; refine (cc_uint32 _ _ _ _ hkt).mono ?_; rintro e w ⟨rfl, rfl⟩)
  rw [rounds_succ]
  go_wp2
  go_ret
  exact ⟨rfl, rfl⟩
set_option maxHeartbeats 4000000 in
theorem tcn_uint32 (n : Int) (t : Int) (ht : (t == 119) = false) (rb cb kb : Nat) (w : World) (hrb : rb < w.heap.size) (hrc : w.cell? ⟨rb, 0, none⟩ = some (.iface 66 (.int .u32 n))) (hrf : w.frozen? ⟨rb, 0, none⟩ = false) (hcc : w.cell? ⟨cb, 0, none⟩ = some (.pointer (some ⟨kb, 0, none⟩))) (hki : w.cell? ⟨kb, 0, none⟩ = some (.int .i64 0)) (hkt : w.cell? ⟨kb, 2, none⟩ = some (.int .i64 t)) : Calls Tryd.prog 34 #[.slice (some ⟨rb, 0, none⟩) 1 1, .slice (some ⟨cb, 0, none⟩) 1 1] w (NewPost w) := by
  go_enter Tryd.func34, Tryd.ntmps34
  go_wp2_with fail
  refine wp_loop_rounds 2 ?_
  rw [rounds_succ]
  go_wp2_with (first | (go_at_call 55; refine (cc_uint32 _ _ _ _ hkt).mono ?_; rintro e w ⟨rfl, rfl⟩) | (go_at_call 59; refine (new_any _ _).mono ?_; rintro e w1 ⟨y, rfl, hy, hb⟩))
  go_ret
  exact ⟨y, rfl, hy, hb⟩
set_option maxHeartbeats 4000000 in
theorem tcy_uint64 (n : Int) (rb cb kb : Nat) (w : World) (hrb : rb < w.heap.size) (hrc : w.cell? ⟨rb, 0, none⟩ = some (.iface 22 (.int .u64 n))) (hrf : w.frozen? ⟨rb, 0, none⟩ = false) (hcc : w.cell? ⟨cb, 0, none⟩ = some (.pointer (some ⟨kb, 0, none⟩))) (hki : w.cell? ⟨kb, 0, none⟩ = some (.int .i64 0)) (hkt : w.cell? ⟨kb, 2, none⟩ = some (.int .i64 120)) : Calls Tryd.prog 34 #[.slice (some ⟨rb, 0, none⟩) 1 1, .slice (some ⟨cb, 0, none⟩) 1 1] w fun e w' => e = .returned .nilIface ∧ w' = w := by
  go_enter Tryd.func34, Tryd.ntmps34
  go_wp2_with fail
  refine wp_loop_rounds 2 ?_
  rw [rounds_succ]
  go_wp2_with (go_at_call 55; refine (cc_uint64 _ _ _ _ hkt).mono ?_; rintro e w ⟨rfl, rfl⟩)
  rw [rounds_succ]
  go_wp2
  go_ret
  exact ⟨rfl, rfl⟩
set_option maxHeartbeats 4000000 in
theorem tcn_uint64 (n : Int) (t : Int) (ht : (t == 120) = false) (rb cb kb : Nat) (w : World) (hrb : rb < w.heap.size) (hrc : w.cell? ⟨rb, 0, none⟩ = some (.iface 22 (.int .u64 n))) (hrf : w.frozen? ⟨rb, 0, none⟩ = false) (hcc : w.cell? ⟨cb, 0, none⟩ = some (.pointer (some ⟨kb, 0, none⟩))) (hki : w.cell? ⟨kb, 0, none⟩ = some (.int .i64 0)) (hkt : w.cell? ⟨kb, 2, none⟩ = some (.int .i64 t)) : Calls Tryd.prog 34 #[.slice (some ⟨rb, 0, none⟩) 1 1, .slice (some ⟨cb, 0, none⟩) 1 1] w (NewPost w) := by
  go_enter Tryd.func34, Tryd.ntmps34
  go_wp2_with fail
  refine wp_loop_rounds 2 ?_
  rw [rounds_succ]
  go_wp2_with (first | (go_at_call 55; refine (cc_uint64 _ _ _ _ hkt).mono ?_; rintro e w ⟨rfl, rfl⟩) | (go_at_call 59; refine (new_any _ _).mono ?_; rintro e w1 ⟨y, rfl, hy, hb⟩))
  go_ret
  exact ⟨y, rfl, hy, hb⟩
set_option maxHeartbeats 4000000 in
theorem tcy_float32 (r : Nat) (rb cb kb : Nat) (w : World) (hrb : rb < w.heap.size) (hrc : w.cell? ⟨rb, 0, none⟩ = some (.iface 42 (.float .f32 r))) (hrf : w.frozen? ⟨rb, 0, none⟩ = false) (hcc : w.cell? ⟨cb, 0, none⟩ = some (.pointer (some ⟨kb, 0, none⟩))) (hki : w.cell? ⟨kb, 0, none⟩ = some (.int .i64 0)) (hkt : w.cell? ⟨kb, 2, none⟩ = some (.int .i64 102)) : Calls Tryd.prog 34 #[.slice (some ⟨rb, 0, none⟩) 1 1, .slice (some ⟨cb, 0, none⟩) 1 1] w fun e w' => e = .returned .nilIface ∧ w' = w := by
  go_enter Tryd.func34, Tryd.ntmps34
  go_wp2_with fail
  refine wp_loop_rounds 2 ?_
  rw [rounds_succ]
  go_wp2_with (go_at_call 55; refine (cc_float32 _ _ _ _ hkt).mono ?_; rintro e w ⟨rfl, rfl⟩)
  rw [rounds_succ]
  go_wp2
  go_ret
  exact ⟨rfl, rfl⟩
set_option maxHeartbeats 4000000 in
theorem tcn_float32 (r : Nat) (t : Int) (ht : (t == 102) = false) (rb cb kb : Nat) (w : World) (hrb : rb < w.heap.size) (hrc : w.cell? ⟨rb, 0, none⟩ = some (.iface 42 (.float .f32 r))) (hrf : w.frozen? ⟨rb, 0, none⟩ = false) (hcc : w.cell? ⟨cb, 0, none⟩ = some (.pointer (some ⟨kb, 0, none⟩))) (hki : w.cell? ⟨kb, 0, none⟩ = some (.int .i64 0)) (hkt : w.cell? ⟨kb, 2, none⟩ = some (.int .i64 t)) : Calls Tryd.prog 34 #[.slice (some ⟨rb, 0, none⟩) 1 1, .slice (some ⟨cb, 0, none⟩) 1 1] w (NewPost w) := by
  go_enter Tryd.func34, Tryd.ntmps34
  go_wp2_with fail
  refine wp_loop_rounds 2 ?_
  rw [rounds_succ]
  go_wp2_with (first | (go_at_call 55; refine (cc_float32 _ _ _ _ hkt).mono ?_; rintro e w ⟨rfl, rfl⟩) | (go_at_call 59; refine (new_any _ _).mono ?_; rintro e w1 ⟨y, rfl, hy, hb⟩))
  go_ret
  exact ⟨y, rfl, hy, hb⟩
set_option maxHeartbeats 4000000 in
theorem tcy_float64 (d : Nat) (rb cb kb : Nat) (w : World) (hrb : rb < w.heap.size) (hrc : w.cell? ⟨rb, 0, none⟩ = some (.iface 23 (.float .f64 d))) (hrf : w.frozen? ⟨rb, 0, none⟩ = false) (hcc : w.cell? ⟨cb, 0, none⟩ = some (.pointer (some ⟨kb, 0, none⟩))) (hki : w.cell? ⟨kb, 0, none⟩ = some (.int .i64 0)) (hkt : w.cell? ⟨kb, 2, none⟩ = some (.int .i64 103)) : Calls Tryd.prog 34 #[.slice (some ⟨rb, 0, none⟩) 1 1, .slice (some ⟨cb, 0, none⟩) 1 1] w fun e w' => e = .returned .nilIface ∧ w' = w := by
  go_enter Tryd.func34, Tryd.ntmps34
  go_wp2_with fail
  refine wp_loop_rounds 2 ?_
  rw [rounds_succ]
  go_wp2_with (go_at_call 55; refine (cc_float64 _ _ _ _ hkt).mono ?_; rintro e w ⟨rfl, rfl⟩)
  rw [rounds_succ]
  go_wp2
  go_ret
  exact ⟨rfl, rfl⟩
set_option maxHeartbeats 4000000 in
theorem tcn_float64 (d : Nat) (t : Int) (ht : (t == 103) = false) (rb cb kb : Nat) (w : World) (hrb : rb < w.heap.size) (hrc : w.cell? ⟨rb, 0, none⟩ = some (.iface 23 (.float .f64 d))) (hrf : w.frozen? ⟨rb, 0, none⟩ = false) (hcc : w.cell? ⟨cb, 0, none⟩ = some (.pointer (some ⟨kb, 0, none⟩))) (hki : w.cell? ⟨kb, 0, none⟩ = some (.int .i64 0)) (hkt : w.cell? ⟨kb, 2, none⟩ = some (.int .i64 t)) : Calls Tryd.prog 34 #[.slice (some ⟨rb, 0, none⟩) 1 1, .slice (some ⟨cb, 0, none⟩) 1 1] w (NewPost w) := by
  go_enter Tryd.func34, Tryd.ntmps34
  go_wp2_with fail
  refine wp_loop_rounds 2 ?_
  rw [rounds_succ]
  go_wp2_with (first | (go_at_call 55; refine (cc_float64 _ _ _ _ hkt).mono ?_; rintro e w ⟨rfl, rfl⟩) | (go_at_call 59; refine (new_any _ _).mono ?_; rintro e w1 ⟨y, rfl, hy, hb⟩))
  go_ret
  exact ⟨y, rfl, hy, hb⟩
set_option maxHeartbeats 4000000 in
theorem tcy_string (s : ByteArray) (rb cb kb : Nat) (w : World) (hrb : rb < w.heap.size) (hrc : w.cell? ⟨rb, 0, none⟩ = some (.iface 9 (.string s))) (hrf : w.frozen? ⟨rb, 0, none⟩ = false) (hcc : w.cell? ⟨cb, 0, none⟩ = some (.pointer (some ⟨kb, 0, none⟩))) (hki : w.cell? ⟨kb, 0, none⟩ = some (.int .i64 0)) (hkt : w.cell? ⟨kb, 2, none⟩ = some (.int .i64 115)) : Calls Tryd.prog 34 #[.slice (some ⟨rb, 0, none⟩) 1 1, .slice (some ⟨cb, 0, none⟩) 1 1] w fun e w' => e = .returned .nilIface ∧ w' = w := by
  go_enter Tryd.func34, Tryd.ntmps34
  go_wp2_with fail
  refine wp_loop_rounds 2 ?_
  rw [rounds_succ]
  go_wp2_with (go_at_call 55; refine (cc_string _ _ _ _ hkt).mono ?_; rintro e w ⟨rfl, rfl⟩)
  rw [rounds_succ]
  go_wp2
  go_ret
  exact ⟨rfl, rfl⟩
set_option maxHeartbeats 4000000 in
theorem tcn_string (s : ByteArray) (t : Int) (ht : (t == 115) = false) (rb cb kb : Nat) (w : World) (hrb : rb < w.heap.size) (hrc : w.cell? ⟨rb, 0, none⟩ = some (.iface 9 (.string s))) (hrf : w.frozen? ⟨rb, 0, none⟩ = false) (hcc : w.cell? ⟨cb, 0, none⟩ = some (.pointer (some ⟨kb, 0, none⟩))) (hki : w.cell? ⟨kb, 0, none⟩ = some (.int .i64 0)) (hkt : w.cell? ⟨kb, 2, none⟩ = some (.int .i64 t)) : Calls Tryd.prog 34 #[.slice (some ⟨rb, 0, none⟩) 1 1, .slice (some ⟨cb, 0, none⟩) 1 1] w (NewPost w) := by
  go_enter Tryd.func34, Tryd.ntmps34
  go_wp2_with fail
  refine wp_loop_rounds 2 ?_
  rw [rounds_succ]
  go_wp2_with (first | (go_at_call 55; refine (cc_string _ _ _ _ hkt).mono ?_; rintro e w ⟨rfl, rfl⟩) | (go_at_call 59; refine (new_any _ _).mono ?_; rintro e w1 ⟨y, rfl, hy, hb⟩))
  go_ret
  exact ⟨y, rfl, hy, hb⟩
set_option maxHeartbeats 4000000 in
theorem tcy_blob (a : Option Addr) (n c : Nat) (rb cb kb : Nat) (w : World) (hrb : rb < w.heap.size) (hrc : w.cell? ⟨rb, 0, none⟩ = some (.iface 67 (.slice a n c))) (hrf : w.frozen? ⟨rb, 0, none⟩ = false) (hcc : w.cell? ⟨cb, 0, none⟩ = some (.pointer (some ⟨kb, 0, none⟩))) (hki : w.cell? ⟨kb, 0, none⟩ = some (.int .i64 0)) (hkt : w.cell? ⟨kb, 2, none⟩ = some (.int .i64 66)) : Calls Tryd.prog 34 #[.slice (some ⟨rb, 0, none⟩) 1 1, .slice (some ⟨cb, 0, none⟩) 1 1] w fun e w' => e = .returned .nilIface ∧ w' = w := by
  go_enter Tryd.func34, Tryd.ntmps34
  go_wp2_with fail
  refine wp_loop_rounds 2 ?_
  rw [rounds_succ]
  go_wp2_with (go_at_call 55; refine (cc_blob _ _ _ _ _ _ hkt).mono ?_; rintro e w ⟨rfl, rfl⟩)
  rw [rounds_succ]
  go_wp2
  go_ret
  exact ⟨rfl, rfl⟩
set_option maxHeartbeats 4000000 in
theorem tcn_blob (a : Option Addr) (n c : Nat) (t : Int) (ht : (t == 66) = false) (rb cb kb : Nat) (w : World) (hrb : rb < w.heap.size) (hrc : w.cell? ⟨rb, 0, none⟩ = some (.iface 67 (.slice a n c))) (hrf : w.frozen? ⟨rb, 0, none⟩ = false) (hcc : w.cell? ⟨cb, 0, none⟩ = some (.pointer (some ⟨kb, 0, none⟩))) (hki : w.cell? ⟨kb, 0, none⟩ = some (.int .i64 0)) (hkt : w.cell? ⟨kb, 2, none⟩ = some (.int .i64 t)) : Calls Tryd.prog 34 #[.slice (some ⟨rb, 0, none⟩) 1 1, .slice (some ⟨cb, 0, none⟩) 1 1] w (NewPost w) := by
  go_enter Tryd.func34, Tryd.ntmps34
  go_wp2_with fail
  refine wp_loop_rounds 2 ?_
  rw [rounds_succ]
  go_wp2_with (first | (go_at_call 55; refine (cc_blob _ _ _ _ _ _ hkt).mono ?_; rintro e w ⟨rfl, rfl⟩) | (go_at_call 59; refine (new_any _ _).mono ?_; rintro e w1 ⟨y, rfl, hy, hb⟩))
  go_ret
  exact ⟨y, rfl, hy, hb⟩
end Go.Proofs.YtdhnhgcdajlpjaaDoor
