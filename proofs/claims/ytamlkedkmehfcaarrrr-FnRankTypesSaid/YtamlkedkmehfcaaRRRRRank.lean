/- Ranks: what collateRank, ZZRank and impl.Rank answer, for every value. -/
import Derived.Test.YtamlkedkmehfcaaRRRRTa
import Derived.Test.YtamlkedkmehfcaaRRRRSmall
namespace Go.Proofs.YtamlkedkmehfcaaRRRR
open Go.RowKit
set_option linter.unusedVariables false
set_option linter.unusedSimpArgs false
attribute [local go_sem] store_flt
attribute [local go_sem] ta4 tn4 ta55 tn55 ta56 tn56 ta21 tn21 ta2 tn2 ta5 tn5 ta57 tn57 ta58 tn58 ta26 tn26 ta3 tn3 ta43 tn43 ta44 tn44 ta27 tn27 ta9 tn9 ta59 tn59 ta67 tn67 ta68 tn68 ta69 tn69 ta66 tn66
def V.rank : V → Int
  | .null => 0
  | .bool _ => 1
  | .iFlt _ => 5
  | .flt .f32 _ => 6
  | .flt .f64 _ => 7
  | .iInt _ => 8
  | .iRune _ => 9
  | .iUint _ => 10
  | .int .i8 _ => 11
  | .int .i16 _ => 12
  | .int .i32 _ => 13
  | .int .i64 _ => 14
  | .int .u8 _ => 15
  | .int .u16 _ => 16
  | .int .u32 _ => 17
  | .int .u64 _ => 18
  | .str _ => 23
  | .blob _ => 24
theorem rank_kind (a b : V) : (a.rank = b.rank) ↔ a.K = b.K := by
  rcases a with _ | b1 | ⟨k1, n1⟩ | ⟨k1, d1⟩ | s1 | s1 | n1 | n1 | n1 | d1 <;> (try cases k1) <;> rcases b with _ | b2 | ⟨k2, n2⟩ | ⟨k2, d2⟩ | s2 | s2 | n2 | n2 | n2 | d2 <;> (try cases k2) <;> simp [V.rank, V.K]
set_option maxRecDepth 100000 in
set_option maxHeartbeats 1000000 in
theorem rank_null (w : World) : Calls Try.prog 28 #[.nilIface] w fun e w' => e = .returned (.int .i64 0) ∧ w' = w := by
  go_enter Try.func28, Try.ntmps28
  go_wp2
  go_ret
  exact ⟨rfl, rfl⟩
set_option maxRecDepth 100000 in
set_option maxHeartbeats 1000000 in
theorem rank_bool (b : Bool) (w : World) : Calls Try.prog 28 #[.iface 4 (.bool b)] w fun e w' => e = .returned (.int .i64 1) ∧ w' = w := by
  go_enter Try.func28, Try.ntmps28
  go_wp2
  go_ret
  exact ⟨rfl, rfl⟩
set_option maxRecDepth 100000 in
set_option maxHeartbeats 1000000 in
theorem rank_int8 (n : Int) (w : World) : Calls Try.prog 28 #[.iface 55 (.int .i8 n)] w fun e w' => e = .returned (.int .i64 11) ∧ w' = w := by
  go_enter Try.func28, Try.ntmps28
  go_wp2
  go_ret
  exact ⟨rfl, rfl⟩
set_option maxRecDepth 100000 in
set_option maxHeartbeats 1000000 in
theorem rank_int16 (n : Int) (w : World) : Calls Try.prog 28 #[.iface 56 (.int .i16 n)] w fun e w' => e = .returned (.int .i64 12) ∧ w' = w := by
  go_enter Try.func28, Try.ntmps28
  go_wp2
  go_ret
  exact ⟨rfl, rfl⟩
set_option maxRecDepth 100000 in
set_option maxHeartbeats 1000000 in
theorem rank_int32 (n : Int) (w : World) : Calls Try.prog 28 #[.iface 21 (.int .i32 n)] w fun e w' => e = .returned (.int .i64 13) ∧ w' = w := by
  go_enter Try.func28, Try.ntmps28
  go_wp2
  go_ret
  exact ⟨rfl, rfl⟩
set_option maxRecDepth 100000 in
set_option maxHeartbeats 1000000 in
theorem rank_int64 (n : Int) (w : World) : Calls Try.prog 28 #[.iface 2 (.int .i64 n)] w fun e w' => e = .returned (.int .i64 14) ∧ w' = w := by
  go_enter Try.func28, Try.ntmps28
  go_wp2
  go_ret
  exact ⟨rfl, rfl⟩
set_option maxRecDepth 100000 in
set_option maxHeartbeats 1000000 in
theorem rank_uint8 (n : Int) (w : World) : Calls Try.prog 28 #[.iface 5 (.int .u8 n)] w fun e w' => e = .returned (.int .i64 15) ∧ w' = w := by
  go_enter Try.func28, Try.ntmps28
  go_wp2
  go_ret
  exact ⟨rfl, rfl⟩
set_option maxRecDepth 100000 in
set_option maxHeartbeats 1000000 in
theorem rank_uint16 (n : Int) (w : World) : Calls Try.prog 28 #[.iface 57 (.int .u16 n)] w fun e w' => e = .returned (.int .i64 16) ∧ w' = w := by
  go_enter Try.func28, Try.ntmps28
  go_wp2
  go_ret
  exact ⟨rfl, rfl⟩
set_option maxRecDepth 100000 in
set_option maxHeartbeats 1000000 in
theorem rank_uint32 (n : Int) (w : World) : Calls Try.prog 28 #[.iface 58 (.int .u32 n)] w fun e w' => e = .returned (.int .i64 17) ∧ w' = w := by
  go_enter Try.func28, Try.ntmps28
  go_wp2
  go_ret
  exact ⟨rfl, rfl⟩
set_option maxRecDepth 100000 in
set_option maxHeartbeats 1000000 in
theorem rank_uint64 (n : Int) (w : World) : Calls Try.prog 28 #[.iface 26 (.int .u64 n)] w fun e w' => e = .returned (.int .i64 18) ∧ w' = w := by
  go_enter Try.func28, Try.ntmps28
  go_wp2
  go_ret
  exact ⟨rfl, rfl⟩
set_option maxRecDepth 100000 in
set_option maxHeartbeats 1000000 in
theorem rank_float32 (d : Nat) (w : World) : Calls Try.prog 28 #[.iface 44 (.float .f32 d)] w fun e w' => e = .returned (.int .i64 6) ∧ w' = w := by
  go_enter Try.func28, Try.ntmps28
  go_wp2
  go_ret
  exact ⟨rfl, rfl⟩
set_option maxRecDepth 100000 in
set_option maxHeartbeats 1000000 in
theorem rank_float64 (d : Nat) (w : World) : Calls Try.prog 28 #[.iface 27 (.float .f64 d)] w fun e w' => e = .returned (.int .i64 7) ∧ w' = w := by
  go_enter Try.func28, Try.ntmps28
  go_wp2
  go_ret
  exact ⟨rfl, rfl⟩
set_option maxRecDepth 100000 in
set_option maxHeartbeats 1000000 in
theorem rank_string (s : ByteArray) (w : World) : Calls Try.prog 28 #[.iface 9 (.string s)] w fun e w' => e = .returned (.int .i64 23) ∧ w' = w := by
  go_enter Try.func28, Try.ntmps28
  go_wp2
  go_ret
  exact ⟨rfl, rfl⟩
set_option maxRecDepth 100000 in
set_option maxHeartbeats 1000000 in
theorem rank_blob (a : Option Addr) (n c : Nat) (w : World) : Calls Try.prog 28 #[.iface 59 (.slice a n c)] w fun e w' => e = .returned (.int .i64 24) ∧ w' = w := by
  go_enter Try.func28, Try.ntmps28
  go_wp2
  go_ret
  exact ⟨rfl, rfl⟩
set_option maxRecDepth 100000 in
set_option maxHeartbeats 1000000 in
theorem rank_idealInt (n : Int) (w : World) : Calls Try.prog 28 #[.iface 67 (.int .i64 n)] w fun e w' => e = .returned (.int .i64 8) ∧ w' = w := by
  go_enter Try.func28, Try.ntmps28
  go_wp2
  go_ret
  exact ⟨rfl, rfl⟩
set_option maxRecDepth 100000 in
set_option maxHeartbeats 1000000 in
theorem rank_idealRune (n : Int) (w : World) : Calls Try.prog 28 #[.iface 68 (.int .i32 n)] w fun e w' => e = .returned (.int .i64 9) ∧ w' = w := by
  go_enter Try.func28, Try.ntmps28
  go_wp2
  go_ret
  exact ⟨rfl, rfl⟩
set_option maxRecDepth 100000 in
set_option maxHeartbeats 1000000 in
theorem rank_idealUint (n : Int) (w : World) : Calls Try.prog 28 #[.iface 69 (.int .u64 n)] w fun e w' => e = .returned (.int .i64 10) ∧ w' = w := by
  go_enter Try.func28, Try.ntmps28
  go_wp2
  go_ret
  exact ⟨rfl, rfl⟩
set_option maxRecDepth 100000 in
set_option maxHeartbeats 1000000 in
theorem rank_idealFloat (d : Nat) (w : World) : Calls Try.prog 28 #[.iface 66 (.float .f64 d)] w fun e w' => e = .returned (.int .i64 5) ∧ w' = w := by
  go_enter Try.func28, Try.ntmps28
  go_wp2
  go_ret
  exact ⟨rfl, rfl⟩
theorem rank_any (v : V) (x : Value) (w : World) (h : v.box w x) : Calls Try.prog 28 #[x] w fun e w' => e = .returned (.int .i64 v.rank) ∧ w' = w := by
  rcases v with _ | b | ⟨k, n⟩ | ⟨k, d⟩ | s | s | n | n | n | d
  · subst h; exact rank_null w
  · subst h; exact rank_bool b w
  · cases k
    · subst h; exact rank_int8 n w
    · subst h; exact rank_int16 n w
    · subst h; exact rank_int32 n w
    · subst h; exact rank_int64 n w
    · subst h; exact rank_uint8 n w
    · subst h; exact rank_uint16 n w
    · subst h; exact rank_uint32 n w
    · subst h; exact rank_uint64 n w
  · cases k
    · obtain ⟨r, rfl, _⟩ := h; exact rank_float32 r w
    · subst h; exact rank_float64 d w
  · subst h; exact rank_string s w
  · obtain ⟨b, c, rfl, _⟩ := h; exact rank_blob _ _ _ w
  · subst h; exact rank_idealInt n w
  · subst h; exact rank_idealRune n w
  · subst h; exact rank_idealUint n w
  · subst h; exact rank_idealFloat d w
theorem zzrank_any (v : V) (x : Value) (w : World) (h : v.box w x) : Calls Try.prog 20 #[x] w fun e w' => e = .returned (.int .i64 v.rank) ∧ w' = w := by
  have H := Lib.hid (rank_any v x w h)
  clear h
  go_enter Try.func20, Try.ntmps20
  go_wp2_with (go_at_call 28; refine H.out.mono ?_; rintro e w' ⟨rfl, rfl⟩)
  go_ret
  exact ⟨rfl, rfl⟩
theorem Rank_any (v : V) (hv : v.ok) (w : World) : Calls Try.prog 9 #[.agg #[.string v.K, .int .i64 v.N, .int .u64 v.U, .float .f64 v.F, .string v.S]] w fun e w' => e = .returned (.int .i64 v.rank) ∧ Below w.heap.size w w' := by
  go_enter Try.func9, Try.ntmps9
  go_wp2_with fail
  refine (in_any v hv _).mono ?_
  rintro e w1 ⟨x, rfl, hx, hb⟩
  have HX := Lib.hid hx
  clear hx
  go_wp2_with fail
  refine (zzrank_any v x _ HX.out).mono ?_
  rintro e w2 ⟨rfl, rfl⟩
  go_wp2_with fail
  go_ret
  exact ⟨rfl, ((Below.refl _ _).alloc (Nat.le_refl _) _).trans (hb.mono (by simp))⟩
end Go.Proofs.YtamlkedkmehfcaaRRRR
