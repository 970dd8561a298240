/- What a column takes: posts, errors, col.typeCheck. -/
import Derived.Test.YtdhnhgcdajlpjaaDoorTa
import Derived.Test.YtdhnhgcdajlpjaaDoorErr
import Derived.Test.YtdhnhgcdajlpjaaDoorCuts
namespace Go.Proofs.YtdhnhgcdajlpjaaDoor
open Go.RowKit
set_option linter.unusedVariables false
set_option linter.unusedSimpArgs false
set_option maxRecDepth 100000
attribute [local go_sem] store_flt
attribute [local go_sem] ta4 tn4 ta63 tn63 ta64 tn64 ta21 tn21 ta2 tn2 ta5 tn5 ta65 tn65 ta66 tn66 ta22 tn22 ta3 tn3 ta41 tn41 ta42 tn42 ta23 tn23 ta9 tn9 ta67 tn67 ta91 tn91 ta92 tn92 ta93 tn93 ta87 tn87 ta81 tn81

theorem assert_same {P : Program} {A : TypeId} {d : TypeDesc} (hu : P.underlying A = some d) (hni : ∀ ms, d ≠ .interface ms) (v : Value) (xT : TypeId) (w : World) : (Instr.typeAssert (.iface A v) xT A false).run P w = .ok v w := by
  cases d <;> first | exact absurd rfl (hni _) | simp [Instr.typeAssert, run_underlying hu]
theorem tb91 (v : Value) (xT : TypeId) (w : World) : (Instr.typeAssert (.iface 91 v) xT 91 false).run Tryd.prog w = .ok v w := assert_same Tryd.underlying91 (fun _ h => by cases h) v xT w
theorem tb92 (v : Value) (xT : TypeId) (w : World) : (Instr.typeAssert (.iface 92 v) xT 92 false).run Tryd.prog w = .ok v w := assert_same Tryd.underlying92 (fun _ h => by cases h) v xT w
theorem tb93 (v : Value) (xT : TypeId) (w : World) : (Instr.typeAssert (.iface 93 v) xT 93 false).run Tryd.prog w = .ok v w := assert_same Tryd.underlying93 (fun _ h => by cases h) v xT w
theorem tb87 (v : Value) (xT : TypeId) (w : World) : (Instr.typeAssert (.iface 87 v) xT 87 false).run Tryd.prog w = .ok v w := assert_same Tryd.underlying87 (fun _ h => by cases h) v xT w
def NewPost (w : World) (e : Ending) (w' : World) : Prop := ∃ x, e = .returned x ∧ IsErr w' x ∧ Below w.heap.size w w'
theorem new_post {w w' : World} {e : Ending} {x : Value} (he : e = .returned x) (hx : IsErr w' x) (hb : Below w.heap.size w w') : NewPost w e w' := ⟨x, he, hx, hb⟩
theorem new_any (s : ByteArray) (w : World) : Calls Tryd.prog 59 #[.string s] w (NewPost w) := by
  go_enter Tryd.func59, Tryd.ntmps59
  go_wp2
  go_returns
  exact new_post rfl (IsErr.new rfl) (by repeat (first | exact Below.refl _ _ | refine below_drewN ?_ _ | refine Below.drew ?_ | refine Below.alloc ?_ (by simp) _ | refine Below.setCell ?_ (by simp) _))
theorem trunc_any (x : Value) (w : World) : Calls Tryd.prog 57 #[x] w (NewPost w) := by
  go_enter Tryd.func57, Tryd.ntmps57
  go_wp2_with fail
  refine (new_any _ _).mono ?_
  rintro e w1 ⟨x, rfl, hx, hb⟩
  go_wp2
  go_ret
  exact new_post rfl hx hb
theorem over_any (x y : Value) (w : World) : Calls Tryd.prog 58 #[x, y] w (NewPost w) := by
  go_enter Tryd.func58, Tryd.ntmps58
  go_wp2_with fail
  refine (new_any _ _).mono ?_
  rintro e w1 ⟨x, rfl, hx, hb⟩
  go_wp2
  go_ret
  exact new_post rfl hx hb
/-- What typeCheck of one value in one column ends with: a value of the kind in the value's place, or an error. -/
def TcPost (kn : ByteArray) (rb : Nat) (w : World) (e : Ending) (w' : World) : Prop :=
  Below rb w w' ∧ ((e = .returned .nilIface ∧ ∃ (u : V) (x : Value), u.ok ∧ u.K = kn ∧ w'.cell? ⟨rb, 0, none⟩ = some x ∧ u.box w' x) ∨ (∃ y x, e = .returned y ∧ IsErr w' y ∧ w'.cell? ⟨rb, 0, none⟩ = some x))
theorem tc_ok {kn : ByteArray} {rb : Nat} {w w' : World} {e : Ending} {u : V} {x : Value} (he : e = .returned .nilIface) (hu : u.ok) (hk : u.K = kn) (hx : u.box w' x) (hc : w'.cell? ⟨rb, 0, none⟩ = some x) (hb : Below rb w w') : TcPost kn rb w e w' :=
  ⟨hb, .inl ⟨he, u, x, hu, hk, hc, hx⟩⟩
theorem tc_err {kn : ByteArray} {rb : Nat} {w w' : World} {e : Ending} {y x : Value} (he : e = .returned y) (hy : IsErr w' y) (hc : w'.cell? ⟨rb, 0, none⟩ = some x) (hb : Below rb w w') : TcPost kn rb w e w' :=
  ⟨hb, .inr ⟨y, x, he, hy, hc⟩⟩
theorem int_ok (k : IntKind) (n : Int) (h : k.min ≤ n ∧ n ≤ k.max) : (V.int k n).ok := by
  cases k <;> exact h
theorem wrap_ok (k : IntKind) (n : Int) : (V.int k (k.wrap n)).ok := int_ok k _ (wrap_within k n)
theorem cut_ok (k : IntKind) (d : Nat) (w : World) : (V.int k (cutN d k w)).ok := int_ok k _ (cutN_in d k w)
theorem low_below {B rb : Nat} {w w' : World} (h : Below B w w') (hr : rb ≤ B) : Below rb w w' := h.mono hr
theorem cc_null (kb : Nat) (t : Int) (w : World) (hk : w.cell? ⟨kb, 2, none⟩ = some (.int .i64 t)) : Calls Tryd.prog 55 #[.pointer (some ⟨kb, 0, none⟩), .nilIface] w fun e w' => e = .returned (.bool true) ∧ w' = w := by
  go_enter Tryd.func55, Tryd.ntmps55
  go_wp2
  go_ret
  exact ⟨rfl, rfl⟩
theorem cc_bool (b : Bool) (kb : Nat) (t : Int) (w : World) (hk : w.cell? ⟨kb, 2, none⟩ = some (.int .i64 t)) : Calls Tryd.prog 55 #[.pointer (some ⟨kb, 0, none⟩), .iface 4 (.bool b)] w fun e w' => e = .returned (.bool (t == 98)) ∧ w' = w := by
  go_enter Tryd.func55, Tryd.ntmps55
  go_wp2
  go_ret
  exact ⟨rfl, rfl⟩
theorem cc_int8 (n : Int) (kb : Nat) (t : Int) (w : World) (hk : w.cell? ⟨kb, 2, none⟩ = some (.int .i64 t)) : Calls Tryd.prog 55 #[.pointer (some ⟨kb, 0, none⟩), .iface 63 (.int .i8 n)] w fun e w' => e = .returned (.bool (t == 105)) ∧ w' = w := by
  go_enter Tryd.func55, Tryd.ntmps55
  go_wp2
  go_ret
  exact ⟨rfl, rfl⟩
theorem cc_int16 (n : Int) (kb : Nat) (t : Int) (w : World) (hk : w.cell? ⟨kb, 2, none⟩ = some (.int .i64 t)) : Calls Tryd.prog 55 #[.pointer (some ⟨kb, 0, none⟩), .iface 64 (.int .i16 n)] w fun e w' => e = .returned (.bool (t == 106)) ∧ w' = w := by
  go_enter Tryd.func55, Tryd.ntmps55
  go_wp2
  go_ret
  exact ⟨rfl, rfl⟩
theorem cc_int32 (n : Int) (kb : Nat) (t : Int) (w : World) (hk : w.cell? ⟨kb, 2, none⟩ = some (.int .i64 t)) : Calls Tryd.prog 55 #[.pointer (some ⟨kb, 0, none⟩), .iface 21 (.int .i32 n)] w fun e w' => e = .returned (.bool (t == 107)) ∧ w' = w := by
  go_enter Tryd.func55, Tryd.ntmps55
  go_wp2
  go_ret
  exact ⟨rfl, rfl⟩
theorem cc_int64 (n : Int) (kb : Nat) (t : Int) (w : World) (hk : w.cell? ⟨kb, 2, none⟩ = some (.int .i64 t)) : Calls Tryd.prog 55 #[.pointer (some ⟨kb, 0, none⟩), .iface 2 (.int .i64 n)] w fun e w' => e = .returned (.bool (t == 108)) ∧ w' = w := by
  go_enter Tryd.func55, Tryd.ntmps55
  go_wp2
  go_ret
  exact ⟨rfl, rfl⟩
theorem cc_uint8 (n : Int) (kb : Nat) (t : Int) (w : World) (hk : w.cell? ⟨kb, 2, none⟩ = some (.int .i64 t)) : Calls Tryd.prog 55 #[.pointer (some ⟨kb, 0, none⟩), .iface 5 (.int .u8 n)] w fun e w' => e = .returned (.bool (t == 117)) ∧ w' = w := by
  go_enter Tryd.func55, Tryd.ntmps55
  go_wp2
  go_ret
  exact ⟨rfl, rfl⟩
theorem cc_uint16 (n : Int) (kb : Nat) (t : Int) (w : World) (hk : w.cell? ⟨kb, 2, none⟩ = some (.int .i64 t)) : Calls Tryd.prog 55 #[.pointer (some ⟨kb, 0, none⟩), .iface 65 (.int .u16 n)] w fun e w' => e = .returned (.bool (t == 118)) ∧ w' = w := by
  go_enter Tryd.func55, Tryd.ntmps55
  go_wp2
  go_ret
  exact ⟨rfl, rfl⟩
theorem cc_uint32 (n : Int) (kb : Nat) (t : Int) (w : World) (hk : w.cell? ⟨kb, 2, none⟩ = some (.int .i64 t)) : Calls Tryd.prog 55 #[.pointer (some ⟨kb, 0, none⟩), .iface 66 (.int .u32 n)] w fun e w' => e = .returned (.bool (t == 119)) ∧ w' = w := by
  go_enter Tryd.func55, Tryd.ntmps55
  go_wp2
  go_ret
  exact ⟨rfl, rfl⟩
theorem cc_uint64 (n : Int) (kb : Nat) (t : Int) (w : World) (hk : w.cell? ⟨kb, 2, none⟩ = some (.int .i64 t)) : Calls Tryd.prog 55 #[.pointer (some ⟨kb, 0, none⟩), .iface 22 (.int .u64 n)] w fun e w' => e = .returned (.bool (t == 120)) ∧ w' = w := by
  go_enter Tryd.func55, Tryd.ntmps55
  go_wp2
  go_ret
  exact ⟨rfl, rfl⟩
theorem cc_float32 (r : Nat) (kb : Nat) (t : Int) (w : World) (hk : w.cell? ⟨kb, 2, none⟩ = some (.int .i64 t)) : Calls Tryd.prog 55 #[.pointer (some ⟨kb, 0, none⟩), .iface 42 (.float .f32 r)] w fun e w' => e = .returned (.bool (t == 102)) ∧ w' = w := by
  go_enter Tryd.func55, Tryd.ntmps55
  go_wp2
  go_ret
  exact ⟨rfl, rfl⟩
theorem cc_float64 (d : Nat) (kb : Nat) (t : Int) (w : World) (hk : w.cell? ⟨kb, 2, none⟩ = some (.int .i64 t)) : Calls Tryd.prog 55 #[.pointer (some ⟨kb, 0, none⟩), .iface 23 (.float .f64 d)] w fun e w' => e = .returned (.bool (t == 103)) ∧ w' = w := by
  go_enter Tryd.func55, Tryd.ntmps55
  go_wp2
  go_ret
  exact ⟨rfl, rfl⟩
theorem cc_string (s : ByteArray) (kb : Nat) (t : Int) (w : World) (hk : w.cell? ⟨kb, 2, none⟩ = some (.int .i64 t)) : Calls Tryd.prog 55 #[.pointer (some ⟨kb, 0, none⟩), .iface 9 (.string s)] w fun e w' => e = .returned (.bool (t == 115)) ∧ w' = w := by
  go_enter Tryd.func55, Tryd.ntmps55
  go_wp2
  go_ret
  exact ⟨rfl, rfl⟩
theorem cc_blob (a : Option Addr) (n c : Nat) (kb : Nat) (t : Int) (w : World) (hk : w.cell? ⟨kb, 2, none⟩ = some (.int .i64 t)) : Calls Tryd.prog 55 #[.pointer (some ⟨kb, 0, none⟩), .iface 67 (.slice a n c)] w fun e w' => e = .returned (.bool (t == 66)) ∧ w' = w := by
  go_enter Tryd.func55, Tryd.ntmps55
  go_wp2
  go_ret
  exact ⟨rfl, rfl⟩
theorem cc_idealInt (n : Int) (kb : Nat) (t : Int) (w : World) (hk : w.cell? ⟨kb, 2, none⟩ = some (.int .i64 t)) : Calls Tryd.prog 55 #[.pointer (some ⟨kb, 0, none⟩), .iface 91 (.int .i64 n)] w fun e w' => e = .returned (.bool false) ∧ w' = w := by
  go_enter Tryd.func55, Tryd.ntmps55
  go_wp2
  go_ret
  exact ⟨rfl, rfl⟩
theorem cc_idealRune (n : Int) (kb : Nat) (t : Int) (w : World) (hk : w.cell? ⟨kb, 2, none⟩ = some (.int .i64 t)) : Calls Tryd.prog 55 #[.pointer (some ⟨kb, 0, none⟩), .iface 92 (.int .i32 n)] w fun e w' => e = .returned (.bool false) ∧ w' = w := by
  go_enter Tryd.func55, Tryd.ntmps55
  go_wp2
  go_ret
  exact ⟨rfl, rfl⟩
theorem cc_idealUint (n : Int) (kb : Nat) (t : Int) (w : World) (hk : w.cell? ⟨kb, 2, none⟩ = some (.int .i64 t)) : Calls Tryd.prog 55 #[.pointer (some ⟨kb, 0, none⟩), .iface 93 (.int .u64 n)] w fun e w' => e = .returned (.bool false) ∧ w' = w := by
  go_enter Tryd.func55, Tryd.ntmps55
  go_wp2
  go_ret
  exact ⟨rfl, rfl⟩
theorem cc_idealFloat (d : Nat) (kb : Nat) (t : Int) (w : World) (hk : w.cell? ⟨kb, 2, none⟩ = some (.int .i64 t)) : Calls Tryd.prog 55 #[.pointer (some ⟨kb, 0, none⟩), .iface 87 (.float .f64 d)] w fun e w' => e = .returned (.bool false) ∧ w' = w := by
  go_enter Tryd.func55, Tryd.ntmps55
  go_wp2
  go_ret
  exact ⟨rfl, rfl⟩
end Go.Proofs.YtdhnhgcdajlpjaaDoor
