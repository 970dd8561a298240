/- What a value is inside the package, and the contract of impl.in: for every value that is ok. -/
import Derived.Test.YtpkgngpmnapdoaaDoorFloats
import Derived.Test.YtpkgngpmnapdoaaDoorKinds
namespace Go.Proofs.YtpkgngpmnapdoaaDoor
open Go.RowKit
set_option linter.unusedVariables false
set_option linter.unusedSimpArgs false
set_option maxRecDepth 100000
attribute [local go_sem] store_flt

/-- The float32 of a float64 that a float32 has. -/
def Fl32 (d r : Nat) : Prop := (nan64 d = true ∧ nanK .f32 r = true ∧ r < 2 ^ 32) ∨ (nan64 d = false ∧ floatToFloatBits .f64 d .f32 = some r ∧ floatToFloatBits .f32 r .f64 = some d)
/-- A value inside, in a world. -/
def V.box (w : World) : V → Value → Prop
  | .null, x => x = .nilIface
  | .bool b, x => x = .iface 4 (.bool b)
  | .int .i8 n, x => x = .iface 74 (.int .i8 n)
  | .int .i16 n, x => x = .iface 75 (.int .i16 n)
  | .int .i32 n, x => x = .iface 21 (.int .i32 n)
  | .int .i64 n, x => x = .iface 2 (.int .i64 n)
  | .int .u8 n, x => x = .iface 5 (.int .u8 n)
  | .int .u16 n, x => x = .iface 76 (.int .u16 n)
  | .int .u32 n, x => x = .iface 77 (.int .u32 n)
  | .int .u64 n, x => x = .iface 22 (.int .u64 n)
  | .flt .f32 d, x => ∃ r, x = .iface 68 (.float .f32 r) ∧ Fl32 d r
  | .flt .f64 d, x => x = .iface 23 (.float .f64 d)
  | .str s, x => x = .iface 9 (.string s)
  | .blob s, x => ∃ (b : Nat) (c : Nat), x = .iface 78 (.slice (some ⟨b, 0, none⟩) s.size c) ∧ b < w.heap.size ∧ ∀ j (h : j < s.data.toList.length), w.cell? ⟨b, j, none⟩ = some (.int .u8 (s.data.toList[j].toNat : Int))
  | .iInt n, x => x = .iface 88 (.int .i64 n)
  | .iRune n, x => x = .iface 90 (.int .i32 n)
  | .iUint n, x => x = .iface 91 (.int .u64 n)
  | .iFlt d, x => x = .iface 93 (.float .f64 d)
theorem V.box_below {v : V} {w w' : World} {x : Value} (h : v.box w x) (hb : Below w.heap.size w w') : v.box w' x := by
  rcases v with _ | b | ⟨k, n⟩ | ⟨k, d⟩ | s | s | n | n | n | d <;> (try cases k) <;> try exact h
  obtain ⟨b, c, rfl, hlt, hc⟩ := h
  refine ⟨b, c, rfl, Nat.lt_of_lt_of_le hlt hb.size, fun j hj => ?_⟩
  rw [hb.cell (p := ⟨b, j, none⟩) hlt]
  exact hc j hj
def InPost (v : V) (w : World) (e : Ending) (w' : World) : Prop := ∃ x, e = .returned x ∧ v.box w' x ∧ Below w.heap.size w w'
theorem in_post {v : V} {w w' : World} {e : Ending} {x : Value} (he : e = .returned x) (hb : Below w.heap.size w w') (h : v.box w' x) : InPost v w e w' := ⟨x, he, h, hb⟩
set_option maxRecDepth 100000 in
set_option maxHeartbeats 1000000 in
theorem in_null (w : World) : Calls Tryd.prog 29 #[.agg #[.string ⟨#[]⟩, .int .i64 0, .int .u64 0, .float .f64 0, .string ⟨#[]⟩]] w (InPost (.null) w) := by
  go_enter Tryd.func29, Tryd.ntmps29
  go_wp2
  go_ret
  exact in_post rfl (by repeat (first | exact Below.refl _ _ | refine below_drewN ?_ _ | refine Below.drew ?_ | refine Below.alloc ?_ (by simp) _)) rfl
set_option maxRecDepth 100000 in
set_option maxHeartbeats 1000000 in
theorem in_true (w : World) : Calls Tryd.prog 29 #[.agg #[.string ⟨#[98, 111, 111, 108]⟩, .int .i64 1, .int .u64 0, .float .f64 0, .string ⟨#[]⟩]] w (InPost (.bool true) w) := by
  go_enter Tryd.func29, Tryd.ntmps29
  go_wp2
  go_ret
  exact in_post rfl (by repeat (first | exact Below.refl _ _ | refine below_drewN ?_ _ | refine Below.drew ?_ | refine Below.alloc ?_ (by simp) _)) rfl
set_option maxRecDepth 100000 in
set_option maxHeartbeats 1000000 in
theorem in_false (w : World) : Calls Tryd.prog 29 #[.agg #[.string ⟨#[98, 111, 111, 108]⟩, .int .i64 0, .int .u64 0, .float .f64 0, .string ⟨#[]⟩]] w (InPost (.bool false) w) := by
  go_enter Tryd.func29, Tryd.ntmps29
  go_wp2
  go_ret
  exact in_post rfl (by repeat (first | exact Below.refl _ _ | refine below_drewN ?_ _ | refine Below.drew ?_ | refine Below.alloc ?_ (by simp) _)) rfl
set_option maxRecDepth 100000 in
set_option maxHeartbeats 1000000 in
theorem in_int8 (n : Int) (h1 : -128 ≤ n) (h2 : n ≤ 127) (w : World) : Calls Tryd.prog 29 #[.agg #[.string ⟨#[105, 110, 116, 56]⟩, .int .i64 n, .int .u64 0, .float .f64 0, .string ⟨#[]⟩]] w (InPost (.int .i8 n) w) := by
  have hw : IntKind.i8.wrap n = n := IntWalk.i8_in _ ⟨h1, h2⟩
  go_enter Tryd.func29, Tryd.ntmps29
  go_wp2
  go_ret
  exact in_post rfl (by repeat (first | exact Below.refl _ _ | refine below_drewN ?_ _ | refine Below.drew ?_ | refine Below.alloc ?_ (by simp) _)) rfl
set_option maxRecDepth 100000 in
set_option maxHeartbeats 1000000 in
theorem in_int16 (n : Int) (h1 : -32768 ≤ n) (h2 : n ≤ 32767) (w : World) : Calls Tryd.prog 29 #[.agg #[.string ⟨#[105, 110, 116, 49, 54]⟩, .int .i64 n, .int .u64 0, .float .f64 0, .string ⟨#[]⟩]] w (InPost (.int .i16 n) w) := by
  have hw : IntKind.i16.wrap n = n := IntWalk.i16_in _ ⟨h1, h2⟩
  go_enter Tryd.func29, Tryd.ntmps29
  go_wp2
  go_ret
  exact in_post rfl (by repeat (first | exact Below.refl _ _ | refine below_drewN ?_ _ | refine Below.drew ?_ | refine Below.alloc ?_ (by simp) _)) rfl
set_option maxRecDepth 100000 in
set_option maxHeartbeats 1000000 in
theorem in_int32 (n : Int) (h1 : -2147483648 ≤ n) (h2 : n ≤ 2147483647) (w : World) : Calls Tryd.prog 29 #[.agg #[.string ⟨#[105, 110, 116, 51, 50]⟩, .int .i64 n, .int .u64 0, .float .f64 0, .string ⟨#[]⟩]] w (InPost (.int .i32 n) w) := by
  have hw : IntKind.i32.wrap n = n := IntWalk.i32_in _ ⟨h1, h2⟩
  go_enter Tryd.func29, Tryd.ntmps29
  go_wp2
  go_ret
  exact in_post rfl (by repeat (first | exact Below.refl _ _ | refine below_drewN ?_ _ | refine Below.drew ?_ | refine Below.alloc ?_ (by simp) _)) rfl
set_option maxRecDepth 100000 in
set_option maxHeartbeats 1000000 in
theorem in_int64 (n : Int) (h1 : -9223372036854775808 ≤ n) (h2 : n ≤ 9223372036854775807) (w : World) : Calls Tryd.prog 29 #[.agg #[.string ⟨#[105, 110, 116, 54, 52]⟩, .int .i64 n, .int .u64 0, .float .f64 0, .string ⟨#[]⟩]] w (InPost (.int .i64 n) w) := by
  go_enter Tryd.func29, Tryd.ntmps29
  go_wp2
  go_ret
  exact in_post rfl (by repeat (first | exact Below.refl _ _ | refine below_drewN ?_ _ | refine Below.drew ?_ | refine Below.alloc ?_ (by simp) _)) rfl
set_option maxRecDepth 100000 in
set_option maxHeartbeats 1000000 in
theorem in_uint8 (n : Int) (h1 : 0 ≤ n) (h2 : n ≤ 255) (w : World) : Calls Tryd.prog 29 #[.agg #[.string ⟨#[117, 105, 110, 116, 56]⟩, .int .i64 0, .int .u64 n, .float .f64 0, .string ⟨#[]⟩]] w (InPost (.int .u8 n) w) := by
  have hw : IntKind.u8.wrap n = n := IntWalk.u8_in _ ⟨h1, h2⟩
  go_enter Tryd.func29, Tryd.ntmps29
  go_wp2
  go_ret
  exact in_post rfl (by repeat (first | exact Below.refl _ _ | refine below_drewN ?_ _ | refine Below.drew ?_ | refine Below.alloc ?_ (by simp) _)) rfl
set_option maxRecDepth 100000 in
set_option maxHeartbeats 1000000 in
theorem in_uint16 (n : Int) (h1 : 0 ≤ n) (h2 : n ≤ 65535) (w : World) : Calls Tryd.prog 29 #[.agg #[.string ⟨#[117, 105, 110, 116, 49, 54]⟩, .int .i64 0, .int .u64 n, .float .f64 0, .string ⟨#[]⟩]] w (InPost (.int .u16 n) w) := by
  have hw : IntKind.u16.wrap n = n := IntWalk.u16_in _ ⟨h1, h2⟩
  go_enter Tryd.func29, Tryd.ntmps29
  go_wp2
  go_ret
  exact in_post rfl (by repeat (first | exact Below.refl _ _ | refine below_drewN ?_ _ | refine Below.drew ?_ | refine Below.alloc ?_ (by simp) _)) rfl
set_option maxRecDepth 100000 in
set_option maxHeartbeats 1000000 in
theorem in_uint32 (n : Int) (h1 : 0 ≤ n) (h2 : n ≤ 4294967295) (w : World) : Calls Tryd.prog 29 #[.agg #[.string ⟨#[117, 105, 110, 116, 51, 50]⟩, .int .i64 0, .int .u64 n, .float .f64 0, .string ⟨#[]⟩]] w (InPost (.int .u32 n) w) := by
  have hw : IntKind.u32.wrap n = n := IntWalk.u32_in _ ⟨h1, h2⟩
  go_enter Tryd.func29, Tryd.ntmps29
  go_wp2
  go_ret
  exact in_post rfl (by repeat (first | exact Below.refl _ _ | refine below_drewN ?_ _ | refine Below.drew ?_ | refine Below.alloc ?_ (by simp) _)) rfl
set_option maxRecDepth 100000 in
set_option maxHeartbeats 1000000 in
theorem in_uint64 (n : Int) (h1 : 0 ≤ n) (h2 : n ≤ 18446744073709551615) (w : World) : Calls Tryd.prog 29 #[.agg #[.string ⟨#[117, 105, 110, 116, 54, 52]⟩, .int .i64 0, .int .u64 n, .float .f64 0, .string ⟨#[]⟩]] w (InPost (.int .u64 n) w) := by
  go_enter Tryd.func29, Tryd.ntmps29
  go_wp2
  go_ret
  exact in_post rfl (by repeat (first | exact Below.refl _ _ | refine below_drewN ?_ _ | refine Below.drew ?_ | refine Below.alloc ?_ (by simp) _)) rfl
set_option maxRecDepth 100000 in
set_option maxHeartbeats 1000000 in
theorem in_float64 (d : Nat) (w : World) : Calls Tryd.prog 29 #[.agg #[.string ⟨#[102, 108, 111, 97, 116, 54, 52]⟩, .int .i64 0, .int .u64 0, .float .f64 d, .string ⟨#[]⟩]] w (InPost (.flt .f64 d) w) := by
  go_enter Tryd.func29, Tryd.ntmps29
  go_wp2
  go_ret
  exact in_post rfl (by repeat (first | exact Below.refl _ _ | refine below_drewN ?_ _ | refine Below.drew ?_ | refine Below.alloc ?_ (by simp) _)) rfl
set_option maxRecDepth 100000 in
set_option maxHeartbeats 1000000 in
theorem in_string (s : ByteArray) (w : World) : Calls Tryd.prog 29 #[.agg #[.string ⟨#[115, 116, 114, 105, 110, 103]⟩, .int .i64 0, .int .u64 0, .float .f64 0, .string s]] w (InPost (.str s) w) := by
  go_enter Tryd.func29, Tryd.ntmps29
  go_wp2
  go_ret
  exact in_post rfl (by repeat (first | exact Below.refl _ _ | refine below_drewN ?_ _ | refine Below.drew ?_ | refine Below.alloc ?_ (by simp) _)) rfl
set_option maxRecDepth 100000 in
set_option maxHeartbeats 1000000 in
theorem in_idealInt (n : Int) (w : World) : Calls Tryd.prog 29 #[.agg #[.string ⟨#[105, 100, 101, 97, 108, 73, 110, 116]⟩, .int .i64 n, .int .u64 0, .float .f64 0, .string ⟨#[]⟩]] w (InPost (.iInt n) w) := by
  go_enter Tryd.func29, Tryd.ntmps29
  go_wp2
  go_ret
  exact in_post rfl (by repeat (first | exact Below.refl _ _ | refine below_drewN ?_ _ | refine Below.drew ?_ | refine Below.alloc ?_ (by simp) _)) rfl
set_option maxRecDepth 100000 in
set_option maxHeartbeats 1000000 in
theorem in_idealRune (n : Int) (h1 : -2147483648 ≤ n) (h2 : n ≤ 2147483647) (w : World) : Calls Tryd.prog 29 #[.agg #[.string ⟨#[105, 100, 101, 97, 108, 82, 117, 110, 101]⟩, .int .i64 n, .int .u64 0, .float .f64 0, .string ⟨#[]⟩]] w (InPost (.iRune n) w) := by
  have hw : IntKind.i32.wrap n = n := IntWalk.i32_in _ ⟨h1, h2⟩
  go_enter Tryd.func29, Tryd.ntmps29
  go_wp2
  go_ret
  exact in_post rfl (by repeat (first | exact Below.refl _ _ | refine below_drewN ?_ _ | refine Below.drew ?_ | refine Below.alloc ?_ (by simp) _)) rfl
set_option maxRecDepth 100000 in
set_option maxHeartbeats 1000000 in
theorem in_idealUint (n : Int) (w : World) : Calls Tryd.prog 29 #[.agg #[.string ⟨#[105, 100, 101, 97, 108, 85, 105, 110, 116]⟩, .int .i64 0, .int .u64 n, .float .f64 0, .string ⟨#[]⟩]] w (InPost (.iUint n) w) := by
  go_enter Tryd.func29, Tryd.ntmps29
  go_wp2
  go_ret
  exact in_post rfl (by repeat (first | exact Below.refl _ _ | refine below_drewN ?_ _ | refine Below.drew ?_ | refine Below.alloc ?_ (by simp) _)) rfl
set_option maxRecDepth 100000 in
set_option maxHeartbeats 1000000 in
theorem in_idealFloat (d : Nat) (w : World) : Calls Tryd.prog 29 #[.agg #[.string ⟨#[105, 100, 101, 97, 108, 70, 108, 111, 97, 116]⟩, .int .i64 0, .int .u64 0, .float .f64 d, .string ⟨#[]⟩]] w (InPost (.iFlt d) w) := by
  go_enter Tryd.func29, Tryd.ntmps29
  go_wp2
  go_ret
  exact in_post rfl (by repeat (first | exact Below.refl _ _ | refine below_drewN ?_ _ | refine Below.drew ?_ | refine Below.alloc ?_ (by simp) _)) rfl

/-- The float that a conversion of no number gives: no number. -/
def nanOf (k : FloatKind) (b : Nat) (w : World) : Nat := Question.cut (.nanConv k b) (w.tape w.drawn (.nanConv k b))
theorem nanOf_nan (k : FloatKind) (b : Nat) (w : World) : nanK k (nanOf k b w) = true ∧ nanOf k b w < 2 ^ k.format.width := by
  generalize ht : w.tape w.drawn (.nanConv k b) = t
  cases k
  · have e : nanOf .f32 b w = Ieee.single.word (t % 2 == 1) (Ieee.single.infRung + 1 + (t / 2) % (2 ^ 23 - 1)) := by
      unfold nanOf; rw [ht]
      show (t % 2) * 2 ^ 31 + 0x7f800000 + 1 + (t / 2) % (2 ^ 23 - 1) = _
      have h1 : Ieee.single.infRung = 0x7f800000 := rfl
      have h2 : Ieee.single.signWeight = 2 ^ 31 := rfl
      unfold Ieee.Format.word
      rw [h1, h2]
      have hm : t % 2 = 0 ∨ t % 2 = 1 := by omega
      rcases hm with hm | hm <;> simp [hm] <;> omega
    have hx : (t / 2) % (2 ^ 23 - 1) < 2 ^ 23 - 1 := Nat.mod_lt _ (by decide)
    have h1 : Ieee.single.infRung = 0x7f800000 := rfl
    have h2 : Ieee.single.signWeight = 2 ^ 31 := rfl
    rw [e]
    exact ⟨nanK_nan (k := .f32) (read_nan .f32 _ (show Ieee.single.infRung < _ by omega) (show _ < Ieee.single.signWeight by rw [h1, h2]; omega)), Ieee.single.word_lt _ (by rw [h1, h2]; omega)⟩
  · have e : nanOf .f64 b w = Ieee.double.word (t % 2 == 1) (Ieee.double.infRung + 1 + (t / 2) % (2 ^ 52 - 1)) := by
      unfold nanOf; rw [ht]
      show (t % 2) * 2 ^ 63 + 0x7ff0000000000000 + 1 + (t / 2) % (2 ^ 52 - 1) = _
      have h1 : Ieee.double.infRung = 0x7ff0000000000000 := rfl
      have h2 : Ieee.double.signWeight = 2 ^ 63 := rfl
      unfold Ieee.Format.word
      rw [h1, h2]
      have hm : t % 2 = 0 ∨ t % 2 = 1 := by omega
      rcases hm with hm | hm <;> simp [hm] <;> omega
    have hx : (t / 2) % (2 ^ 52 - 1) < 2 ^ 52 - 1 := Nat.mod_lt _ (by decide)
    have h1 : Ieee.double.infRung = 0x7ff0000000000000 := rfl
    have h2 : Ieee.double.signWeight = 2 ^ 63 := rfl
    rw [e]
    exact ⟨nanK_nan (k := .f64) (read_nan .f64 _ (show Ieee.double.infRung < _ by omega) (show _ < Ieee.double.signWeight by rw [h1, h2]; omega)), Ieee.double.word_lt _ (by rw [h1, h2]; omega)⟩
theorem decode_nan {s : FloatKind} {b : Nat} (h : nanK s b = true) : ∃ neg fr, s.decode b = .nan neg fr := by
  cases e : s.decode b with
  | number neg m p => rw [nanK_number (k := s) (r := b) e] at h; cases h
  | infinity neg => rw [nanK_inf (k := s) (r := b) e] at h; cases h
  | nan neg fr => exact ⟨neg, fr, rfl⟩
theorem run_conv_nan {P : Program} (src dst : TypeId) (s k : FloatKind) (b : Nat) (hs : (P.underlying src).isSome = true) (hd : P.underlying dst = some (.float k)) (hne : s ≠ k) (hn : nanK s b = true) (w : World) :
    (convert src dst (.float s b)).run P w = .ok (.float k (nanOf k b w)) w.drew := by
  obtain ⟨u, hs'⟩ := Option.isSome_iff_exists.1 hs
  obtain ⟨neg, fr, he⟩ := decode_nan hn
  have hf : Question.forced (.nanConv k b) = false := by cases k <;> rfl
  cases u <;> simp [convert, run_underlying hs', run_underlying hd, Conv.floatToFloat, hne, he, choose, Sem.run, hf, nanOf] <;> rfl
/-- .. of a number that is too great. -/
def overOf (b : Nat) (w : World) : Nat := Question.cut (.floatToFloat b) (w.tape w.drawn (.floatToFloat b))
theorem overOf_lt (b : Nat) (w : World) : overOf b w < 2 ^ 32 := Nat.mod_lt _ (by decide)
theorem run_conv_over {P : Program} (src dst : TypeId) (s k : FloatKind) (b : Nat) (hs : (P.underlying src).isSome = true) (hd : P.underlying dst = some (.float k)) (hne : s ≠ k) (hn : nanK s b = false) (ho : floatToFloatBits s b k = none) (w : World) :
    (convert src dst (.float s b)).run P w = .ok (.float k (overOf b w)) w.drew := by
  obtain ⟨u, hs'⟩ := Option.isSome_iff_exists.1 hs
  have hf : Question.forced (.floatToFloat b) = false := rfl
  unfold floatToFloatBits at ho
  rw [if_neg hne] at ho
  cases e : s.decode b with
  | number neg m p =>
    simp only [e] at ho
    split at ho
    · rename_i hi
      cases u <;> simp [convert, run_underlying hs', run_underlying hd, Conv.floatToFloat, hne, e, hi, choose, Sem.run, hf, overOf] <;> rfl
    · cases ho
  | infinity neg => simp only [e] at ho; cases ho
  | nan neg fr => rw [nanK_nan (k := s) (r := b) e] at hn; cases hn
theorem nan64_eq (d : Nat) : nan64 d = nanK .f64 d := rfl
set_option maxRecDepth 100000 in
set_option maxHeartbeats 1000000 in
theorem in_float32_nan (d : Nat) (h : nanK .f64 d = true) (w : World) : Calls Tryd.prog 29 #[.agg #[.string ⟨#[102, 108, 111, 97, 116, 51, 50]⟩, .int .i64 0, .int .u64 0, .float .f64 d, .string ⟨#[]⟩]] w (InPost (.flt .f32 d) w) := by
  have hc := run_conv_nan (P := Tryd.prog) 23 68 .f64 .f32 d rfl rfl (by decide) h
  go_enter Tryd.func29, Tryd.ntmps29
  go_wp2
  go_ret
  exact in_post rfl (by repeat (first | exact Below.refl _ _ | refine below_drewN ?_ _ | refine Below.drew ?_ | refine Below.alloc ?_ (by simp) _)) ⟨_, rfl, .inl ⟨h, (nanOf_nan _ _ _).1, (nanOf_nan _ _ _).2⟩⟩
set_option maxRecDepth 100000 in
set_option maxHeartbeats 1000000 in
theorem in_float32_num (d r : Nat) (h : nanK .f64 d = false) (h1 : floatToFloatBits .f64 d .f32 = some r) (h2 : floatToFloatBits .f32 r .f64 = some d) (w : World) : Calls Tryd.prog 29 #[.agg #[.string ⟨#[102, 108, 111, 97, 116, 51, 50]⟩, .int .i64 0, .int .u64 0, .float .f64 d, .string ⟨#[]⟩]] w (InPost (.flt .f32 d) w) := by
  have hc := fun W => run_convert_float_float (P := Tryd.prog) W 23 68 .f64 .f32 d r rfl rfl h1
  have H1 := Lib.hid h1
  have H2 := Lib.hid h2
  clear h1 h2
  go_enter Tryd.func29, Tryd.ntmps29
  go_wp2
  go_ret
  exact in_post rfl (by repeat (first | exact Below.refl _ _ | refine below_drewN ?_ _ | refine Below.drew ?_ | refine Below.alloc ?_ (by simp) _)) ⟨_, rfl, .inr ⟨h, H1.out, H2.out⟩⟩

theorem blob_cell {W : World} {e : TypeId} {s : ByteArray} {c b : Nat} {m : Nat × Nat} (hb : b = W.heap.size) (j : Nat) (hj : j < s.data.toList.length) :
    ((W.alloc (.cells (bytesRow s c) e m)).drew).cell? ⟨b, j, none⟩ = some (.int .u8 (s.data.toList[j].toNat : Int)) := by
  subst hb
  have hj' : j < s.data.size := by simpa using hj
  show (W.alloc _).cell? _ = _
  rw [World.cell?_alloc_mark, bytesRow_at s _ j hj']
  simp
set_option maxRecDepth 100000 in
set_option maxHeartbeats 1000000 in
theorem in_blob (s : ByteArray) (w : World) : Calls Tryd.prog 29 #[.agg #[.string ⟨#[98, 108, 111, 98]⟩, .int .i64 0, .int .u64 0, .float .f64 0, .string s]] w (InPost (.blob s) w) := by
  have hc := fun W => run_bytes_of_string (P := Tryd.prog) W 9 78 5 s rfl rfl rfl
  go_enter Tryd.func29, Tryd.ntmps29
  go_wp2
  go_ret
  exact in_post rfl (by repeat (first | exact Below.refl _ _ | refine below_drewN ?_ _ | refine Below.drew ?_ | refine Below.alloc ?_ (by simp) _)) ⟨_, _, rfl, by simp, fun j hj => blob_cell (by simp) j hj⟩
theorem in_any (v : V) (hv : v.ok) (w : World) : Calls Tryd.prog 29 #[.agg #[.string v.K, .int .i64 v.N, .int .u64 v.U, .float .f64 v.F, .string v.S]] w (InPost v w) := by
  rcases v with _ | b | ⟨k, n⟩ | ⟨k, d⟩ | s | s | n | n | n | d
  · exact in_null w
  · cases b
    · exact in_false w
    · exact in_true w
  · cases k
    · exact in_int8 n hv.1 hv.2 w
    · exact in_int16 n hv.1 hv.2 w
    · exact in_int32 n hv.1 hv.2 w
    · exact in_int64 n hv.1 hv.2 w
    · exact in_uint8 n hv.1 hv.2 w
    · exact in_uint16 n hv.1 hv.2 w
    · exact in_uint32 n hv.1 hv.2 w
    · exact in_uint64 n hv.1 hv.2 w
  · cases k
    · cases hn : nanK .f64 d with
      | true => exact in_float32_nan d hn w
      | false =>
        rcases hv with h | ⟨r, h1, h2⟩
        · rw [nan64_eq, hn] at h; cases h
        · exact in_float32_num d r hn h1 h2 w
    · exact in_float64 d w
  · exact in_string s w
  · exact in_blob s w
  · exact in_idealInt n w
  · exact in_idealRune n hv.1 hv.2 w
  · exact in_idealUint n w
  · exact in_idealFloat d w
end Go.Proofs.YtpkgngpmnapdoaaDoor
