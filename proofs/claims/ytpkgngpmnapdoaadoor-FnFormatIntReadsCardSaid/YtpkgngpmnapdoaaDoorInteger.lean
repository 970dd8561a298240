/- width of any kind; isInteger. -/
import Derived.Test.YtpkgngpmnapdoaaDoorConc
namespace Go.Proofs.YtpkgngpmnapdoaaDoor
open Go.RowKit
set_option linter.unusedVariables false
set_option linter.unusedSimpArgs false
set_option maxRecDepth 100000
attribute [local go_sem] store_flt
/-- A kind of integers, literals too. -/
def intK (k : ByteArray) : Bool := ([[105, 110, 116, 56], [105, 110, 116, 49, 54], [105, 110, 116, 51, 50], [105, 110, 116, 54, 52], [117, 105, 110, 116, 56], [117, 105, 110, 116, 49, 54], [117, 105, 110, 116, 51, 50], [117, 105, 110, 116, 54, 52], [105, 100, 101, 97, 108, 73, 110, 116], [105, 100, 101, 97, 108, 82, 117, 110, 101], [105, 100, 101, 97, 108, 85, 105, 110, 116]] : List (List UInt8)).contains k.data.toList
theorem intK_int (v : V) (h : intK v.K = true) (hi : v.ideal = false) : ∃ k n, v = .int k n := by
  rcases v with _ | b | ⟨k, n⟩ | ⟨k, d⟩ | s | s | n | n | n | d
  · exact absurd h (by simp [V.K, intK])
  · exact absurd h (by simp [V.K, intK])
  · exact ⟨k, n, rfl⟩
  · cases k <;> exact absurd h (by simp [V.K, intK])
  · exact absurd h (by simp [V.K, intK])
  · exact absurd h (by simp [V.K, intK])
  all_goals cases hi
def WidthPost (k : ByteArray) (w : World) (e : Ending) (w' : World) : Prop := ∃ (m : Int) (b : Bool), e = .returned (.tuple #[.int .i64 m, .bool b]) ∧ w' = w ∧ 0 ≤ m ∧ ((m == 0) = false → intK k = true)
theorem width_some (k : ByteArray) (w : World) : Calls Tryd.prog 22 #[.string k] w (WidthPost k w) := by
  by_cases e0 : k = ⟨#[]⟩
  · subst e0; exact (width_null w).mono fun e w' h => ⟨_, _, h.1, h.2, by decide, by decide +kernel⟩
  by_cases e1 : k = ⟨#[98, 111, 111, 108]⟩
  · subst e1; exact (width_bool w).mono fun e w' h => ⟨_, _, h.1, h.2, by decide, by decide +kernel⟩
  by_cases e2 : k = ⟨#[105, 110, 116, 56]⟩
  · subst e2; exact (width_int8 w).mono fun e w' h => ⟨_, _, h.1, h.2, by decide, by decide +kernel⟩
  by_cases e3 : k = ⟨#[105, 110, 116, 49, 54]⟩
  · subst e3; exact (width_int16 w).mono fun e w' h => ⟨_, _, h.1, h.2, by decide, by decide +kernel⟩
  by_cases e4 : k = ⟨#[105, 110, 116, 51, 50]⟩
  · subst e4; exact (width_int32 w).mono fun e w' h => ⟨_, _, h.1, h.2, by decide, by decide +kernel⟩
  by_cases e5 : k = ⟨#[105, 110, 116, 54, 52]⟩
  · subst e5; exact (width_int64 w).mono fun e w' h => ⟨_, _, h.1, h.2, by decide, by decide +kernel⟩
  by_cases e6 : k = ⟨#[117, 105, 110, 116, 56]⟩
  · subst e6; exact (width_uint8 w).mono fun e w' h => ⟨_, _, h.1, h.2, by decide, by decide +kernel⟩
  by_cases e7 : k = ⟨#[117, 105, 110, 116, 49, 54]⟩
  · subst e7; exact (width_uint16 w).mono fun e w' h => ⟨_, _, h.1, h.2, by decide, by decide +kernel⟩
  by_cases e8 : k = ⟨#[117, 105, 110, 116, 51, 50]⟩
  · subst e8; exact (width_uint32 w).mono fun e w' h => ⟨_, _, h.1, h.2, by decide, by decide +kernel⟩
  by_cases e9 : k = ⟨#[117, 105, 110, 116, 54, 52]⟩
  · subst e9; exact (width_uint64 w).mono fun e w' h => ⟨_, _, h.1, h.2, by decide, by decide +kernel⟩
  by_cases e10 : k = ⟨#[102, 108, 111, 97, 116, 51, 50]⟩
  · subst e10; exact (width_float32 w).mono fun e w' h => ⟨_, _, h.1, h.2, by decide, by decide +kernel⟩
  by_cases e11 : k = ⟨#[102, 108, 111, 97, 116, 54, 52]⟩
  · subst e11; exact (width_float64 w).mono fun e w' h => ⟨_, _, h.1, h.2, by decide, by decide +kernel⟩
  by_cases e12 : k = ⟨#[115, 116, 114, 105, 110, 103]⟩
  · subst e12; exact (width_string w).mono fun e w' h => ⟨_, _, h.1, h.2, by decide, by decide +kernel⟩
  by_cases e13 : k = ⟨#[98, 108, 111, 98]⟩
  · subst e13; exact (width_blob w).mono fun e w' h => ⟨_, _, h.1, h.2, by decide, by decide +kernel⟩
  by_cases e14 : k = ⟨#[105, 100, 101, 97, 108, 73, 110, 116]⟩
  · subst e14; exact (width_idealInt w).mono fun e w' h => ⟨_, _, h.1, h.2, by decide, by decide +kernel⟩
  by_cases e15 : k = ⟨#[105, 100, 101, 97, 108, 82, 117, 110, 101]⟩
  · subst e15; exact (width_idealRune w).mono fun e w' h => ⟨_, _, h.1, h.2, by decide, by decide +kernel⟩
  by_cases e16 : k = ⟨#[105, 100, 101, 97, 108, 85, 105, 110, 116]⟩
  · subst e16; exact (width_idealUint w).mono fun e w' h => ⟨_, _, h.1, h.2, by decide, by decide +kernel⟩
  by_cases e17 : k = ⟨#[105, 100, 101, 97, 108, 70, 108, 111, 97, 116]⟩
  · subst e17; exact (width_idealFloat w).mono fun e w' h => ⟨_, _, h.1, h.2, by decide, by decide +kernel⟩
  exact (width_other k (ne_lit e1) (ne_lit e2) (ne_lit e3) (ne_lit e4) (ne_lit e5) (ne_lit e6) (ne_lit e7) (ne_lit e8) (ne_lit e9) (ne_lit e10) (ne_lit e11) (ne_lit e12) (ne_lit e13) (ne_lit e14) (ne_lit e15) (ne_lit e16) (ne_lit e17) w).mono fun e w' h => ⟨_, _, h.1, h.2, by decide, fun h => absurd h (by decide)⟩
def IntgPost (k : ByteArray) (n u : Int) (f : Nat) (s : ByteArray) (w : World) (e : Ending) (w' : World) : Prop :=
  ∃ b : Bool, e = .returned (.bool b) ∧ (b = true → ∃ (kd : IntKind) (m : Int), (V.int kd m).ok ∧ (V.int kd m).K = k ∧ (V.int kd m).N = n ∧ (V.int kd m).U = u ∧ (V.int kd m).F = f ∧ (V.int kd m).S = s) ∧ Below w.heap.size w w'
theorem intg_post {k : ByteArray} {n u : Int} {f : Nat} {s : ByteArray} {w w' : World} {e : Ending} {b : Bool} (he : e = .returned (.bool b)) (hb : Below w.heap.size w w')
    (h : b = true → IsConc k n u f s) (hk : intK k = true) : IntgPost k n u f s w e w' := ⟨b, he, fun hb => by
      obtain ⟨v, hv, rfl, rfl, rfl, rfl, rfl⟩ := h hb
      obtain ⟨kd, m, rfl⟩ := intK_int v hk hv.2.1
      exact ⟨kd, m, hv.1, rfl, rfl, rfl, rfl, rfl⟩, hb⟩
theorem intg_no {k : ByteArray} {n u : Int} {f : Nat} {s : ByteArray} {w w' : World} {e : Ending} (he : e = .returned (.bool false)) (hb : Below w.heap.size w w') : IntgPost k n u f s w e w' := ⟨false, he, (fun h => nomatch h), hb⟩
set_option maxRecDepth 100000 in
set_option maxHeartbeats 1000000 in
theorem isInteger_any (k : ByteArray) (n u : Int) (f : Nat) (s : ByteArray) (n1 : -9223372036854775808 ≤ n) (n2 : n ≤ 9223372036854775807) (u1 : 0 ≤ u) (u2 : u ≤ 18446744073709551615) (w : World) :
    Calls Tryd.prog 12 #[.agg #[.string k, .int .i64 n, .int .u64 u, .float .f64 f, .string s]] w (IntgPost k n u f s w) := by
  have N1 := Lib.hid n1
  have N2 := Lib.hid n2
  have U1 := Lib.hid u1
  have U2 := Lib.hid u2
  clear n1 n2 u1 u2
  have B0 : Below w.heap.size w (w.alloc (.cells #[.string k, .int .i64 n, .int .u64 u, .float .f64 f, .string s] 25)) := (Below.refl _ _).alloc (Nat.le_refl _) _
  have HB := Lib.hid B0
  clear B0
  go_enter Tryd.func12, Tryd.ntmps12
  go_wp2_with fail
  refine (width_some k _).mono ?_
  rintro e w1 ⟨m, b, rfl, rfl, hm, hk⟩
  have HK := Lib.hid hk
  clear hk
  by_cases h0 : 0 < m
  · go_wp2_with fail
    refine (concrete_any k n u f s N1.out N2.out U1.out U2.out _).mono ?_
    rintro e w2 ⟨b2, rfl, hc, hb2⟩
    have HC := Lib.hid hc
    clear hc
    have hk := HK.out (by simp; omega)
    go_wp2
    go_ret
    exact intg_post rfl (HB.out.trans (hb2.mono HB.out.size)) HC.out hk
  · go_wp2
    go_ret
    exact intg_no rfl HB.out
end Go.Proofs.YtpkgngpmnapdoaaDoor
