/- The values that go in and out (V), what each reads as (K, N, U, F, S), and the contracts of the laws' small functions (num, str, bits, width, isFloat, isIdeal, zzFits1): plain facts, each for every input. -/
import Derived.Test.YtpkgngpmnapdoaaDoorRows
import Derived.WalkKit
import Derived.WalkSpells
import Derived.WalkLawsBesides
import Derived.Handy
import Derived.Lib.Hide
import Derived.Deep.QuietTactic
import Derived.BigQuiet
namespace Go.Proofs.YtpkgngpmnapdoaaDoor
open Go.RowKit
set_option linter.unusedVariables false
set_option linter.unusedSimpArgs false
set_option maxRecDepth 100000

/-- A value, of a kind. -/
inductive V where
  | null
  | bool (b : Bool)
  | int (k : IntKind) (n : Int)
  | flt (k : FloatKind) (d : Nat)
  | str (s : ByteArray)
  | blob (s : ByteArray)
  | iInt (n : Int)
  | iRune (n : Int)
  | iUint (n : Int)
  | iFlt (d : Nat)

def kname : IntKind → ByteArray
  | .i8 => ⟨#[105, 110, 116, 56]⟩
  | .i16 => ⟨#[105, 110, 116, 49, 54]⟩
  | .i32 => ⟨#[105, 110, 116, 51, 50]⟩
  | .i64 => ⟨#[105, 110, 116, 54, 52]⟩
  | .u8 => ⟨#[117, 105, 110, 116, 56]⟩
  | .u16 => ⟨#[117, 105, 110, 116, 49, 54]⟩
  | .u32 => ⟨#[117, 105, 110, 116, 51, 50]⟩
  | .u64 => ⟨#[117, 105, 110, 116, 54, 52]⟩
def V.K : V → ByteArray
  | .null => ⟨#[]⟩
  | .bool _ => ⟨#[98, 111, 111, 108]⟩
  | .int .i8 _ => ⟨#[105, 110, 116, 56]⟩
  | .int .i16 _ => ⟨#[105, 110, 116, 49, 54]⟩
  | .int .i32 _ => ⟨#[105, 110, 116, 51, 50]⟩
  | .int .i64 _ => ⟨#[105, 110, 116, 54, 52]⟩
  | .int .u8 _ => ⟨#[117, 105, 110, 116, 56]⟩
  | .int .u16 _ => ⟨#[117, 105, 110, 116, 49, 54]⟩
  | .int .u32 _ => ⟨#[117, 105, 110, 116, 51, 50]⟩
  | .int .u64 _ => ⟨#[117, 105, 110, 116, 54, 52]⟩
  | .flt .f32 _ => ⟨#[102, 108, 111, 97, 116, 51, 50]⟩
  | .flt .f64 _ => ⟨#[102, 108, 111, 97, 116, 54, 52]⟩
  | .str _ => ⟨#[115, 116, 114, 105, 110, 103]⟩
  | .blob _ => ⟨#[98, 108, 111, 98]⟩
  | .iInt _ => ⟨#[105, 100, 101, 97, 108, 73, 110, 116]⟩
  | .iRune _ => ⟨#[105, 100, 101, 97, 108, 82, 117, 110, 101]⟩
  | .iUint _ => ⟨#[105, 100, 101, 97, 108, 85, 105, 110, 116]⟩
  | .iFlt _ => ⟨#[105, 100, 101, 97, 108, 70, 108, 111, 97, 116]⟩
def V.N : V → Int
  | .bool b => if b then 1 else 0
  | .int .i8 n => n
  | .int .i16 n => n
  | .int .i32 n => n
  | .int .i64 n => n
  | .iInt n => n
  | .iRune n => n
  | _ => 0
def V.U : V → Int
  | .int .u8 n => n
  | .int .u16 n => n
  | .int .u32 n => n
  | .int .u64 n => n
  | .iUint n => n
  | _ => 0
def V.F : V → Nat
  | .flt _ d => d
  | .iFlt d => d
  | _ => 0
def V.S : V → ByteArray
  | .str s => s
  | .blob s => s
  | _ => ⟨#[]⟩

/-- Is a float64 no number? -/
def nan64 (f : Nat) : Bool := FloatKind.f64.format.order f f != some Ordering.eq
def bitsB (f : Nat) : Nat := if nan64 f then 1 else f
/-- A float64 that a float32 has, or that is no number. -/
def F32ok (d : Nat) : Prop := nan64 d = true ∨ ∃ r, floatToFloatBits .f64 d .f32 = some r ∧ floatToFloatBits .f32 r .f64 = some d
def V.ok : V → Prop
  | .int .i8 n => -128 ≤ n ∧ n ≤ 127
  | .int .i16 n => -32768 ≤ n ∧ n ≤ 32767
  | .int .i32 n => -2147483648 ≤ n ∧ n ≤ 2147483647
  | .int .i64 n => -9223372036854775808 ≤ n ∧ n ≤ 9223372036854775807
  | .int .u8 n => 0 ≤ n ∧ n ≤ 255
  | .int .u16 n => 0 ≤ n ∧ n ≤ 65535
  | .int .u32 n => 0 ≤ n ∧ n ≤ 4294967295
  | .int .u64 n => 0 ≤ n ∧ n ≤ 18446744073709551615
  | .flt .f32 d => F32ok d
  | .str s => s.size ≤ 65536
  | .blob s => s.size ≤ 65536
  | .iInt n => -9223372036854775808 ≤ n ∧ n ≤ 9223372036854775807
  | .iRune n => -2147483648 ≤ n ∧ n ≤ 2147483647
  | .iUint n => 0 ≤ n ∧ n ≤ 18446744073709551615
  | _ => True
def V.ideal : V → Bool
  | .iInt _ | .iRune _ | .iUint _ | .iFlt _ => true
  | _ => false
/-- Of a type, or NULL; a number, if it is a float. -/
def V.conc (v : V) : Prop := v.ok ∧ v.ideal = false ∧ nan64 v.F = false

theorem nan_zero : nan64 0 = false := by decide +kernel
theorem bits_zero : bitsB 0 = 0 := by unfold bitsB; rw [nan_zero]; rfl
theorem zero_of_bits {f : Nat} (h : bitsB f = 0) : f = 0 := by
  unfold bitsB at h
  split at h
  · omega
  · exact h

/-- What stands below reads as before. -/
theorem bcell {W w1 : World} (hb : Below W.heap.size W w1) : (∀ b o, b < W.heap.size → w1.cell? ⟨b, o, none⟩ = W.cell? ⟨b, o, none⟩) ∧ (∀ b o, b < W.heap.size → w1.frozen? ⟨b, o, none⟩ = W.frozen? ⟨b, o, none⟩) :=
  ⟨fun b o h => hb.cell (p := ⟨b, o, none⟩) h, fun b o h => hb.frozen (p := ⟨b, o, none⟩) h⟩
theorem store_flt (P : Program) (w : World) (a : Addr) (m : Mode) (k : FloatKind) (b : Nat) : (store a (.float k b) m).run P w = stored P w a (.float k b) m := run_store P w a _ m rfl
theorem run_bits (f : Nat) (w : World) : (callFunc 56 #[.float .f64 f]).run Tryd.prog w = .ok (.value (.int .u64 f)) w := by
  rw [run_callFunc_extern (P := Tryd.prog) (f := 56) (fn := Tryd.f56) (e := Extern.MathFloatBits.float64bits) rfl (by kernel_rfl) rfl (by kernel_rfl) (by kernel_rfl)]
  rfl
theorem bits_any (f : Nat) (w : World) : Calls Tryd.prog 35 #[.float .f64 f] w fun e w' => e = .returned (.int .u64 (bitsB f)) ∧ w' = w := by
  unfold bitsB nan64
  have hb := run_bits
  by_cases h : (FloatKind.f64.format.order f f != some Ordering.eq) = true
  · rw [if_pos h]
    go_enter Tryd.func35, Tryd.ntmps35
    go_wp2
    go_ret
    exact ⟨rfl, rfl⟩
  · rw [if_neg h]
    go_enter Tryd.func35, Tryd.ntmps35
    go_wp2
    go_ret
    exact ⟨rfl, rfl⟩

theorem width_null (w : World) : Calls Tryd.prog 22 #[.string ⟨#[]⟩] w fun e w' => e = .returned (.tuple #[.int .i64 0, .bool false]) ∧ w' = w := by
  go_enter Tryd.func22, Tryd.ntmps22
  go_wp2
  go_ret2
  exact ⟨rfl, rfl⟩
theorem width_bool (w : World) : Calls Tryd.prog 22 #[.string ⟨#[98, 111, 111, 108]⟩] w fun e w' => e = .returned (.tuple #[.int .i64 0, .bool false]) ∧ w' = w := by
  go_enter Tryd.func22, Tryd.ntmps22
  go_wp2
  go_ret2
  exact ⟨rfl, rfl⟩
theorem width_int8 (w : World) : Calls Tryd.prog 22 #[.string ⟨#[105, 110, 116, 56]⟩] w fun e w' => e = .returned (.tuple #[.int .i64 8, .bool true]) ∧ w' = w := by
  go_enter Tryd.func22, Tryd.ntmps22
  go_wp2
  go_ret2
  exact ⟨rfl, rfl⟩
theorem width_int16 (w : World) : Calls Tryd.prog 22 #[.string ⟨#[105, 110, 116, 49, 54]⟩] w fun e w' => e = .returned (.tuple #[.int .i64 16, .bool true]) ∧ w' = w := by
  go_enter Tryd.func22, Tryd.ntmps22
  go_wp2
  go_ret2
  exact ⟨rfl, rfl⟩
theorem width_int32 (w : World) : Calls Tryd.prog 22 #[.string ⟨#[105, 110, 116, 51, 50]⟩] w fun e w' => e = .returned (.tuple #[.int .i64 32, .bool true]) ∧ w' = w := by
  go_enter Tryd.func22, Tryd.ntmps22
  go_wp2
  go_ret2
  exact ⟨rfl, rfl⟩
theorem width_int64 (w : World) : Calls Tryd.prog 22 #[.string ⟨#[105, 110, 116, 54, 52]⟩] w fun e w' => e = .returned (.tuple #[.int .i64 64, .bool true]) ∧ w' = w := by
  go_enter Tryd.func22, Tryd.ntmps22
  go_wp2
  go_ret2
  exact ⟨rfl, rfl⟩
theorem width_uint8 (w : World) : Calls Tryd.prog 22 #[.string ⟨#[117, 105, 110, 116, 56]⟩] w fun e w' => e = .returned (.tuple #[.int .i64 8, .bool false]) ∧ w' = w := by
  go_enter Tryd.func22, Tryd.ntmps22
  go_wp2
  go_ret2
  exact ⟨rfl, rfl⟩
theorem width_uint16 (w : World) : Calls Tryd.prog 22 #[.string ⟨#[117, 105, 110, 116, 49, 54]⟩] w fun e w' => e = .returned (.tuple #[.int .i64 16, .bool false]) ∧ w' = w := by
  go_enter Tryd.func22, Tryd.ntmps22
  go_wp2
  go_ret2
  exact ⟨rfl, rfl⟩
theorem width_uint32 (w : World) : Calls Tryd.prog 22 #[.string ⟨#[117, 105, 110, 116, 51, 50]⟩] w fun e w' => e = .returned (.tuple #[.int .i64 32, .bool false]) ∧ w' = w := by
  go_enter Tryd.func22, Tryd.ntmps22
  go_wp2
  go_ret2
  exact ⟨rfl, rfl⟩
theorem width_uint64 (w : World) : Calls Tryd.prog 22 #[.string ⟨#[117, 105, 110, 116, 54, 52]⟩] w fun e w' => e = .returned (.tuple #[.int .i64 64, .bool false]) ∧ w' = w := by
  go_enter Tryd.func22, Tryd.ntmps22
  go_wp2
  go_ret2
  exact ⟨rfl, rfl⟩
theorem width_float32 (w : World) : Calls Tryd.prog 22 #[.string ⟨#[102, 108, 111, 97, 116, 51, 50]⟩] w fun e w' => e = .returned (.tuple #[.int .i64 0, .bool false]) ∧ w' = w := by
  go_enter Tryd.func22, Tryd.ntmps22
  go_wp2
  go_ret2
  exact ⟨rfl, rfl⟩
theorem width_float64 (w : World) : Calls Tryd.prog 22 #[.string ⟨#[102, 108, 111, 97, 116, 54, 52]⟩] w fun e w' => e = .returned (.tuple #[.int .i64 0, .bool false]) ∧ w' = w := by
  go_enter Tryd.func22, Tryd.ntmps22
  go_wp2
  go_ret2
  exact ⟨rfl, rfl⟩
theorem width_string (w : World) : Calls Tryd.prog 22 #[.string ⟨#[115, 116, 114, 105, 110, 103]⟩] w fun e w' => e = .returned (.tuple #[.int .i64 0, .bool false]) ∧ w' = w := by
  go_enter Tryd.func22, Tryd.ntmps22
  go_wp2
  go_ret2
  exact ⟨rfl, rfl⟩
theorem width_blob (w : World) : Calls Tryd.prog 22 #[.string ⟨#[98, 108, 111, 98]⟩] w fun e w' => e = .returned (.tuple #[.int .i64 0, .bool false]) ∧ w' = w := by
  go_enter Tryd.func22, Tryd.ntmps22
  go_wp2
  go_ret2
  exact ⟨rfl, rfl⟩
theorem width_idealInt (w : World) : Calls Tryd.prog 22 #[.string ⟨#[105, 100, 101, 97, 108, 73, 110, 116]⟩] w fun e w' => e = .returned (.tuple #[.int .i64 64, .bool true]) ∧ w' = w := by
  go_enter Tryd.func22, Tryd.ntmps22
  go_wp2
  go_ret2
  exact ⟨rfl, rfl⟩
theorem width_idealRune (w : World) : Calls Tryd.prog 22 #[.string ⟨#[105, 100, 101, 97, 108, 82, 117, 110, 101]⟩] w fun e w' => e = .returned (.tuple #[.int .i64 32, .bool true]) ∧ w' = w := by
  go_enter Tryd.func22, Tryd.ntmps22
  go_wp2
  go_ret2
  exact ⟨rfl, rfl⟩
theorem width_idealUint (w : World) : Calls Tryd.prog 22 #[.string ⟨#[105, 100, 101, 97, 108, 85, 105, 110, 116]⟩] w fun e w' => e = .returned (.tuple #[.int .i64 64, .bool false]) ∧ w' = w := by
  go_enter Tryd.func22, Tryd.ntmps22
  go_wp2
  go_ret2
  exact ⟨rfl, rfl⟩
theorem width_idealFloat (w : World) : Calls Tryd.prog 22 #[.string ⟨#[105, 100, 101, 97, 108, 70, 108, 111, 97, 116]⟩] w fun e w' => e = .returned (.tuple #[.int .i64 0, .bool false]) ∧ w' = w := by
  go_enter Tryd.func22, Tryd.ntmps22
  go_wp2
  go_ret2
  exact ⟨rfl, rfl⟩
theorem width_other (k : ByteArray) (h1 : (k.toList == [98, 111, 111, 108]) = false) (h2 : (k.toList == [105, 110, 116, 56]) = false) (h3 : (k.toList == [105, 110, 116, 49, 54]) = false) (h4 : (k.toList == [105, 110, 116, 51, 50]) = false) (h5 : (k.toList == [105, 110, 116, 54, 52]) = false) (h6 : (k.toList == [117, 105, 110, 116, 56]) = false) (h7 : (k.toList == [117, 105, 110, 116, 49, 54]) = false) (h8 : (k.toList == [117, 105, 110, 116, 51, 50]) = false) (h9 : (k.toList == [117, 105, 110, 116, 54, 52]) = false) (h10 : (k.toList == [102, 108, 111, 97, 116, 51, 50]) = false) (h11 : (k.toList == [102, 108, 111, 97, 116, 54, 52]) = false) (h12 : (k.toList == [115, 116, 114, 105, 110, 103]) = false) (h13 : (k.toList == [98, 108, 111, 98]) = false) (h14 : (k.toList == [105, 100, 101, 97, 108, 73, 110, 116]) = false) (h15 : (k.toList == [105, 100, 101, 97, 108, 82, 117, 110, 101]) = false) (h16 : (k.toList == [105, 100, 101, 97, 108, 85, 105, 110, 116]) = false) (h17 : (k.toList == [105, 100, 101, 97, 108, 70, 108, 111, 97, 116]) = false) (w : World) : Calls Tryd.prog 22 #[.string k] w fun e w' => e = .returned (.tuple #[.int .i64 0, .bool false]) ∧ w' = w := by
  go_enter Tryd.func22, Tryd.ntmps22
  go_wp2
  go_ret2
  exact ⟨rfl, rfl⟩
theorem isFloat_null (w : World) : Calls Tryd.prog 39 #[.string ⟨#[]⟩] w fun e w' => e = .returned (.bool false) ∧ w' = w := by
  go_enter Tryd.func39, Tryd.ntmps39
  go_wp2
  go_ret
  exact ⟨rfl, rfl⟩
theorem isFloat_bool (w : World) : Calls Tryd.prog 39 #[.string ⟨#[98, 111, 111, 108]⟩] w fun e w' => e = .returned (.bool false) ∧ w' = w := by
  go_enter Tryd.func39, Tryd.ntmps39
  go_wp2
  go_ret
  exact ⟨rfl, rfl⟩
theorem isFloat_int8 (w : World) : Calls Tryd.prog 39 #[.string ⟨#[105, 110, 116, 56]⟩] w fun e w' => e = .returned (.bool false) ∧ w' = w := by
  go_enter Tryd.func39, Tryd.ntmps39
  go_wp2
  go_ret
  exact ⟨rfl, rfl⟩
theorem isFloat_int16 (w : World) : Calls Tryd.prog 39 #[.string ⟨#[105, 110, 116, 49, 54]⟩] w fun e w' => e = .returned (.bool false) ∧ w' = w := by
  go_enter Tryd.func39, Tryd.ntmps39
  go_wp2
  go_ret
  exact ⟨rfl, rfl⟩
theorem isFloat_int32 (w : World) : Calls Tryd.prog 39 #[.string ⟨#[105, 110, 116, 51, 50]⟩] w fun e w' => e = .returned (.bool false) ∧ w' = w := by
  go_enter Tryd.func39, Tryd.ntmps39
  go_wp2
  go_ret
  exact ⟨rfl, rfl⟩
theorem isFloat_int64 (w : World) : Calls Tryd.prog 39 #[.string ⟨#[105, 110, 116, 54, 52]⟩] w fun e w' => e = .returned (.bool false) ∧ w' = w := by
  go_enter Tryd.func39, Tryd.ntmps39
  go_wp2
  go_ret
  exact ⟨rfl, rfl⟩
theorem isFloat_uint8 (w : World) : Calls Tryd.prog 39 #[.string ⟨#[117, 105, 110, 116, 56]⟩] w fun e w' => e = .returned (.bool false) ∧ w' = w := by
  go_enter Tryd.func39, Tryd.ntmps39
  go_wp2
  go_ret
  exact ⟨rfl, rfl⟩
theorem isFloat_uint16 (w : World) : Calls Tryd.prog 39 #[.string ⟨#[117, 105, 110, 116, 49, 54]⟩] w fun e w' => e = .returned (.bool false) ∧ w' = w := by
  go_enter Tryd.func39, Tryd.ntmps39
  go_wp2
  go_ret
  exact ⟨rfl, rfl⟩
theorem isFloat_uint32 (w : World) : Calls Tryd.prog 39 #[.string ⟨#[117, 105, 110, 116, 51, 50]⟩] w fun e w' => e = .returned (.bool false) ∧ w' = w := by
  go_enter Tryd.func39, Tryd.ntmps39
  go_wp2
  go_ret
  exact ⟨rfl, rfl⟩
theorem isFloat_uint64 (w : World) : Calls Tryd.prog 39 #[.string ⟨#[117, 105, 110, 116, 54, 52]⟩] w fun e w' => e = .returned (.bool false) ∧ w' = w := by
  go_enter Tryd.func39, Tryd.ntmps39
  go_wp2
  go_ret
  exact ⟨rfl, rfl⟩
theorem isFloat_float32 (w : World) : Calls Tryd.prog 39 #[.string ⟨#[102, 108, 111, 97, 116, 51, 50]⟩] w fun e w' => e = .returned (.bool true) ∧ w' = w := by
  go_enter Tryd.func39, Tryd.ntmps39
  go_wp2
  go_ret
  exact ⟨rfl, rfl⟩
theorem isFloat_float64 (w : World) : Calls Tryd.prog 39 #[.string ⟨#[102, 108, 111, 97, 116, 54, 52]⟩] w fun e w' => e = .returned (.bool true) ∧ w' = w := by
  go_enter Tryd.func39, Tryd.ntmps39
  go_wp2
  go_ret
  exact ⟨rfl, rfl⟩
theorem isFloat_string (w : World) : Calls Tryd.prog 39 #[.string ⟨#[115, 116, 114, 105, 110, 103]⟩] w fun e w' => e = .returned (.bool false) ∧ w' = w := by
  go_enter Tryd.func39, Tryd.ntmps39
  go_wp2
  go_ret
  exact ⟨rfl, rfl⟩
theorem isFloat_blob (w : World) : Calls Tryd.prog 39 #[.string ⟨#[98, 108, 111, 98]⟩] w fun e w' => e = .returned (.bool false) ∧ w' = w := by
  go_enter Tryd.func39, Tryd.ntmps39
  go_wp2
  go_ret
  exact ⟨rfl, rfl⟩
theorem isFloat_idealInt (w : World) : Calls Tryd.prog 39 #[.string ⟨#[105, 100, 101, 97, 108, 73, 110, 116]⟩] w fun e w' => e = .returned (.bool false) ∧ w' = w := by
  go_enter Tryd.func39, Tryd.ntmps39
  go_wp2
  go_ret
  exact ⟨rfl, rfl⟩
theorem isFloat_idealRune (w : World) : Calls Tryd.prog 39 #[.string ⟨#[105, 100, 101, 97, 108, 82, 117, 110, 101]⟩] w fun e w' => e = .returned (.bool false) ∧ w' = w := by
  go_enter Tryd.func39, Tryd.ntmps39
  go_wp2
  go_ret
  exact ⟨rfl, rfl⟩
theorem isFloat_idealUint (w : World) : Calls Tryd.prog 39 #[.string ⟨#[105, 100, 101, 97, 108, 85, 105, 110, 116]⟩] w fun e w' => e = .returned (.bool false) ∧ w' = w := by
  go_enter Tryd.func39, Tryd.ntmps39
  go_wp2
  go_ret
  exact ⟨rfl, rfl⟩
theorem isFloat_idealFloat (w : World) : Calls Tryd.prog 39 #[.string ⟨#[105, 100, 101, 97, 108, 70, 108, 111, 97, 116]⟩] w fun e w' => e = .returned (.bool true) ∧ w' = w := by
  go_enter Tryd.func39, Tryd.ntmps39
  go_wp2
  go_ret
  exact ⟨rfl, rfl⟩
theorem isFloat_other (k : ByteArray) (h1 : (k.toList == [98, 111, 111, 108]) = false) (h2 : (k.toList == [105, 110, 116, 56]) = false) (h3 : (k.toList == [105, 110, 116, 49, 54]) = false) (h4 : (k.toList == [105, 110, 116, 51, 50]) = false) (h5 : (k.toList == [105, 110, 116, 54, 52]) = false) (h6 : (k.toList == [117, 105, 110, 116, 56]) = false) (h7 : (k.toList == [117, 105, 110, 116, 49, 54]) = false) (h8 : (k.toList == [117, 105, 110, 116, 51, 50]) = false) (h9 : (k.toList == [117, 105, 110, 116, 54, 52]) = false) (h10 : (k.toList == [102, 108, 111, 97, 116, 51, 50]) = false) (h11 : (k.toList == [102, 108, 111, 97, 116, 54, 52]) = false) (h12 : (k.toList == [115, 116, 114, 105, 110, 103]) = false) (h13 : (k.toList == [98, 108, 111, 98]) = false) (h14 : (k.toList == [105, 100, 101, 97, 108, 73, 110, 116]) = false) (h15 : (k.toList == [105, 100, 101, 97, 108, 82, 117, 110, 101]) = false) (h16 : (k.toList == [105, 100, 101, 97, 108, 85, 105, 110, 116]) = false) (h17 : (k.toList == [105, 100, 101, 97, 108, 70, 108, 111, 97, 116]) = false) (w : World) : Calls Tryd.prog 39 #[.string k] w fun e w' => e = .returned (.bool false) ∧ w' = w := by
  go_enter Tryd.func39, Tryd.ntmps39
  go_wp2
  go_ret
  exact ⟨rfl, rfl⟩
theorem isIdeal_null (w : World) : Calls Tryd.prog 53 #[.string ⟨#[]⟩] w fun e w' => e = .returned (.bool false) ∧ w' = w := by
  go_enter Tryd.func53, Tryd.ntmps53
  go_wp2
  go_ret
  exact ⟨rfl, rfl⟩
theorem isIdeal_bool (w : World) : Calls Tryd.prog 53 #[.string ⟨#[98, 111, 111, 108]⟩] w fun e w' => e = .returned (.bool false) ∧ w' = w := by
  go_enter Tryd.func53, Tryd.ntmps53
  go_wp2
  go_ret
  exact ⟨rfl, rfl⟩
theorem isIdeal_int8 (w : World) : Calls Tryd.prog 53 #[.string ⟨#[105, 110, 116, 56]⟩] w fun e w' => e = .returned (.bool false) ∧ w' = w := by
  go_enter Tryd.func53, Tryd.ntmps53
  go_wp2
  go_ret
  exact ⟨rfl, rfl⟩
theorem isIdeal_int16 (w : World) : Calls Tryd.prog 53 #[.string ⟨#[105, 110, 116, 49, 54]⟩] w fun e w' => e = .returned (.bool false) ∧ w' = w := by
  go_enter Tryd.func53, Tryd.ntmps53
  go_wp2
  go_ret
  exact ⟨rfl, rfl⟩
theorem isIdeal_int32 (w : World) : Calls Tryd.prog 53 #[.string ⟨#[105, 110, 116, 51, 50]⟩] w fun e w' => e = .returned (.bool false) ∧ w' = w := by
  go_enter Tryd.func53, Tryd.ntmps53
  go_wp2
  go_ret
  exact ⟨rfl, rfl⟩
theorem isIdeal_int64 (w : World) : Calls Tryd.prog 53 #[.string ⟨#[105, 110, 116, 54, 52]⟩] w fun e w' => e = .returned (.bool false) ∧ w' = w := by
  go_enter Tryd.func53, Tryd.ntmps53
  go_wp2
  go_ret
  exact ⟨rfl, rfl⟩
theorem isIdeal_uint8 (w : World) : Calls Tryd.prog 53 #[.string ⟨#[117, 105, 110, 116, 56]⟩] w fun e w' => e = .returned (.bool false) ∧ w' = w := by
  go_enter Tryd.func53, Tryd.ntmps53
  go_wp2
  go_ret
  exact ⟨rfl, rfl⟩
theorem isIdeal_uint16 (w : World) : Calls Tryd.prog 53 #[.string ⟨#[117, 105, 110, 116, 49, 54]⟩] w fun e w' => e = .returned (.bool false) ∧ w' = w := by
  go_enter Tryd.func53, Tryd.ntmps53
  go_wp2
  go_ret
  exact ⟨rfl, rfl⟩
theorem isIdeal_uint32 (w : World) : Calls Tryd.prog 53 #[.string ⟨#[117, 105, 110, 116, 51, 50]⟩] w fun e w' => e = .returned (.bool false) ∧ w' = w := by
  go_enter Tryd.func53, Tryd.ntmps53
  go_wp2
  go_ret
  exact ⟨rfl, rfl⟩
theorem isIdeal_uint64 (w : World) : Calls Tryd.prog 53 #[.string ⟨#[117, 105, 110, 116, 54, 52]⟩] w fun e w' => e = .returned (.bool false) ∧ w' = w := by
  go_enter Tryd.func53, Tryd.ntmps53
  go_wp2
  go_ret
  exact ⟨rfl, rfl⟩
theorem isIdeal_float32 (w : World) : Calls Tryd.prog 53 #[.string ⟨#[102, 108, 111, 97, 116, 51, 50]⟩] w fun e w' => e = .returned (.bool false) ∧ w' = w := by
  go_enter Tryd.func53, Tryd.ntmps53
  go_wp2
  go_ret
  exact ⟨rfl, rfl⟩
theorem isIdeal_float64 (w : World) : Calls Tryd.prog 53 #[.string ⟨#[102, 108, 111, 97, 116, 54, 52]⟩] w fun e w' => e = .returned (.bool false) ∧ w' = w := by
  go_enter Tryd.func53, Tryd.ntmps53
  go_wp2
  go_ret
  exact ⟨rfl, rfl⟩
theorem isIdeal_string (w : World) : Calls Tryd.prog 53 #[.string ⟨#[115, 116, 114, 105, 110, 103]⟩] w fun e w' => e = .returned (.bool false) ∧ w' = w := by
  go_enter Tryd.func53, Tryd.ntmps53
  go_wp2
  go_ret
  exact ⟨rfl, rfl⟩
theorem isIdeal_blob (w : World) : Calls Tryd.prog 53 #[.string ⟨#[98, 108, 111, 98]⟩] w fun e w' => e = .returned (.bool false) ∧ w' = w := by
  go_enter Tryd.func53, Tryd.ntmps53
  go_wp2
  go_ret
  exact ⟨rfl, rfl⟩
theorem isIdeal_idealInt (w : World) : Calls Tryd.prog 53 #[.string ⟨#[105, 100, 101, 97, 108, 73, 110, 116]⟩] w fun e w' => e = .returned (.bool true) ∧ w' = w := by
  go_enter Tryd.func53, Tryd.ntmps53
  go_wp2
  go_ret
  exact ⟨rfl, rfl⟩
theorem isIdeal_idealRune (w : World) : Calls Tryd.prog 53 #[.string ⟨#[105, 100, 101, 97, 108, 82, 117, 110, 101]⟩] w fun e w' => e = .returned (.bool true) ∧ w' = w := by
  go_enter Tryd.func53, Tryd.ntmps53
  go_wp2
  go_ret
  exact ⟨rfl, rfl⟩
theorem isIdeal_idealUint (w : World) : Calls Tryd.prog 53 #[.string ⟨#[105, 100, 101, 97, 108, 85, 105, 110, 116]⟩] w fun e w' => e = .returned (.bool true) ∧ w' = w := by
  go_enter Tryd.func53, Tryd.ntmps53
  go_wp2
  go_ret
  exact ⟨rfl, rfl⟩
theorem isIdeal_idealFloat (w : World) : Calls Tryd.prog 53 #[.string ⟨#[105, 100, 101, 97, 108, 70, 108, 111, 97, 116]⟩] w fun e w' => e = .returned (.bool true) ∧ w' = w := by
  go_enter Tryd.func53, Tryd.ntmps53
  go_wp2
  go_ret
  exact ⟨rfl, rfl⟩
theorem isIdeal_other (k : ByteArray) (h1 : (k.toList == [98, 111, 111, 108]) = false) (h2 : (k.toList == [105, 110, 116, 56]) = false) (h3 : (k.toList == [105, 110, 116, 49, 54]) = false) (h4 : (k.toList == [105, 110, 116, 51, 50]) = false) (h5 : (k.toList == [105, 110, 116, 54, 52]) = false) (h6 : (k.toList == [117, 105, 110, 116, 56]) = false) (h7 : (k.toList == [117, 105, 110, 116, 49, 54]) = false) (h8 : (k.toList == [117, 105, 110, 116, 51, 50]) = false) (h9 : (k.toList == [117, 105, 110, 116, 54, 52]) = false) (h10 : (k.toList == [102, 108, 111, 97, 116, 51, 50]) = false) (h11 : (k.toList == [102, 108, 111, 97, 116, 54, 52]) = false) (h12 : (k.toList == [115, 116, 114, 105, 110, 103]) = false) (h13 : (k.toList == [98, 108, 111, 98]) = false) (h14 : (k.toList == [105, 100, 101, 97, 108, 73, 110, 116]) = false) (h15 : (k.toList == [105, 100, 101, 97, 108, 82, 117, 110, 101]) = false) (h16 : (k.toList == [105, 100, 101, 97, 108, 85, 105, 110, 116]) = false) (h17 : (k.toList == [105, 100, 101, 97, 108, 70, 108, 111, 97, 116]) = false) (w : World) : Calls Tryd.prog 53 #[.string k] w fun e w' => e = .returned (.bool false) ∧ w' = w := by
  go_enter Tryd.func53, Tryd.ntmps53
  go_wp2
  go_ret
  exact ⟨rfl, rfl⟩
end Go.Proofs.YtpkgngpmnapdoaaDoor
