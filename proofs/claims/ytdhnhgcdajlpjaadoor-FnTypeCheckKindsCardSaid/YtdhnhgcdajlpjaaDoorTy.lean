/- The types of columns, and which values are of one. -/
import Derived.Test.YtdhnhgcdajlpjaaDoorKinds
namespace Go.Proofs.YtdhnhgcdajlpjaaDoor
open Go.RowKit
set_option linter.unusedVariables false
set_option linter.unusedSimpArgs false
set_option maxRecDepth 100000
attribute [local go_sem] store_flt

inductive Ty where
  | bool
  | int (k : IntKind)
  | flt (k : FloatKind)
  | str
  | blob
def Ty.name : Ty → ByteArray
  | .bool => ⟨#[98, 111, 111, 108]⟩
  | .int .i8 => ⟨#[105, 110, 116, 56]⟩
  | .int .i16 => ⟨#[105, 110, 116, 49, 54]⟩
  | .int .i32 => ⟨#[105, 110, 116, 51, 50]⟩
  | .int .i64 => ⟨#[105, 110, 116, 54, 52]⟩
  | .int .u8 => ⟨#[117, 105, 110, 116, 56]⟩
  | .int .u16 => ⟨#[117, 105, 110, 116, 49, 54]⟩
  | .int .u32 => ⟨#[117, 105, 110, 116, 51, 50]⟩
  | .int .u64 => ⟨#[117, 105, 110, 116, 54, 52]⟩
  | .flt .f32 => ⟨#[102, 108, 111, 97, 116, 51, 50]⟩
  | .flt .f64 => ⟨#[102, 108, 111, 97, 116, 54, 52]⟩
  | .str => ⟨#[115, 116, 114, 105, 110, 103]⟩
  | .blob => ⟨#[98, 108, 111, 98]⟩
def Ty.code : Ty → Int
  | .bool => 98
  | .int .i8 => 105
  | .int .i16 => 106
  | .int .i32 => 107
  | .int .i64 => 108
  | .int .u8 => 117
  | .int .u16 => 118
  | .int .u32 => 119
  | .int .u64 => 120
  | .flt .f32 => 102
  | .flt .f64 => 103
  | .str => 115
  | .blob => 66
/-- The j-th kind of the laws. -/
def tyAt : Nat → Ty
  | 0 => .bool
  | 1 => .int .i8
  | 2 => .int .i16
  | 3 => .int .i32
  | 4 => .int .i64
  | 5 => .int .u8
  | 6 => .int .u16
  | 7 => .int .u32
  | 8 => .int .u64
  | 9 => .flt .f32
  | 10 => .flt .f64
  | 11 => .str
  | _ => .blob
/-- NULL, or of the type. -/
def V.isOf (v : V) (T : Ty) : Bool := v.K.toList.isEmpty || (v.K.toList == T.name.toList)
def V.isNull : V → Bool
  | .null => true
  | _ => false
def V.bad (v : V) (T : Ty) : Prop := v = .iInt 300 ∧ T = .int .i8
theorem null_K (v : V) : v.K.toList.isEmpty = v.isNull := by
  rcases v with _ | b | ⟨k, n⟩ | ⟨k, d⟩ | s | s | n | n | n | d <;> (try cases k) <;> (simp only [V.K, V.isNull]; decide +kernel)
theorem yes_bool (b : Bool) : (.bool b : V).isOf (.bool) = true := by simp only [V.isOf, V.K, Ty.name]; decide +kernel
theorem no_bool (b : Bool) (T : Ty) (h : (T.code == 98) = false) : (.bool b : V).isOf T = false := by
  rcases T with _ | k | k | _ | _ <;> (try cases k) <;> first | (exact absurd h (by decide)) | (simp only [V.isOf, V.K, Ty.name]; decide +kernel)
theorem of_bool (T : Ty) (h : (T.code == 98) = true) : T = .bool := by
  rcases T with _ | k | k | _ | _ <;> (try cases k) <;> first | rfl | (exact absurd h (by decide))
theorem yes_int8 (n : Int) : (.int .i8 n : V).isOf (.int .i8) = true := by simp only [V.isOf, V.K, Ty.name]; decide +kernel
theorem no_int8 (n : Int) (T : Ty) (h : (T.code == 105) = false) : (.int .i8 n : V).isOf T = false := by
  rcases T with _ | k | k | _ | _ <;> (try cases k) <;> first | (exact absurd h (by decide)) | (simp only [V.isOf, V.K, Ty.name]; decide +kernel)
theorem of_int8 (T : Ty) (h : (T.code == 105) = true) : T = .int .i8 := by
  rcases T with _ | k | k | _ | _ <;> (try cases k) <;> first | rfl | (exact absurd h (by decide))
theorem yes_int16 (n : Int) : (.int .i16 n : V).isOf (.int .i16) = true := by simp only [V.isOf, V.K, Ty.name]; decide +kernel
theorem no_int16 (n : Int) (T : Ty) (h : (T.code == 106) = false) : (.int .i16 n : V).isOf T = false := by
  rcases T with _ | k | k | _ | _ <;> (try cases k) <;> first | (exact absurd h (by decide)) | (simp only [V.isOf, V.K, Ty.name]; decide +kernel)
theorem of_int16 (T : Ty) (h : (T.code == 106) = true) : T = .int .i16 := by
  rcases T with _ | k | k | _ | _ <;> (try cases k) <;> first | rfl | (exact absurd h (by decide))
theorem yes_int32 (n : Int) : (.int .i32 n : V).isOf (.int .i32) = true := by simp only [V.isOf, V.K, Ty.name]; decide +kernel
theorem no_int32 (n : Int) (T : Ty) (h : (T.code == 107) = false) : (.int .i32 n : V).isOf T = false := by
  rcases T with _ | k | k | _ | _ <;> (try cases k) <;> first | (exact absurd h (by decide)) | (simp only [V.isOf, V.K, Ty.name]; decide +kernel)
theorem of_int32 (T : Ty) (h : (T.code == 107) = true) : T = .int .i32 := by
  rcases T with _ | k | k | _ | _ <;> (try cases k) <;> first | rfl | (exact absurd h (by decide))
theorem yes_int64 (n : Int) : (.int .i64 n : V).isOf (.int .i64) = true := by simp only [V.isOf, V.K, Ty.name]; decide +kernel
theorem no_int64 (n : Int) (T : Ty) (h : (T.code == 108) = false) : (.int .i64 n : V).isOf T = false := by
  rcases T with _ | k | k | _ | _ <;> (try cases k) <;> first | (exact absurd h (by decide)) | (simp only [V.isOf, V.K, Ty.name]; decide +kernel)
theorem of_int64 (T : Ty) (h : (T.code == 108) = true) : T = .int .i64 := by
  rcases T with _ | k | k | _ | _ <;> (try cases k) <;> first | rfl | (exact absurd h (by decide))
theorem yes_uint8 (n : Int) : (.int .u8 n : V).isOf (.int .u8) = true := by simp only [V.isOf, V.K, Ty.name]; decide +kernel
theorem no_uint8 (n : Int) (T : Ty) (h : (T.code == 117) = false) : (.int .u8 n : V).isOf T = false := by
  rcases T with _ | k | k | _ | _ <;> (try cases k) <;> first | (exact absurd h (by decide)) | (simp only [V.isOf, V.K, Ty.name]; decide +kernel)
theorem of_uint8 (T : Ty) (h : (T.code == 117) = true) : T = .int .u8 := by
  rcases T with _ | k | k | _ | _ <;> (try cases k) <;> first | rfl | (exact absurd h (by decide))
theorem yes_uint16 (n : Int) : (.int .u16 n : V).isOf (.int .u16) = true := by simp only [V.isOf, V.K, Ty.name]; decide +kernel
theorem no_uint16 (n : Int) (T : Ty) (h : (T.code == 118) = false) : (.int .u16 n : V).isOf T = false := by
  rcases T with _ | k | k | _ | _ <;> (try cases k) <;> first | (exact absurd h (by decide)) | (simp only [V.isOf, V.K, Ty.name]; decide +kernel)
theorem of_uint16 (T : Ty) (h : (T.code == 118) = true) : T = .int .u16 := by
  rcases T with _ | k | k | _ | _ <;> (try cases k) <;> first | rfl | (exact absurd h (by decide))
theorem yes_uint32 (n : Int) : (.int .u32 n : V).isOf (.int .u32) = true := by simp only [V.isOf, V.K, Ty.name]; decide +kernel
theorem no_uint32 (n : Int) (T : Ty) (h : (T.code == 119) = false) : (.int .u32 n : V).isOf T = false := by
  rcases T with _ | k | k | _ | _ <;> (try cases k) <;> first | (exact absurd h (by decide)) | (simp only [V.isOf, V.K, Ty.name]; decide +kernel)
theorem of_uint32 (T : Ty) (h : (T.code == 119) = true) : T = .int .u32 := by
  rcases T with _ | k | k | _ | _ <;> (try cases k) <;> first | rfl | (exact absurd h (by decide))
theorem yes_uint64 (n : Int) : (.int .u64 n : V).isOf (.int .u64) = true := by simp only [V.isOf, V.K, Ty.name]; decide +kernel
theorem no_uint64 (n : Int) (T : Ty) (h : (T.code == 120) = false) : (.int .u64 n : V).isOf T = false := by
  rcases T with _ | k | k | _ | _ <;> (try cases k) <;> first | (exact absurd h (by decide)) | (simp only [V.isOf, V.K, Ty.name]; decide +kernel)
theorem of_uint64 (T : Ty) (h : (T.code == 120) = true) : T = .int .u64 := by
  rcases T with _ | k | k | _ | _ <;> (try cases k) <;> first | rfl | (exact absurd h (by decide))
theorem yes_float32 (d : Nat) : (.flt .f32 d : V).isOf (.flt .f32) = true := by simp only [V.isOf, V.K, Ty.name]; decide +kernel
theorem no_float32 (d : Nat) (T : Ty) (h : (T.code == 102) = false) : (.flt .f32 d : V).isOf T = false := by
  rcases T with _ | k | k | _ | _ <;> (try cases k) <;> first | (exact absurd h (by decide)) | (simp only [V.isOf, V.K, Ty.name]; decide +kernel)
theorem of_float32 (T : Ty) (h : (T.code == 102) = true) : T = .flt .f32 := by
  rcases T with _ | k | k | _ | _ <;> (try cases k) <;> first | rfl | (exact absurd h (by decide))
theorem yes_float64 (d : Nat) : (.flt .f64 d : V).isOf (.flt .f64) = true := by simp only [V.isOf, V.K, Ty.name]; decide +kernel
theorem no_float64 (d : Nat) (T : Ty) (h : (T.code == 103) = false) : (.flt .f64 d : V).isOf T = false := by
  rcases T with _ | k | k | _ | _ <;> (try cases k) <;> first | (exact absurd h (by decide)) | (simp only [V.isOf, V.K, Ty.name]; decide +kernel)
theorem of_float64 (T : Ty) (h : (T.code == 103) = true) : T = .flt .f64 := by
  rcases T with _ | k | k | _ | _ <;> (try cases k) <;> first | rfl | (exact absurd h (by decide))
theorem yes_string (s : ByteArray) : (.str s : V).isOf (.str) = true := by simp only [V.isOf, V.K, Ty.name]; decide +kernel
theorem no_string (s : ByteArray) (T : Ty) (h : (T.code == 115) = false) : (.str s : V).isOf T = false := by
  rcases T with _ | k | k | _ | _ <;> (try cases k) <;> first | (exact absurd h (by decide)) | (simp only [V.isOf, V.K, Ty.name]; decide +kernel)
theorem of_string (T : Ty) (h : (T.code == 115) = true) : T = .str := by
  rcases T with _ | k | k | _ | _ <;> (try cases k) <;> first | rfl | (exact absurd h (by decide))
theorem yes_blob (s : ByteArray) : (.blob s : V).isOf (.blob) = true := by simp only [V.isOf, V.K, Ty.name]; decide +kernel
theorem no_blob (s : ByteArray) (T : Ty) (h : (T.code == 66) = false) : (.blob s : V).isOf T = false := by
  rcases T with _ | k | k | _ | _ <;> (try cases k) <;> first | (exact absurd h (by decide)) | (simp only [V.isOf, V.K, Ty.name]; decide +kernel)
theorem of_blob (T : Ty) (h : (T.code == 66) = true) : T = .blob := by
  rcases T with _ | k | k | _ | _ <;> (try cases k) <;> first | rfl | (exact absurd h (by decide))
theorem not_idealInt (n : Int) (T : Ty) : (.iInt n : V).isOf T = false := by
  rcases T with _ | k | k | _ | _ <;> (try cases k) <;> (simp only [V.isOf, V.K, Ty.name]; decide +kernel)
theorem not_idealRune (n : Int) (T : Ty) : (.iRune n : V).isOf T = false := by
  rcases T with _ | k | k | _ | _ <;> (try cases k) <;> (simp only [V.isOf, V.K, Ty.name]; decide +kernel)
theorem not_idealUint (n : Int) (T : Ty) : (.iUint n : V).isOf T = false := by
  rcases T with _ | k | k | _ | _ <;> (try cases k) <;> (simp only [V.isOf, V.K, Ty.name]; decide +kernel)
theorem not_idealFloat (d : Nat) (T : Ty) : (.iFlt d : V).isOf T = false := by
  rcases T with _ | k | k | _ | _ <;> (try cases k) <;> (simp only [V.isOf, V.K, Ty.name]; decide +kernel)
theorem isOf_name {v : V} {T : Ty} (h : v.K = T.name) : v.isOf T = true := by unfold V.isOf; rw [h]; simp
theorem isOf_null (T : Ty) : V.null.isOf T = true := by unfold V.isOf; rw [null_K]; rfl
theorem isOf_K {v v' : V} (h : v'.K = v.K) (T : Ty) : v'.isOf T = v.isOf T := by unfold V.isOf; rw [h]
theorem code_pos (T : Ty) : (T.code == 0) = false := by rcases T with _ | k | k | _ | _ <;> (try cases k) <;> rfl
end Go.Proofs.YtdhnhgcdajlpjaaDoor
