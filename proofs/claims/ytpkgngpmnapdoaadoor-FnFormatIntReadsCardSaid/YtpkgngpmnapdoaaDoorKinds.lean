/- Which value V has which kind. Plain: no Go in sight. -/
import Derived.Test.YtpkgngpmnapdoaaDoorVals
namespace Go.Proofs.YtpkgngpmnapdoaaDoor
open Go.RowKit
set_option linter.unusedVariables false
set_option linter.unusedSimpArgs false
set_option maxRecDepth 100000

theorem ne_lit {k : ByteArray} {l : List UInt8} (h : k ≠ ⟨l.toArray⟩) : (k.toList == l) = false := by
  apply beq_eq_false_iff_ne.2
  intro e
  apply h
  rw [ByteArray.toList_eq] at e
  cases k with
  | mk d => cases d with
    | mk x => simp at e; subst e; rfl
theorem ne_empty {k : ByteArray} (h : k ≠ ⟨#[]⟩) : k.toList.isEmpty = false := by
  have := ne_lit (l := []) h
  cases e : k.toList with
  | nil => rw [e] at this; simp at this
  | cons a b => rfl
theorem empty_of {s : ByteArray} (h : ¬ s.toList.isEmpty = false) : s = ⟨#[]⟩ := by
  rcases Classical.em (s = ⟨#[]⟩) with e | e
  · exact e
  · exact absurd (ne_empty e) h
theorem inv_null {v : V} (h : v.K = ⟨#[]⟩) : v = .null := by
  rcases v with _ | b | ⟨k, n⟩ | ⟨k, d⟩ | s | s | n | n | n | d <;> (try cases k) <;> first | rfl | (simp [V.K] at h)
theorem inv_bool {v : V} (h : v.K = ⟨#[98, 111, 111, 108]⟩) : ∃ a, v = .bool a := by
  rcases v with _ | b | ⟨k, n⟩ | ⟨k, d⟩ | s | s | n | n | n | d <;> (try cases k) <;> first | exact ⟨_, rfl⟩ | (simp [V.K] at h)
theorem inv_int8 {v : V} (h : v.K = ⟨#[105, 110, 116, 56]⟩) : ∃ a, v = .int .i8 a := by
  rcases v with _ | b | ⟨k, n⟩ | ⟨k, d⟩ | s | s | n | n | n | d <;> (try cases k) <;> first | exact ⟨_, rfl⟩ | (simp [V.K] at h)
theorem inv_int16 {v : V} (h : v.K = ⟨#[105, 110, 116, 49, 54]⟩) : ∃ a, v = .int .i16 a := by
  rcases v with _ | b | ⟨k, n⟩ | ⟨k, d⟩ | s | s | n | n | n | d <;> (try cases k) <;> first | exact ⟨_, rfl⟩ | (simp [V.K] at h)
theorem inv_int32 {v : V} (h : v.K = ⟨#[105, 110, 116, 51, 50]⟩) : ∃ a, v = .int .i32 a := by
  rcases v with _ | b | ⟨k, n⟩ | ⟨k, d⟩ | s | s | n | n | n | d <;> (try cases k) <;> first | exact ⟨_, rfl⟩ | (simp [V.K] at h)
theorem inv_int64 {v : V} (h : v.K = ⟨#[105, 110, 116, 54, 52]⟩) : ∃ a, v = .int .i64 a := by
  rcases v with _ | b | ⟨k, n⟩ | ⟨k, d⟩ | s | s | n | n | n | d <;> (try cases k) <;> first | exact ⟨_, rfl⟩ | (simp [V.K] at h)
theorem inv_uint8 {v : V} (h : v.K = ⟨#[117, 105, 110, 116, 56]⟩) : ∃ a, v = .int .u8 a := by
  rcases v with _ | b | ⟨k, n⟩ | ⟨k, d⟩ | s | s | n | n | n | d <;> (try cases k) <;> first | exact ⟨_, rfl⟩ | (simp [V.K] at h)
theorem inv_uint16 {v : V} (h : v.K = ⟨#[117, 105, 110, 116, 49, 54]⟩) : ∃ a, v = .int .u16 a := by
  rcases v with _ | b | ⟨k, n⟩ | ⟨k, d⟩ | s | s | n | n | n | d <;> (try cases k) <;> first | exact ⟨_, rfl⟩ | (simp [V.K] at h)
theorem inv_uint32 {v : V} (h : v.K = ⟨#[117, 105, 110, 116, 51, 50]⟩) : ∃ a, v = .int .u32 a := by
  rcases v with _ | b | ⟨k, n⟩ | ⟨k, d⟩ | s | s | n | n | n | d <;> (try cases k) <;> first | exact ⟨_, rfl⟩ | (simp [V.K] at h)
theorem inv_uint64 {v : V} (h : v.K = ⟨#[117, 105, 110, 116, 54, 52]⟩) : ∃ a, v = .int .u64 a := by
  rcases v with _ | b | ⟨k, n⟩ | ⟨k, d⟩ | s | s | n | n | n | d <;> (try cases k) <;> first | exact ⟨_, rfl⟩ | (simp [V.K] at h)
theorem inv_float32 {v : V} (h : v.K = ⟨#[102, 108, 111, 97, 116, 51, 50]⟩) : ∃ a, v = .flt .f32 a := by
  rcases v with _ | b | ⟨k, n⟩ | ⟨k, d⟩ | s | s | n | n | n | d <;> (try cases k) <;> first | exact ⟨_, rfl⟩ | (simp [V.K] at h)
theorem inv_float64 {v : V} (h : v.K = ⟨#[102, 108, 111, 97, 116, 54, 52]⟩) : ∃ a, v = .flt .f64 a := by
  rcases v with _ | b | ⟨k, n⟩ | ⟨k, d⟩ | s | s | n | n | n | d <;> (try cases k) <;> first | exact ⟨_, rfl⟩ | (simp [V.K] at h)
theorem inv_string {v : V} (h : v.K = ⟨#[115, 116, 114, 105, 110, 103]⟩) : ∃ a, v = .str a := by
  rcases v with _ | b | ⟨k, n⟩ | ⟨k, d⟩ | s | s | n | n | n | d <;> (try cases k) <;> first | exact ⟨_, rfl⟩ | (simp [V.K] at h)
theorem inv_blob {v : V} (h : v.K = ⟨#[98, 108, 111, 98]⟩) : ∃ a, v = .blob a := by
  rcases v with _ | b | ⟨k, n⟩ | ⟨k, d⟩ | s | s | n | n | n | d <;> (try cases k) <;> first | exact ⟨_, rfl⟩ | (simp [V.K] at h)
theorem inv_idealInt {v : V} (h : v.K = ⟨#[105, 100, 101, 97, 108, 73, 110, 116]⟩) : ∃ a, v = .iInt a := by
  rcases v with _ | b | ⟨k, n⟩ | ⟨k, d⟩ | s | s | n | n | n | d <;> (try cases k) <;> first | exact ⟨_, rfl⟩ | (simp [V.K] at h)
theorem inv_idealRune {v : V} (h : v.K = ⟨#[105, 100, 101, 97, 108, 82, 117, 110, 101]⟩) : ∃ a, v = .iRune a := by
  rcases v with _ | b | ⟨k, n⟩ | ⟨k, d⟩ | s | s | n | n | n | d <;> (try cases k) <;> first | exact ⟨_, rfl⟩ | (simp [V.K] at h)
theorem inv_idealUint {v : V} (h : v.K = ⟨#[105, 100, 101, 97, 108, 85, 105, 110, 116]⟩) : ∃ a, v = .iUint a := by
  rcases v with _ | b | ⟨k, n⟩ | ⟨k, d⟩ | s | s | n | n | n | d <;> (try cases k) <;> first | exact ⟨_, rfl⟩ | (simp [V.K] at h)
theorem inv_idealFloat {v : V} (h : v.K = ⟨#[105, 100, 101, 97, 108, 70, 108, 111, 97, 116]⟩) : ∃ a, v = .iFlt a := by
  rcases v with _ | b | ⟨k, n⟩ | ⟨k, d⟩ | s | s | n | n | n | d <;> (try cases k) <;> first | exact ⟨_, rfl⟩ | (simp [V.K] at h)
theorem V.known (v : V) : v.K = ⟨#[]⟩ ∨ v.K = ⟨#[98, 111, 111, 108]⟩ ∨ v.K = ⟨#[105, 110, 116, 56]⟩ ∨ v.K = ⟨#[105, 110, 116, 49, 54]⟩ ∨ v.K = ⟨#[105, 110, 116, 51, 50]⟩ ∨ v.K = ⟨#[105, 110, 116, 54, 52]⟩ ∨ v.K = ⟨#[117, 105, 110, 116, 56]⟩ ∨ v.K = ⟨#[117, 105, 110, 116, 49, 54]⟩ ∨ v.K = ⟨#[117, 105, 110, 116, 51, 50]⟩ ∨ v.K = ⟨#[117, 105, 110, 116, 54, 52]⟩ ∨ v.K = ⟨#[102, 108, 111, 97, 116, 51, 50]⟩ ∨ v.K = ⟨#[102, 108, 111, 97, 116, 54, 52]⟩ ∨ v.K = ⟨#[115, 116, 114, 105, 110, 103]⟩ ∨ v.K = ⟨#[98, 108, 111, 98]⟩ ∨ v.K = ⟨#[105, 100, 101, 97, 108, 73, 110, 116]⟩ ∨ v.K = ⟨#[105, 100, 101, 97, 108, 82, 117, 110, 101]⟩ ∨ v.K = ⟨#[105, 100, 101, 97, 108, 85, 105, 110, 116]⟩ ∨ v.K = ⟨#[105, 100, 101, 97, 108, 70, 108, 111, 97, 116]⟩ := by
  rcases v with _ | b | ⟨k, n⟩ | ⟨k, d⟩ | s | s | n | n | n | d <;> (try cases k) <;> simp [V.K]
end Go.Proofs.YtpkgngpmnapdoaaDoor
