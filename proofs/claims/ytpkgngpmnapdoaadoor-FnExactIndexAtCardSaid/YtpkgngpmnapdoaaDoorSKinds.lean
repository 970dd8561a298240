/- What the reference asks of a kind: vSigned, vUnsigned, vWidth, vLeast, vGreatest, vMost, vIdealInteger. -/
import Derived.Test.YtpkgngpmnapdoaaDoorAt
namespace Go.Proofs.YtpkgngpmnapdoaaDoor
open Go.RowKit
set_option linter.unusedVariables false
set_option linter.unusedSimpArgs false
set_option maxRecDepth 100000
attribute [local go_sem] store_flt
theorem own_cells {w wi : World} {A : Array Value} {t : TypeId} (h : Below (w.alloc (.cells A t)).heap.size (w.alloc (.cells A t)) wi) : ∀ j, wi.cell? ⟨w.heap.size, j, none⟩ = A[j]? := by
  intro j
  rw [h.cell (p := ⟨w.heap.size, j, none⟩) (by simp)]
  have e : (w.alloc (.cells A t)).heap[w.heap.size]? = some (.cells A t (0, 0)) := by
    show (w.heap.push _)[w.heap.size]? = _
    simp
  rw [cell_of_row _ _ j _ _ _ e]
theorem vsig_null (w : World) : Calls Tryd.prog 58 #[.string ⟨#[]⟩] w fun e w' => e = .returned (.bool false) ∧ w' = w := by
  go_enter Tryd.func58, Tryd.ntmps58
  go_wp2
  go_ret
  exact ⟨rfl, rfl⟩
theorem vsig_bool (w : World) : Calls Tryd.prog 58 #[.string ⟨#[98, 111, 111, 108]⟩] w fun e w' => e = .returned (.bool false) ∧ w' = w := by
  go_enter Tryd.func58, Tryd.ntmps58
  go_wp2
  go_ret
  exact ⟨rfl, rfl⟩
theorem vsig_int8 (w : World) : Calls Tryd.prog 58 #[.string ⟨#[105, 110, 116, 56]⟩] w fun e w' => e = .returned (.bool true) ∧ w' = w := by
  go_enter Tryd.func58, Tryd.ntmps58
  go_wp2
  go_ret
  exact ⟨rfl, rfl⟩
theorem vsig_int16 (w : World) : Calls Tryd.prog 58 #[.string ⟨#[105, 110, 116, 49, 54]⟩] w fun e w' => e = .returned (.bool true) ∧ w' = w := by
  go_enter Tryd.func58, Tryd.ntmps58
  go_wp2
  go_ret
  exact ⟨rfl, rfl⟩
theorem vsig_int32 (w : World) : Calls Tryd.prog 58 #[.string ⟨#[105, 110, 116, 51, 50]⟩] w fun e w' => e = .returned (.bool true) ∧ w' = w := by
  go_enter Tryd.func58, Tryd.ntmps58
  go_wp2
  go_ret
  exact ⟨rfl, rfl⟩
theorem vsig_int64 (w : World) : Calls Tryd.prog 58 #[.string ⟨#[105, 110, 116, 54, 52]⟩] w fun e w' => e = .returned (.bool true) ∧ w' = w := by
  go_enter Tryd.func58, Tryd.ntmps58
  go_wp2
  go_ret
  exact ⟨rfl, rfl⟩
theorem vsig_uint8 (w : World) : Calls Tryd.prog 58 #[.string ⟨#[117, 105, 110, 116, 56]⟩] w fun e w' => e = .returned (.bool false) ∧ w' = w := by
  go_enter Tryd.func58, Tryd.ntmps58
  go_wp2
  go_ret
  exact ⟨rfl, rfl⟩
theorem vsig_uint16 (w : World) : Calls Tryd.prog 58 #[.string ⟨#[117, 105, 110, 116, 49, 54]⟩] w fun e w' => e = .returned (.bool false) ∧ w' = w := by
  go_enter Tryd.func58, Tryd.ntmps58
  go_wp2
  go_ret
  exact ⟨rfl, rfl⟩
theorem vsig_uint32 (w : World) : Calls Tryd.prog 58 #[.string ⟨#[117, 105, 110, 116, 51, 50]⟩] w fun e w' => e = .returned (.bool false) ∧ w' = w := by
  go_enter Tryd.func58, Tryd.ntmps58
  go_wp2
  go_ret
  exact ⟨rfl, rfl⟩
theorem vsig_uint64 (w : World) : Calls Tryd.prog 58 #[.string ⟨#[117, 105, 110, 116, 54, 52]⟩] w fun e w' => e = .returned (.bool false) ∧ w' = w := by
  go_enter Tryd.func58, Tryd.ntmps58
  go_wp2
  go_ret
  exact ⟨rfl, rfl⟩
theorem vsig_float32 (w : World) : Calls Tryd.prog 58 #[.string ⟨#[102, 108, 111, 97, 116, 51, 50]⟩] w fun e w' => e = .returned (.bool false) ∧ w' = w := by
  go_enter Tryd.func58, Tryd.ntmps58
  go_wp2
  go_ret
  exact ⟨rfl, rfl⟩
theorem vsig_float64 (w : World) : Calls Tryd.prog 58 #[.string ⟨#[102, 108, 111, 97, 116, 54, 52]⟩] w fun e w' => e = .returned (.bool false) ∧ w' = w := by
  go_enter Tryd.func58, Tryd.ntmps58
  go_wp2
  go_ret
  exact ⟨rfl, rfl⟩
theorem vsig_string (w : World) : Calls Tryd.prog 58 #[.string ⟨#[115, 116, 114, 105, 110, 103]⟩] w fun e w' => e = .returned (.bool false) ∧ w' = w := by
  go_enter Tryd.func58, Tryd.ntmps58
  go_wp2
  go_ret
  exact ⟨rfl, rfl⟩
theorem vsig_blob (w : World) : Calls Tryd.prog 58 #[.string ⟨#[98, 108, 111, 98]⟩] w fun e w' => e = .returned (.bool false) ∧ w' = w := by
  go_enter Tryd.func58, Tryd.ntmps58
  go_wp2
  go_ret
  exact ⟨rfl, rfl⟩
theorem vsig_idealInt (w : World) : Calls Tryd.prog 58 #[.string ⟨#[105, 100, 101, 97, 108, 73, 110, 116]⟩] w fun e w' => e = .returned (.bool false) ∧ w' = w := by
  go_enter Tryd.func58, Tryd.ntmps58
  go_wp2
  go_ret
  exact ⟨rfl, rfl⟩
theorem vsig_idealRune (w : World) : Calls Tryd.prog 58 #[.string ⟨#[105, 100, 101, 97, 108, 82, 117, 110, 101]⟩] w fun e w' => e = .returned (.bool false) ∧ w' = w := by
  go_enter Tryd.func58, Tryd.ntmps58
  go_wp2
  go_ret
  exact ⟨rfl, rfl⟩
theorem vsig_idealUint (w : World) : Calls Tryd.prog 58 #[.string ⟨#[105, 100, 101, 97, 108, 85, 105, 110, 116]⟩] w fun e w' => e = .returned (.bool false) ∧ w' = w := by
  go_enter Tryd.func58, Tryd.ntmps58
  go_wp2
  go_ret
  exact ⟨rfl, rfl⟩
theorem vsig_idealFloat (w : World) : Calls Tryd.prog 58 #[.string ⟨#[105, 100, 101, 97, 108, 70, 108, 111, 97, 116]⟩] w fun e w' => e = .returned (.bool false) ∧ w' = w := by
  go_enter Tryd.func58, Tryd.ntmps58
  go_wp2
  go_ret
  exact ⟨rfl, rfl⟩
theorem vuns_null (w : World) : Calls Tryd.prog 61 #[.string ⟨#[]⟩] w fun e w' => e = .returned (.bool false) ∧ w' = w := by
  go_enter Tryd.func61, Tryd.ntmps61
  go_wp2
  go_ret
  exact ⟨rfl, rfl⟩
theorem vuns_bool (w : World) : Calls Tryd.prog 61 #[.string ⟨#[98, 111, 111, 108]⟩] w fun e w' => e = .returned (.bool false) ∧ w' = w := by
  go_enter Tryd.func61, Tryd.ntmps61
  go_wp2
  go_ret
  exact ⟨rfl, rfl⟩
theorem vuns_int8 (w : World) : Calls Tryd.prog 61 #[.string ⟨#[105, 110, 116, 56]⟩] w fun e w' => e = .returned (.bool false) ∧ w' = w := by
  go_enter Tryd.func61, Tryd.ntmps61
  go_wp2
  go_ret
  exact ⟨rfl, rfl⟩
theorem vuns_int16 (w : World) : Calls Tryd.prog 61 #[.string ⟨#[105, 110, 116, 49, 54]⟩] w fun e w' => e = .returned (.bool false) ∧ w' = w := by
  go_enter Tryd.func61, Tryd.ntmps61
  go_wp2
  go_ret
  exact ⟨rfl, rfl⟩
theorem vuns_int32 (w : World) : Calls Tryd.prog 61 #[.string ⟨#[105, 110, 116, 51, 50]⟩] w fun e w' => e = .returned (.bool false) ∧ w' = w := by
  go_enter Tryd.func61, Tryd.ntmps61
  go_wp2
  go_ret
  exact ⟨rfl, rfl⟩
theorem vuns_int64 (w : World) : Calls Tryd.prog 61 #[.string ⟨#[105, 110, 116, 54, 52]⟩] w fun e w' => e = .returned (.bool false) ∧ w' = w := by
  go_enter Tryd.func61, Tryd.ntmps61
  go_wp2
  go_ret
  exact ⟨rfl, rfl⟩
theorem vuns_uint8 (w : World) : Calls Tryd.prog 61 #[.string ⟨#[117, 105, 110, 116, 56]⟩] w fun e w' => e = .returned (.bool true) ∧ w' = w := by
  go_enter Tryd.func61, Tryd.ntmps61
  go_wp2
  go_ret
  exact ⟨rfl, rfl⟩
theorem vuns_uint16 (w : World) : Calls Tryd.prog 61 #[.string ⟨#[117, 105, 110, 116, 49, 54]⟩] w fun e w' => e = .returned (.bool true) ∧ w' = w := by
  go_enter Tryd.func61, Tryd.ntmps61
  go_wp2
  go_ret
  exact ⟨rfl, rfl⟩
theorem vuns_uint32 (w : World) : Calls Tryd.prog 61 #[.string ⟨#[117, 105, 110, 116, 51, 50]⟩] w fun e w' => e = .returned (.bool true) ∧ w' = w := by
  go_enter Tryd.func61, Tryd.ntmps61
  go_wp2
  go_ret
  exact ⟨rfl, rfl⟩
theorem vuns_uint64 (w : World) : Calls Tryd.prog 61 #[.string ⟨#[117, 105, 110, 116, 54, 52]⟩] w fun e w' => e = .returned (.bool true) ∧ w' = w := by
  go_enter Tryd.func61, Tryd.ntmps61
  go_wp2
  go_ret
  exact ⟨rfl, rfl⟩
theorem vuns_float32 (w : World) : Calls Tryd.prog 61 #[.string ⟨#[102, 108, 111, 97, 116, 51, 50]⟩] w fun e w' => e = .returned (.bool false) ∧ w' = w := by
  go_enter Tryd.func61, Tryd.ntmps61
  go_wp2
  go_ret
  exact ⟨rfl, rfl⟩
theorem vuns_float64 (w : World) : Calls Tryd.prog 61 #[.string ⟨#[102, 108, 111, 97, 116, 54, 52]⟩] w fun e w' => e = .returned (.bool false) ∧ w' = w := by
  go_enter Tryd.func61, Tryd.ntmps61
  go_wp2
  go_ret
  exact ⟨rfl, rfl⟩
theorem vuns_string (w : World) : Calls Tryd.prog 61 #[.string ⟨#[115, 116, 114, 105, 110, 103]⟩] w fun e w' => e = .returned (.bool false) ∧ w' = w := by
  go_enter Tryd.func61, Tryd.ntmps61
  go_wp2
  go_ret
  exact ⟨rfl, rfl⟩
theorem vuns_blob (w : World) : Calls Tryd.prog 61 #[.string ⟨#[98, 108, 111, 98]⟩] w fun e w' => e = .returned (.bool false) ∧ w' = w := by
  go_enter Tryd.func61, Tryd.ntmps61
  go_wp2
  go_ret
  exact ⟨rfl, rfl⟩
theorem vuns_idealInt (w : World) : Calls Tryd.prog 61 #[.string ⟨#[105, 100, 101, 97, 108, 73, 110, 116]⟩] w fun e w' => e = .returned (.bool false) ∧ w' = w := by
  go_enter Tryd.func61, Tryd.ntmps61
  go_wp2
  go_ret
  exact ⟨rfl, rfl⟩
theorem vuns_idealRune (w : World) : Calls Tryd.prog 61 #[.string ⟨#[105, 100, 101, 97, 108, 82, 117, 110, 101]⟩] w fun e w' => e = .returned (.bool false) ∧ w' = w := by
  go_enter Tryd.func61, Tryd.ntmps61
  go_wp2
  go_ret
  exact ⟨rfl, rfl⟩
theorem vuns_idealUint (w : World) : Calls Tryd.prog 61 #[.string ⟨#[105, 100, 101, 97, 108, 85, 105, 110, 116]⟩] w fun e w' => e = .returned (.bool false) ∧ w' = w := by
  go_enter Tryd.func61, Tryd.ntmps61
  go_wp2
  go_ret
  exact ⟨rfl, rfl⟩
theorem vuns_idealFloat (w : World) : Calls Tryd.prog 61 #[.string ⟨#[105, 100, 101, 97, 108, 70, 108, 111, 97, 116]⟩] w fun e w' => e = .returned (.bool false) ∧ w' = w := by
  go_enter Tryd.func61, Tryd.ntmps61
  go_wp2
  go_ret
  exact ⟨rfl, rfl⟩
theorem vide_null (w : World) : Calls Tryd.prog 63 #[.string ⟨#[]⟩] w fun e w' => e = .returned (.bool false) ∧ w' = w := by
  go_enter Tryd.func63, Tryd.ntmps63
  go_wp2
  go_ret
  exact ⟨rfl, rfl⟩
theorem vide_bool (w : World) : Calls Tryd.prog 63 #[.string ⟨#[98, 111, 111, 108]⟩] w fun e w' => e = .returned (.bool false) ∧ w' = w := by
  go_enter Tryd.func63, Tryd.ntmps63
  go_wp2
  go_ret
  exact ⟨rfl, rfl⟩
theorem vide_int8 (w : World) : Calls Tryd.prog 63 #[.string ⟨#[105, 110, 116, 56]⟩] w fun e w' => e = .returned (.bool false) ∧ w' = w := by
  go_enter Tryd.func63, Tryd.ntmps63
  go_wp2
  go_ret
  exact ⟨rfl, rfl⟩
theorem vide_int16 (w : World) : Calls Tryd.prog 63 #[.string ⟨#[105, 110, 116, 49, 54]⟩] w fun e w' => e = .returned (.bool false) ∧ w' = w := by
  go_enter Tryd.func63, Tryd.ntmps63
  go_wp2
  go_ret
  exact ⟨rfl, rfl⟩
theorem vide_int32 (w : World) : Calls Tryd.prog 63 #[.string ⟨#[105, 110, 116, 51, 50]⟩] w fun e w' => e = .returned (.bool false) ∧ w' = w := by
  go_enter Tryd.func63, Tryd.ntmps63
  go_wp2
  go_ret
  exact ⟨rfl, rfl⟩
theorem vide_int64 (w : World) : Calls Tryd.prog 63 #[.string ⟨#[105, 110, 116, 54, 52]⟩] w fun e w' => e = .returned (.bool false) ∧ w' = w := by
  go_enter Tryd.func63, Tryd.ntmps63
  go_wp2
  go_ret
  exact ⟨rfl, rfl⟩
theorem vide_uint8 (w : World) : Calls Tryd.prog 63 #[.string ⟨#[117, 105, 110, 116, 56]⟩] w fun e w' => e = .returned (.bool false) ∧ w' = w := by
  go_enter Tryd.func63, Tryd.ntmps63
  go_wp2
  go_ret
  exact ⟨rfl, rfl⟩
theorem vide_uint16 (w : World) : Calls Tryd.prog 63 #[.string ⟨#[117, 105, 110, 116, 49, 54]⟩] w fun e w' => e = .returned (.bool false) ∧ w' = w := by
  go_enter Tryd.func63, Tryd.ntmps63
  go_wp2
  go_ret
  exact ⟨rfl, rfl⟩
theorem vide_uint32 (w : World) : Calls Tryd.prog 63 #[.string ⟨#[117, 105, 110, 116, 51, 50]⟩] w fun e w' => e = .returned (.bool false) ∧ w' = w := by
  go_enter Tryd.func63, Tryd.ntmps63
  go_wp2
  go_ret
  exact ⟨rfl, rfl⟩
theorem vide_uint64 (w : World) : Calls Tryd.prog 63 #[.string ⟨#[117, 105, 110, 116, 54, 52]⟩] w fun e w' => e = .returned (.bool false) ∧ w' = w := by
  go_enter Tryd.func63, Tryd.ntmps63
  go_wp2
  go_ret
  exact ⟨rfl, rfl⟩
theorem vide_float32 (w : World) : Calls Tryd.prog 63 #[.string ⟨#[102, 108, 111, 97, 116, 51, 50]⟩] w fun e w' => e = .returned (.bool false) ∧ w' = w := by
  go_enter Tryd.func63, Tryd.ntmps63
  go_wp2
  go_ret
  exact ⟨rfl, rfl⟩
theorem vide_float64 (w : World) : Calls Tryd.prog 63 #[.string ⟨#[102, 108, 111, 97, 116, 54, 52]⟩] w fun e w' => e = .returned (.bool false) ∧ w' = w := by
  go_enter Tryd.func63, Tryd.ntmps63
  go_wp2
  go_ret
  exact ⟨rfl, rfl⟩
theorem vide_string (w : World) : Calls Tryd.prog 63 #[.string ⟨#[115, 116, 114, 105, 110, 103]⟩] w fun e w' => e = .returned (.bool false) ∧ w' = w := by
  go_enter Tryd.func63, Tryd.ntmps63
  go_wp2
  go_ret
  exact ⟨rfl, rfl⟩
theorem vide_blob (w : World) : Calls Tryd.prog 63 #[.string ⟨#[98, 108, 111, 98]⟩] w fun e w' => e = .returned (.bool false) ∧ w' = w := by
  go_enter Tryd.func63, Tryd.ntmps63
  go_wp2
  go_ret
  exact ⟨rfl, rfl⟩
theorem vide_idealInt (w : World) : Calls Tryd.prog 63 #[.string ⟨#[105, 100, 101, 97, 108, 73, 110, 116]⟩] w fun e w' => e = .returned (.bool true) ∧ w' = w := by
  go_enter Tryd.func63, Tryd.ntmps63
  go_wp2
  go_ret
  exact ⟨rfl, rfl⟩
theorem vide_idealRune (w : World) : Calls Tryd.prog 63 #[.string ⟨#[105, 100, 101, 97, 108, 82, 117, 110, 101]⟩] w fun e w' => e = .returned (.bool true) ∧ w' = w := by
  go_enter Tryd.func63, Tryd.ntmps63
  go_wp2
  go_ret
  exact ⟨rfl, rfl⟩
theorem vide_idealUint (w : World) : Calls Tryd.prog 63 #[.string ⟨#[105, 100, 101, 97, 108, 85, 105, 110, 116]⟩] w fun e w' => e = .returned (.bool true) ∧ w' = w := by
  go_enter Tryd.func63, Tryd.ntmps63
  go_wp2
  go_ret
  exact ⟨rfl, rfl⟩
theorem vide_idealFloat (w : World) : Calls Tryd.prog 63 #[.string ⟨#[105, 100, 101, 97, 108, 70, 108, 111, 97, 116]⟩] w fun e w' => e = .returned (.bool false) ∧ w' = w := by
  go_enter Tryd.func63, Tryd.ntmps63
  go_wp2
  go_ret
  exact ⟨rfl, rfl⟩
theorem vwid_int8 (w : World) : Calls Tryd.prog 76 #[.string ⟨#[105, 110, 116, 56]⟩] w fun e w' => e = .returned (.int .u64 8) ∧ w' = w := by
  go_enter Tryd.func76, Tryd.ntmps76
  go_wp2
  go_ret
  exact ⟨rfl, rfl⟩
theorem vwid_int16 (w : World) : Calls Tryd.prog 76 #[.string ⟨#[105, 110, 116, 49, 54]⟩] w fun e w' => e = .returned (.int .u64 16) ∧ w' = w := by
  go_enter Tryd.func76, Tryd.ntmps76
  go_wp2
  go_ret
  exact ⟨rfl, rfl⟩
theorem vwid_int32 (w : World) : Calls Tryd.prog 76 #[.string ⟨#[105, 110, 116, 51, 50]⟩] w fun e w' => e = .returned (.int .u64 32) ∧ w' = w := by
  go_enter Tryd.func76, Tryd.ntmps76
  go_wp2
  go_ret
  exact ⟨rfl, rfl⟩
theorem vwid_int64 (w : World) : Calls Tryd.prog 76 #[.string ⟨#[105, 110, 116, 54, 52]⟩] w fun e w' => e = .returned (.int .u64 64) ∧ w' = w := by
  go_enter Tryd.func76, Tryd.ntmps76
  go_wp2
  go_ret
  exact ⟨rfl, rfl⟩
theorem vwid_uint8 (w : World) : Calls Tryd.prog 76 #[.string ⟨#[117, 105, 110, 116, 56]⟩] w fun e w' => e = .returned (.int .u64 8) ∧ w' = w := by
  go_enter Tryd.func76, Tryd.ntmps76
  go_wp2
  go_ret
  exact ⟨rfl, rfl⟩
theorem vwid_uint16 (w : World) : Calls Tryd.prog 76 #[.string ⟨#[117, 105, 110, 116, 49, 54]⟩] w fun e w' => e = .returned (.int .u64 16) ∧ w' = w := by
  go_enter Tryd.func76, Tryd.ntmps76
  go_wp2
  go_ret
  exact ⟨rfl, rfl⟩
theorem vwid_uint32 (w : World) : Calls Tryd.prog 76 #[.string ⟨#[117, 105, 110, 116, 51, 50]⟩] w fun e w' => e = .returned (.int .u64 32) ∧ w' = w := by
  go_enter Tryd.func76, Tryd.ntmps76
  go_wp2
  go_ret
  exact ⟨rfl, rfl⟩
theorem vwid_uint64 (w : World) : Calls Tryd.prog 76 #[.string ⟨#[117, 105, 110, 116, 54, 52]⟩] w fun e w' => e = .returned (.int .u64 64) ∧ w' = w := by
  go_enter Tryd.func76, Tryd.ntmps76
  go_wp2
  go_ret
  exact ⟨rfl, rfl⟩
theorem vlst_int8 (w : World) : Calls Tryd.prog 59 #[.string ⟨#[105, 110, 116, 56]⟩] w fun e w' => e = .returned (.int .i64 (-128)) ∧ w' = w := by
  go_enter Tryd.func59, Tryd.ntmps59
  go_wp2_with (go_at_call 76; refine (vwid_int8 _).mono ?_; rintro e w' ⟨rfl, rfl⟩)
  go_ret
  exact ⟨(by first | rfl | exact congrArg (fun n => Ending.returned (Value.int IntKind.i64 n)) (show wrap64 (wrap64 9223372036854775808 - 1) = 9223372036854775807 by decide +kernel)), rfl⟩
theorem vlst_int16 (w : World) : Calls Tryd.prog 59 #[.string ⟨#[105, 110, 116, 49, 54]⟩] w fun e w' => e = .returned (.int .i64 (-32768)) ∧ w' = w := by
  go_enter Tryd.func59, Tryd.ntmps59
  go_wp2_with (go_at_call 76; refine (vwid_int16 _).mono ?_; rintro e w' ⟨rfl, rfl⟩)
  go_ret
  exact ⟨(by first | rfl | exact congrArg (fun n => Ending.returned (Value.int IntKind.i64 n)) (show wrap64 (wrap64 9223372036854775808 - 1) = 9223372036854775807 by decide +kernel)), rfl⟩
theorem vlst_int32 (w : World) : Calls Tryd.prog 59 #[.string ⟨#[105, 110, 116, 51, 50]⟩] w fun e w' => e = .returned (.int .i64 (-2147483648)) ∧ w' = w := by
  go_enter Tryd.func59, Tryd.ntmps59
  go_wp2_with (go_at_call 76; refine (vwid_int32 _).mono ?_; rintro e w' ⟨rfl, rfl⟩)
  go_ret
  exact ⟨(by first | rfl | exact congrArg (fun n => Ending.returned (Value.int IntKind.i64 n)) (show wrap64 (wrap64 9223372036854775808 - 1) = 9223372036854775807 by decide +kernel)), rfl⟩
theorem vlst_int64 (w : World) : Calls Tryd.prog 59 #[.string ⟨#[105, 110, 116, 54, 52]⟩] w fun e w' => e = .returned (.int .i64 (-9223372036854775808)) ∧ w' = w := by
  go_enter Tryd.func59, Tryd.ntmps59
  go_wp2_with (go_at_call 76; refine (vwid_int64 _).mono ?_; rintro e w' ⟨rfl, rfl⟩)
  go_ret
  exact ⟨(by first | rfl | exact congrArg (fun n => Ending.returned (Value.int IntKind.i64 n)) (show wrap64 (wrap64 9223372036854775808 - 1) = 9223372036854775807 by decide +kernel)), rfl⟩
theorem vgrt_int8 (w : World) : Calls Tryd.prog 60 #[.string ⟨#[105, 110, 116, 56]⟩] w fun e w' => e = .returned (.int .i64 127) ∧ w' = w := by
  go_enter Tryd.func60, Tryd.ntmps60
  go_wp2_with (go_at_call 76; refine (vwid_int8 _).mono ?_; rintro e w' ⟨rfl, rfl⟩)
  go_ret
  exact ⟨(by first | rfl | exact congrArg (fun n => Ending.returned (Value.int IntKind.i64 n)) (show wrap64 (wrap64 9223372036854775808 - 1) = 9223372036854775807 by decide +kernel)), rfl⟩
theorem vgrt_int16 (w : World) : Calls Tryd.prog 60 #[.string ⟨#[105, 110, 116, 49, 54]⟩] w fun e w' => e = .returned (.int .i64 32767) ∧ w' = w := by
  go_enter Tryd.func60, Tryd.ntmps60
  go_wp2_with (go_at_call 76; refine (vwid_int16 _).mono ?_; rintro e w' ⟨rfl, rfl⟩)
  go_ret
  exact ⟨(by first | rfl | exact congrArg (fun n => Ending.returned (Value.int IntKind.i64 n)) (show wrap64 (wrap64 9223372036854775808 - 1) = 9223372036854775807 by decide +kernel)), rfl⟩
theorem vgrt_int32 (w : World) : Calls Tryd.prog 60 #[.string ⟨#[105, 110, 116, 51, 50]⟩] w fun e w' => e = .returned (.int .i64 2147483647) ∧ w' = w := by
  go_enter Tryd.func60, Tryd.ntmps60
  go_wp2_with (go_at_call 76; refine (vwid_int32 _).mono ?_; rintro e w' ⟨rfl, rfl⟩)
  go_ret
  exact ⟨(by first | rfl | exact congrArg (fun n => Ending.returned (Value.int IntKind.i64 n)) (show wrap64 (wrap64 9223372036854775808 - 1) = 9223372036854775807 by decide +kernel)), rfl⟩
theorem vgrt_int64 (w : World) : Calls Tryd.prog 60 #[.string ⟨#[105, 110, 116, 54, 52]⟩] w fun e w' => e = .returned (.int .i64 9223372036854775807) ∧ w' = w := by
  go_enter Tryd.func60, Tryd.ntmps60
  go_wp2_with (go_at_call 76; refine (vwid_int64 _).mono ?_; rintro e w' ⟨rfl, rfl⟩)
  go_ret
  exact ⟨(by first | rfl | exact congrArg (fun n => Ending.returned (Value.int IntKind.i64 n)) (show wrap64 (wrap64 9223372036854775808 - 1) = 9223372036854775807 by decide +kernel)), rfl⟩
theorem vmst_uint8 (w : World) : Calls Tryd.prog 62 #[.string ⟨#[117, 105, 110, 116, 56]⟩] w fun e w' => e = .returned (.int .u64 255) ∧ w' = w := by
  go_enter Tryd.func62, Tryd.ntmps62
  go_wp2_with (go_at_call 76; refine (vwid_uint8 _).mono ?_; rintro e w' ⟨rfl, rfl⟩)
  go_ret
  exact ⟨(by first | rfl | exact congrArg (fun n => Ending.returned (Value.int IntKind.i64 n)) (show wrap64 (wrap64 9223372036854775808 - 1) = 9223372036854775807 by decide +kernel)), rfl⟩
theorem vmst_uint16 (w : World) : Calls Tryd.prog 62 #[.string ⟨#[117, 105, 110, 116, 49, 54]⟩] w fun e w' => e = .returned (.int .u64 65535) ∧ w' = w := by
  go_enter Tryd.func62, Tryd.ntmps62
  go_wp2_with (go_at_call 76; refine (vwid_uint16 _).mono ?_; rintro e w' ⟨rfl, rfl⟩)
  go_ret
  exact ⟨(by first | rfl | exact congrArg (fun n => Ending.returned (Value.int IntKind.i64 n)) (show wrap64 (wrap64 9223372036854775808 - 1) = 9223372036854775807 by decide +kernel)), rfl⟩
theorem vmst_uint32 (w : World) : Calls Tryd.prog 62 #[.string ⟨#[117, 105, 110, 116, 51, 50]⟩] w fun e w' => e = .returned (.int .u64 4294967295) ∧ w' = w := by
  go_enter Tryd.func62, Tryd.ntmps62
  go_wp2_with (go_at_call 76; refine (vwid_uint32 _).mono ?_; rintro e w' ⟨rfl, rfl⟩)
  go_ret
  exact ⟨(by first | rfl | exact congrArg (fun n => Ending.returned (Value.int IntKind.i64 n)) (show wrap64 (wrap64 9223372036854775808 - 1) = 9223372036854775807 by decide +kernel)), rfl⟩
theorem vmst_uint64 (w : World) : Calls Tryd.prog 62 #[.string ⟨#[117, 105, 110, 116, 54, 52]⟩] w fun e w' => e = .returned (.int .u64 18446744073709551615) ∧ w' = w := by
  go_enter Tryd.func62, Tryd.ntmps62
  go_wp2_with (go_at_call 76; refine (vwid_uint64 _).mono ?_; rintro e w' ⟨rfl, rfl⟩)
  go_ret
  exact ⟨(by first | rfl | exact congrArg (fun n => Ending.returned (Value.int IntKind.i64 n)) (show wrap64 (wrap64 9223372036854775808 - 1) = 9223372036854775807 by decide +kernel)), rfl⟩
end Go.Proofs.YtpkgngpmnapdoaaDoor
