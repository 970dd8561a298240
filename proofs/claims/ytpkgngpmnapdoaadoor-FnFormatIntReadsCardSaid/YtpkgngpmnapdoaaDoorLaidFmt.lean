/- What the laid condition gives FormatInt's walks: math/bits's table and the powers of ten. -/
import Derived.Test.YtpkgngpmnapdoaaDoorFmt
import Derived.LaidSub
import Derived.LaidMore
import Derived.MakeChecks
namespace Go.Proofs.YtpkgngpmnapdoaaDoor
open Go.ChangeShapes Go.WideShapes Go.RowKit
set_option linter.unusedVariables false
set_option linter.unusedSimpArgs false
set_option maxRecDepth 100000
def laid4 : List (String × DataW Unit) := [("math/bits.deBruijn32tab", Rows.laid_math_bits_deBruijn32tab), ("math/bits.deBruijn64tab", Rows.laid_math_bits_deBruijn64tab), ("internal/strconv.uint64pow10", Rows.laid_internal_strconv_uint64pow10), ("pub-quern/pub/ql.errDivByZero", Rows.laid_pub_quern_pub_ql_errDivByZero)]
def tab64 : List Int := [0, 1, 56, 2, 57, 49, 28, 3, 61, 58, 42, 50, 38, 29, 17, 4, 62, 47, 59, 36, 45, 43, 51, 22, 53, 39, 33, 30, 24, 18, 12, 5, 63, 55, 48, 27, 60, 41, 37, 16, 46, 35, 44, 21, 52, 32, 23, 11, 54, 26, 40, 15, 34, 20, 31, 10, 25, 14, 19, 9, 13, 8, 7, 6]
theorem tab64_is : (Rows.laid_math_bits_deBruijn64tab : DataW Unit) = Lib.tabData .u8 tab64 := rfl
theorem pow10_is : (Rows.laid_internal_strconv_uint64pow10 : DataW Unit) = Lib.tabData .u64 Lib.pow10Tab := rfl
theorem g64 : Tryd.prog.globalNamed "math/bits.deBruijn64tab" = some 4 := by kernel_rfl
theorem gPow : Tryd.prog.globalNamed "internal/strconv.uint64pow10" = some 2 := by kernel_rfl
theorem t64 : (Tryd.prog.globals[4]?).map (·.type) = some 122 := by kernel_rfl
theorem tPow : (Tryd.prog.globals[2]?).map (·.type) = some 116 := by kernel_rfl
theorem c64 : Tryd.prog.cellsOf 122 = 64 := by kernel_rfl
theorem cPow : Tryd.prog.cellsOf 116 = 20 := by kernel_rfl
theorem cU8 : Tryd.prog.cellsOf 5 = 1 := by kernel_rfl
theorem cU64 : Tryd.prog.cellsOf 22 = 1 := by kernel_rfl
theorem one_laid {n : String} {d : DataW Unit} {W : World} (hd : (d.handleName?).isNone = true) (h : laidMetH Tryd.prog [(n, d)] W) : laidMet Tryd.prog [(n, d)] W := by
  rw [MakeChecks.laidMetH_plain _ _ _ (by simp [hd])] at h
  exact h
theorem fmtW_of_laid {W : World} (h : laidMetH Tryd.prog laid4 W) : FmtW W := by
  have h1 : laidMetH Tryd.prog [("math/bits.deBruijn64tab", Rows.laid_math_bits_deBruijn64tab)] W := h.filter (fun x => x.1 == "math/bits.deBruijn64tab")
  have h2 : laidMetH Tryd.prog [("internal/strconv.uint64pow10", Rows.laid_internal_strconv_uint64pow10)] W := h.filter (fun x => x.1 == "internal/strconv.uint64pow10")
  have m1 := one_laid rfl h1
  have m2 := one_laid rfl h2
  rw [tab64_is] at m1
  rw [pow10_is] at m2
  have b1 := Lib.tabIs_of_head g64 t64 Tryd.underlying122 Tryd.underlying5 cU8 c64 m1
  have b2 := Lib.tabIs_of_head gPow tPow Tryd.underlying116 Tryd.underlying22 cU64 cPow m2
  have hc : ∀ i, i < 64 → W.cell? ⟨4, i, none⟩ = some (.int .u8 (tab64.getD i 0)) := fun i hi => b1.cell g64 i hi
  have hp : ∀ i, i < 20 → W.cell? ⟨2, i, none⟩ = some (.int .u64 (Lib.pow10Tab.getD i 0)) := fun i hi => b2.cell gPow i (by rw [Lib.pow10Tab_length]; exact hi)
  refine ⟨⟨hc 1 (by decide), hc 3 (by decide), hc 7 (by decide), hc 15 (by decide), hc 31 (by decide), World.block_lt_of_cell? _ _ (hc 1 (by decide))⟩, fun w' hb => ?_⟩
  have hlt : 2 < W.heap.size := World.block_lt_of_cell? _ _ (hp 0 (by decide))
  have b3 : W.var? Tryd.prog "internal/strconv.uint64pow10" = _ := b2
  show w'.var? Tryd.prog "internal/strconv.uint64pow10" = _
  rw [← b3]
  unfold World.var?
  rw [gPow]
  simp only [Option.bind_some]
  rw [hb.block 2 hlt]
set_option maxRecDepth 100000 in
/-- The door's own heap meets the condition. -/
theorem door_met4 (os : Os) (args : Array Value) : laidMetH Tryd.prog laid4 ((World.doorLaid Tryd.prog 400 os).forCall (fun _ _ => 0) ⟨#[], args, []⟩).memory :=
  laidMetH_of_parts3 (fuel := 65) (laidMet_of_run' 65 (by kernel_rfl) (by kernel_rfl)) (by kernel_rfl) (by kernel_rfl)
end Go.Proofs.YtpkgngpmnapdoaaDoor
