/- FnStringsNull: the walk of the law. For every text. -/
import Derived.Deep.RegionHeld3
import Derived.Test.YtpkgngpmnapdoaaDoorCont
import Derived.Test.YtpkgngpmnapdoaaDoorCon0
import Derived.Test.YtpkgngpmnapdoaaDoorPre
import Derived.Test.YtpkgngpmnapdoaaDoorSuf
import Derived.Test.YtpkgngpmnapdoaaDoorKeep
namespace Go.Proofs.YtpkgngpmnapdoaaDoor
open Go.RowKit
set_option linter.unusedVariables false
set_option linter.unusedSimpArgs false
set_option maxRecDepth 100000
attribute [local go_sem] store_flt
set_option maxHeartbeats 4000000 in
theorem walk_null (s : ByteArray) (w : World) : Calls Tryd.prog 7 #[.string s] w (LawPost w) := by
  go_enter Tryd.func7, Tryd.ntmps7
  by_cases a1 : (2147483647 : Int) < (s.size : Int)
  · go_wp2
    go_ret
    exact ⟨rfl, Below.refl _ _⟩
  by_cases a3 : (2000 : Int) < (s.size : Int)
  · go_wp2_with (go_at_call 13; refine (spells_any _).mono ?_; rintro e w1 ⟨rfl, hb1⟩)
    go_ret
    exact ⟨rfl, hb1⟩
  go_wp2
  go_loopw [18] (fun i wr => ∃ k : Nat, k ≤ 3 ∧ i = .int .i64 k ∧ Below (w.alloc (.cells #[.func (Fn.func 14) #[] #[], .func (Fn.func 23) #[] #[], .func (Fn.func 24) #[] #[]] 33)).heap.size (w.alloc (.cells #[.func (Fn.func 14) #[] #[], .func (Fn.func 23) #[] #[], .func (Fn.func 24) #[] #[]] 33)) wr) (fun i _ => 3 - (intOf i).toNat)
  case atStart => exact ⟨0, by decide, rfl, Below.refl _ _⟩
  case round =>
    obtain ⟨k, hk, rfl, hbl⟩ := hrel
    have hc := one_cells hbl
    have hB := Lib.hid hbl
    clear hbl
    match k, hk with
    | 0, _ =>
      have c0 : wr.cell? ⟨w.heap.size, 0, none⟩ = some (.func (Fn.func 14) #[] #[]) := hc 0
      clear hc

      go_wp2_with fail
      refine (str_any _ _).mono ?_
      rintro e w1 ⟨rfl, hb1⟩
      go_wp2_with fail
      refine (null_any _).mono ?_
      rintro e w2 ⟨rfl, hb2⟩
      go_wp2_with fail
      go_at_call 14
      refine (icontR s _).mono ?_
      rintro e w3 ⟨rfl, hb3⟩
      have B3 := (hb1.trans (hb2.mono hb1.size)).trans (hb3.mono (Nat.le_trans hb1.size hb2.size))
      have Z3 := B3.size
      have D3 : Below w3.heap.size w3 (w3.alloc (.cells #[.string V.null.K, .int .i64 V.null.N, .int .u64 V.null.U, .float .f64 V.null.F, .string V.null.S] 25)) := (Below.refl _ _).alloc (Nat.le_refl _) _
      clear hb1 hb2 hb3
      go_wp2_with fail
      refine (null_any _).mono ?_
      rintro e w4 ⟨rfl, hb4⟩
      go_wp2_with fail
      refine (str_any _ _).mono ?_
      rintro e w5 ⟨rfl, hb5⟩
      go_wp2_with fail
      go_at_call 14
      refine (icontL s _).mono ?_
      rintro e w6 ⟨rfl, hb6⟩
      have B6 := (hb4.trans (hb5.mono hb4.size)).trans (hb6.mono (Nat.le_trans hb4.size hb5.size))
      have X1 := one_cells B6
      have Z6 := B6.size
      simp only [World.size_alloc] at Z6
      have D6 : Below w6.heap.size w6 (w6.alloc (.cells #[.string V.null.K, .int .i64 V.null.N, .int .u64 V.null.U, .float .f64 V.null.F, .string V.null.S] 25)) := (Below.refl _ _).alloc (Nat.le_refl _) _
      have X1' : ∀ j, (w6.alloc (.cells #[.string V.null.K, .int .i64 V.null.N, .int .u64 V.null.U, .float .f64 V.null.F, .string V.null.S] 25)).cell? ⟨w3.heap.size, j, none⟩ = (#[.string V.null.K, .int .i64 V.null.N, .int .u64 V.null.U, .float .f64 V.null.F, .string V.null.S] : Array Value)[j]? := fun j => (D6.cell (p := ⟨w3.heap.size, j, none⟩) (by show w3.heap.size < _; omega)).trans (X1 j)
      have X2 := one_cells (Below.refl (w6.alloc (.cells #[.string V.null.K, .int .i64 V.null.N, .int .u64 V.null.U, .float .f64 V.null.F, .string V.null.S] 25)).heap.size (w6.alloc (.cells #[.string V.null.K, .int .i64 V.null.N, .int .u64 V.null.U, .float .f64 V.null.F, .string V.null.S] 25)))
      have X3 : w3.heap.size < (w6.alloc (.cells #[.string V.null.K, .int .i64 V.null.N, .int .u64 V.null.U, .float .f64 V.null.F, .string V.null.S] 25)).heap.size := by simp; omega
      have X4 : w6.heap.size < (w6.alloc (.cells #[.string V.null.K, .int .i64 V.null.N, .int .u64 V.null.U, .float .f64 V.null.F, .string V.null.S] 25)).heap.size := by simp
      have HB := Lib.hid (((B3.trans (D3.mono Z3)).trans (B6.mono (Nat.le_trans Z3 D3.size))).trans (D6.mono (Nat.le_trans (Nat.le_trans Z3 D3.size) B6.size)))
      clear hb4 hb5 hb6 B3 B6 D3 D6 X1
      go_wp2_with fail
      generalize w6.alloc (.cells #[.string V.null.K, .int .i64 V.null.N, .int .u64 V.null.U, .float .f64 V.null.F, .string V.null.S] 25) = w7 at *
      have hd0 : Below w7.heap.size w7 w7.drew := (Below.refl _ _).drew
      go_region_held3 (fun w' => w'.cell? ⟨w3.heap.size, 0, none⟩ = some (.string V.null.K) ∧ w'.cell? ⟨w3.heap.size, 1, none⟩ = some (.int .i64 V.null.N) ∧ w'.cell? ⟨w3.heap.size, 2, none⟩ = some (.int .u64 V.null.U) ∧ w'.cell? ⟨w3.heap.size, 3, none⟩ = some (.float .f64 V.null.F) ∧ w'.cell? ⟨w3.heap.size, 4, none⟩ = some (.string V.null.S) ∧ w'.cell? ⟨w6.heap.size, 0, none⟩ = some (.string V.null.K) ∧ w'.cell? ⟨w6.heap.size, 1, none⟩ = some (.int .i64 V.null.N) ∧ w'.cell? ⟨w6.heap.size, 2, none⟩ = some (.int .u64 V.null.U) ∧ w'.cell? ⟨w6.heap.size, 3, none⟩ = some (.float .f64 V.null.F) ∧ w'.cell? ⟨w6.heap.size, 4, none⟩ = some (.string V.null.S) ∧ w3.heap.size < w'.heap.size ∧ w6.heap.size < w'.heap.size ∧ Below w7.heap.size w7 w') (first | exact keep_two hb (by assumption) | go_keep) (first | (go_at_call 25; (with_reducible refine (null_any _).mono ?_); rintro e w' ⟨rfl, hb⟩) | (go_at_call 16; (with_reducible refine (same_any V.null V.null rfl rfl rfl rfl rfl _).mono ?_); rintro e w' ⟨rfl, hb⟩))
      have HL := Lib.hid (last_below (by assumption))
      go_wp2
      go_roundw
      case rel => exact ⟨1, by decide, by go_num, hB.out.trans ((HB.out.trans (HL.out.mono HB.out.size)).mono hB.out.size)⟩
      case measure => simp [intOf]

    | 1, _ =>
      have c0 : wr.cell? ⟨w.heap.size, 1, none⟩ = some (.func (Fn.func 23) #[] #[]) := hc 1
      clear hc

      go_wp2_with fail
      refine (str_any _ _).mono ?_
      rintro e w1 ⟨rfl, hb1⟩
      go_wp2_with fail
      refine (null_any _).mono ?_
      rintro e w2 ⟨rfl, hb2⟩
      go_wp2_with fail
      go_at_call 23
      refine (ipreR s _).mono ?_
      rintro e w3 ⟨rfl, hb3⟩
      have B3 := (hb1.trans (hb2.mono hb1.size)).trans (hb3.mono (Nat.le_trans hb1.size hb2.size))
      have Z3 := B3.size
      have D3 : Below w3.heap.size w3 (w3.alloc (.cells #[.string V.null.K, .int .i64 V.null.N, .int .u64 V.null.U, .float .f64 V.null.F, .string V.null.S] 25)) := (Below.refl _ _).alloc (Nat.le_refl _) _
      clear hb1 hb2 hb3
      go_wp2_with fail
      refine (null_any _).mono ?_
      rintro e w4 ⟨rfl, hb4⟩
      go_wp2_with fail
      refine (str_any _ _).mono ?_
      rintro e w5 ⟨rfl, hb5⟩
      go_wp2_with fail
      go_at_call 23
      refine (ipreL s _).mono ?_
      rintro e w6 ⟨rfl, hb6⟩
      have B6 := (hb4.trans (hb5.mono hb4.size)).trans (hb6.mono (Nat.le_trans hb4.size hb5.size))
      have X1 := one_cells B6
      have Z6 := B6.size
      simp only [World.size_alloc] at Z6
      have D6 : Below w6.heap.size w6 (w6.alloc (.cells #[.string V.null.K, .int .i64 V.null.N, .int .u64 V.null.U, .float .f64 V.null.F, .string V.null.S] 25)) := (Below.refl _ _).alloc (Nat.le_refl _) _
      have X1' : ∀ j, (w6.alloc (.cells #[.string V.null.K, .int .i64 V.null.N, .int .u64 V.null.U, .float .f64 V.null.F, .string V.null.S] 25)).cell? ⟨w3.heap.size, j, none⟩ = (#[.string V.null.K, .int .i64 V.null.N, .int .u64 V.null.U, .float .f64 V.null.F, .string V.null.S] : Array Value)[j]? := fun j => (D6.cell (p := ⟨w3.heap.size, j, none⟩) (by show w3.heap.size < _; omega)).trans (X1 j)
      have X2 := one_cells (Below.refl (w6.alloc (.cells #[.string V.null.K, .int .i64 V.null.N, .int .u64 V.null.U, .float .f64 V.null.F, .string V.null.S] 25)).heap.size (w6.alloc (.cells #[.string V.null.K, .int .i64 V.null.N, .int .u64 V.null.U, .float .f64 V.null.F, .string V.null.S] 25)))
      have X3 : w3.heap.size < (w6.alloc (.cells #[.string V.null.K, .int .i64 V.null.N, .int .u64 V.null.U, .float .f64 V.null.F, .string V.null.S] 25)).heap.size := by simp; omega
      have X4 : w6.heap.size < (w6.alloc (.cells #[.string V.null.K, .int .i64 V.null.N, .int .u64 V.null.U, .float .f64 V.null.F, .string V.null.S] 25)).heap.size := by simp
      have HB := Lib.hid (((B3.trans (D3.mono Z3)).trans (B6.mono (Nat.le_trans Z3 D3.size))).trans (D6.mono (Nat.le_trans (Nat.le_trans Z3 D3.size) B6.size)))
      clear hb4 hb5 hb6 B3 B6 D3 D6 X1
      go_wp2_with fail
      generalize w6.alloc (.cells #[.string V.null.K, .int .i64 V.null.N, .int .u64 V.null.U, .float .f64 V.null.F, .string V.null.S] 25) = w7 at *
      have hd0 : Below w7.heap.size w7 w7.drew := (Below.refl _ _).drew
      go_region_held3 (fun w' => w'.cell? ⟨w3.heap.size, 0, none⟩ = some (.string V.null.K) ∧ w'.cell? ⟨w3.heap.size, 1, none⟩ = some (.int .i64 V.null.N) ∧ w'.cell? ⟨w3.heap.size, 2, none⟩ = some (.int .u64 V.null.U) ∧ w'.cell? ⟨w3.heap.size, 3, none⟩ = some (.float .f64 V.null.F) ∧ w'.cell? ⟨w3.heap.size, 4, none⟩ = some (.string V.null.S) ∧ w'.cell? ⟨w6.heap.size, 0, none⟩ = some (.string V.null.K) ∧ w'.cell? ⟨w6.heap.size, 1, none⟩ = some (.int .i64 V.null.N) ∧ w'.cell? ⟨w6.heap.size, 2, none⟩ = some (.int .u64 V.null.U) ∧ w'.cell? ⟨w6.heap.size, 3, none⟩ = some (.float .f64 V.null.F) ∧ w'.cell? ⟨w6.heap.size, 4, none⟩ = some (.string V.null.S) ∧ w3.heap.size < w'.heap.size ∧ w6.heap.size < w'.heap.size ∧ Below w7.heap.size w7 w') (first | exact keep_two hb (by assumption) | go_keep) (first | (go_at_call 25; (with_reducible refine (null_any _).mono ?_); rintro e w' ⟨rfl, hb⟩) | (go_at_call 16; (with_reducible refine (same_any V.null V.null rfl rfl rfl rfl rfl _).mono ?_); rintro e w' ⟨rfl, hb⟩))
      have HL := Lib.hid (last_below (by assumption))
      go_wp2
      go_roundw
      case rel => exact ⟨2, by decide, by go_num, hB.out.trans ((HB.out.trans (HL.out.mono HB.out.size)).mono hB.out.size)⟩
      case measure => simp [intOf]

    | 2, _ =>
      have c0 : wr.cell? ⟨w.heap.size, 2, none⟩ = some (.func (Fn.func 24) #[] #[]) := hc 2
      clear hc

      go_wp2_with fail
      refine (str_any _ _).mono ?_
      rintro e w1 ⟨rfl, hb1⟩
      go_wp2_with fail
      refine (null_any _).mono ?_
      rintro e w2 ⟨rfl, hb2⟩
      go_wp2_with fail
      go_at_call 24
      refine (isufR s _).mono ?_
      rintro e w3 ⟨rfl, hb3⟩
      have B3 := (hb1.trans (hb2.mono hb1.size)).trans (hb3.mono (Nat.le_trans hb1.size hb2.size))
      have Z3 := B3.size
      have D3 : Below w3.heap.size w3 (w3.alloc (.cells #[.string V.null.K, .int .i64 V.null.N, .int .u64 V.null.U, .float .f64 V.null.F, .string V.null.S] 25)) := (Below.refl _ _).alloc (Nat.le_refl _) _
      clear hb1 hb2 hb3
      go_wp2_with fail
      refine (null_any _).mono ?_
      rintro e w4 ⟨rfl, hb4⟩
      go_wp2_with fail
      refine (str_any _ _).mono ?_
      rintro e w5 ⟨rfl, hb5⟩
      go_wp2_with fail
      go_at_call 24
      refine (isufL s _).mono ?_
      rintro e w6 ⟨rfl, hb6⟩
      have B6 := (hb4.trans (hb5.mono hb4.size)).trans (hb6.mono (Nat.le_trans hb4.size hb5.size))
      have X1 := one_cells B6
      have Z6 := B6.size
      simp only [World.size_alloc] at Z6
      have D6 : Below w6.heap.size w6 (w6.alloc (.cells #[.string V.null.K, .int .i64 V.null.N, .int .u64 V.null.U, .float .f64 V.null.F, .string V.null.S] 25)) := (Below.refl _ _).alloc (Nat.le_refl _) _
      have X1' : ∀ j, (w6.alloc (.cells #[.string V.null.K, .int .i64 V.null.N, .int .u64 V.null.U, .float .f64 V.null.F, .string V.null.S] 25)).cell? ⟨w3.heap.size, j, none⟩ = (#[.string V.null.K, .int .i64 V.null.N, .int .u64 V.null.U, .float .f64 V.null.F, .string V.null.S] : Array Value)[j]? := fun j => (D6.cell (p := ⟨w3.heap.size, j, none⟩) (by show w3.heap.size < _; omega)).trans (X1 j)
      have X2 := one_cells (Below.refl (w6.alloc (.cells #[.string V.null.K, .int .i64 V.null.N, .int .u64 V.null.U, .float .f64 V.null.F, .string V.null.S] 25)).heap.size (w6.alloc (.cells #[.string V.null.K, .int .i64 V.null.N, .int .u64 V.null.U, .float .f64 V.null.F, .string V.null.S] 25)))
      have X3 : w3.heap.size < (w6.alloc (.cells #[.string V.null.K, .int .i64 V.null.N, .int .u64 V.null.U, .float .f64 V.null.F, .string V.null.S] 25)).heap.size := by simp; omega
      have X4 : w6.heap.size < (w6.alloc (.cells #[.string V.null.K, .int .i64 V.null.N, .int .u64 V.null.U, .float .f64 V.null.F, .string V.null.S] 25)).heap.size := by simp
      have HB := Lib.hid (((B3.trans (D3.mono Z3)).trans (B6.mono (Nat.le_trans Z3 D3.size))).trans (D6.mono (Nat.le_trans (Nat.le_trans Z3 D3.size) B6.size)))
      clear hb4 hb5 hb6 B3 B6 D3 D6 X1
      go_wp2_with fail
      generalize w6.alloc (.cells #[.string V.null.K, .int .i64 V.null.N, .int .u64 V.null.U, .float .f64 V.null.F, .string V.null.S] 25) = w7 at *
      have hd0 : Below w7.heap.size w7 w7.drew := (Below.refl _ _).drew
      go_region_held3 (fun w' => w'.cell? ⟨w3.heap.size, 0, none⟩ = some (.string V.null.K) ∧ w'.cell? ⟨w3.heap.size, 1, none⟩ = some (.int .i64 V.null.N) ∧ w'.cell? ⟨w3.heap.size, 2, none⟩ = some (.int .u64 V.null.U) ∧ w'.cell? ⟨w3.heap.size, 3, none⟩ = some (.float .f64 V.null.F) ∧ w'.cell? ⟨w3.heap.size, 4, none⟩ = some (.string V.null.S) ∧ w'.cell? ⟨w6.heap.size, 0, none⟩ = some (.string V.null.K) ∧ w'.cell? ⟨w6.heap.size, 1, none⟩ = some (.int .i64 V.null.N) ∧ w'.cell? ⟨w6.heap.size, 2, none⟩ = some (.int .u64 V.null.U) ∧ w'.cell? ⟨w6.heap.size, 3, none⟩ = some (.float .f64 V.null.F) ∧ w'.cell? ⟨w6.heap.size, 4, none⟩ = some (.string V.null.S) ∧ w3.heap.size < w'.heap.size ∧ w6.heap.size < w'.heap.size ∧ Below w7.heap.size w7 w') (first | exact keep_two hb (by assumption) | go_keep) (first | (go_at_call 25; (with_reducible refine (null_any _).mono ?_); rintro e w' ⟨rfl, hb⟩) | (go_at_call 16; (with_reducible refine (same_any V.null V.null rfl rfl rfl rfl rfl _).mono ?_); rintro e w' ⟨rfl, hb⟩))
      have HL := Lib.hid (last_below (by assumption))
      go_wp2
      go_roundw
      case rel => exact ⟨3, by decide, by go_num, hB.out.trans ((HB.out.trans (HL.out.mono HB.out.size)).mono hB.out.size)⟩
      case measure => simp [intOf]

    | 3, _ =>
      clear hc
      go_wp2_with (go_at_call 13; refine (spells_any _).mono ?_; rintro e w1 ⟨rfl, hb1⟩; have HB1 := Lib.hid hb1; clear hb1)
      go_ret
      exact ⟨rfl, (((Below.refl _ _).alloc (Nat.le_refl _) _).trans (hB.out.mono (by simp))).trans (HB1.out.mono (by have := hB.out.size; simp at this; omega))⟩
end Go.Proofs.YtpkgngpmnapdoaaDoor
