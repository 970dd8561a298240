/- FnContainsPlaces: the walk of the law. For every two texts. -/
import Derived.Deep.RegionHeld3
import Derived.Test.YtpkgngpmnapdoaaDoorCont
import Derived.Test.YtpkgngpmnapdoaaDoorKeep
namespace Go.Proofs.YtpkgngpmnapdoaaDoor
open Go.RowKit
set_option linter.unusedVariables false
set_option linter.unusedSimpArgs false
set_option maxRecDepth 100000
attribute [local go_sem] store_flt
set_option maxHeartbeats 4000000 in
theorem walk_cont (s t : ByteArray) (w : World) : Calls Tryd.prog 4 #[.string s, .string t] w (LawPost w) := by
  go_enter Tryd.func4, Tryd.ntmps4
  by_cases a1 : (2147483647 : Int) < (s.size : Int)
  · go_wp2
    go_ret
    exact ⟨rfl, Below.refl _ _⟩
  by_cases a2 : (2147483647 : Int) < (t.size : Int)
  · go_wp2
    go_ret
    exact ⟨rfl, Below.refl _ _⟩
  by_cases a3 : (300 : Int) < (s.size : Int)
  · go_wp2_with (go_at_call 13; refine (spells_any _).mono ?_; rintro e w1 ⟨rfl, hb1⟩)
    go_ret
    exact ⟨rfl, hb1⟩
  by_cases a4 : (300 : Int) < (t.size : Int)
  · go_wp2_with (go_at_call 13; refine (spells_any _).mono ?_; rintro e w1 ⟨rfl, hb1⟩)
    go_ret
    exact ⟨rfl, hb1⟩
  have hs : s.size ≤ 300 := by omega
  have ht : t.size ≤ 300 := by omega
  go_wp2
  go_loop [5, 6] (fun b i => ∃ k : Nat, k ≤ s.size + 1 - t.size ∧ i = .int .i64 k ∧ b = .bool (hasTo s t k)) (fun b i => s.size + 1 - t.size - (intOf i).toNat)
  case atStart => exact ⟨0, Nat.zero_le _, rfl, rfl⟩
  case round =>
    obtain ⟨k, hk, rfl, rfl⟩ := hrel
    by_cases hlt : k + t.size ≤ s.size
    · have hsl := fun wx => sub_of (T := 9) Tryd.underlying9 hlt wx
      cases hn : hasTo s t k with
      | true =>
        have HS := Lib.hid (show hasTo s t (k + 1) = true from hasTo_mono hn (by omega))
        clear hn
        go_wp2
        go_round
        case rel => exact ⟨k + 1, by omega, by go_num, by rw [HS.out]⟩
        case measure => simp [intOf]; omega
      | false =>
        cases he : ((s.extract k (k + t.size)).toList == t.toList) with
        | true =>
          have HS := Lib.hid (show hasTo s t (k + 1) = true by show (hasTo s t k || _) = true; rw [hn, he]; rfl)
          clear hn
          go_wp2
          go_round
          case rel => exact ⟨k + 1, by omega, by go_num, by rw [HS.out]⟩
          case measure => simp [intOf]; omega
        | false =>
          have HS := Lib.hid (show hasTo s t (k + 1) = false by show (hasTo s t k || _) = false; rw [hn, he]; rfl)
          clear hn
          go_wp2
          go_round
          case rel => exact ⟨k + 1, by omega, by go_num, by rw [HS.out]⟩
          case measure => simp [intOf]; omega
    · have hh : hasTo s t k = has s t := by unfold has; rw [show s.size + 1 - t.size = k by omega]
      rw [hh]
      clear hh
      go_wp2_with fail
      refine (str_any _ _).mono ?_
      rintro e w1 ⟨rfl, hb1⟩
      go_wp2_with fail
      refine (str_any _ _).mono ?_
      rintro e w2 ⟨rfl, hb2⟩
      have H := Lib.hid (icont s t (by omega) (by omega) w2)
      go_wp2_with fail
      refine H.out.mono ?_
      rintro e w3 ⟨rfl, hb3⟩
      have HB := Lib.hid ((hb1.trans (hb2.mono hb1.size)).trans (hb3.mono (Nat.le_trans hb1.size hb2.size)))
      have X0 : Below w3.heap.size w3 (w3.alloc (.cells #[.string (V.bool (has s t)).K, .int .i64 (V.bool (has s t)).N, .int .u64 (V.bool (has s t)).U, .float .f64 (V.bool (has s t)).F, .string (V.bool (has s t)).S] 25)) := (Below.refl _ _).alloc (Nat.le_refl _) _
      have X2 := one_cells (Below.refl (w3.alloc (.cells #[.string (V.bool (has s t)).K, .int .i64 (V.bool (has s t)).N, .int .u64 (V.bool (has s t)).U, .float .f64 (V.bool (has s t)).F, .string (V.bool (has s t)).S] 25)).heap.size (w3.alloc (.cells #[.string (V.bool (has s t)).K, .int .i64 (V.bool (has s t)).N, .int .u64 (V.bool (has s t)).U, .float .f64 (V.bool (has s t)).F, .string (V.bool (has s t)).S] 25)))
      have X3 : w3.heap.size < (w3.alloc (.cells #[.string (V.bool (has s t)).K, .int .i64 (V.bool (has s t)).N, .int .u64 (V.bool (has s t)).U, .float .f64 (V.bool (has s t)).F, .string (V.bool (has s t)).S] 25)).heap.size := by simp
      have HX := Lib.hid X0
      clear X0 hb1 hb2 hb3 H
      go_wp2_with fail
      generalize w3.alloc (.cells #[.string (V.bool (has s t)).K, .int .i64 (V.bool (has s t)).N, .int .u64 (V.bool (has s t)).U, .float .f64 (V.bool (has s t)).F, .string (V.bool (has s t)).S] 25) = w4 at *
      have hd0 : Below w4.heap.size w4 w4.drew := (Below.refl _ _).drew
      go_region_held3 (fun w' => w'.cell? ⟨w3.heap.size, 0, none⟩ = some (.string (V.bool (has s t)).K) ∧ w'.cell? ⟨w3.heap.size, 1, none⟩ = some (.int .i64 (V.bool (has s t)).N) ∧ w'.cell? ⟨w3.heap.size, 2, none⟩ = some (.int .u64 (V.bool (has s t)).U) ∧ w'.cell? ⟨w3.heap.size, 3, none⟩ = some (.float .f64 (V.bool (has s t)).F) ∧ w'.cell? ⟨w3.heap.size, 4, none⟩ = some (.string (V.bool (has s t)).S) ∧ w3.heap.size < w'.heap.size ∧ Below w4.heap.size w4 w') (first | exact keep_one hb (by assumption) | go_keep) (first | (go_at_call 17; (with_reducible refine (truths_any (has s t) _).mono ?_); rintro e w' ⟨rfl, hb⟩) | (go_at_call 16; (with_reducible refine (same_any (V.bool (has s t)) (V.bool (has s t)) rfl rfl rfl rfl rfl _).mono ?_); rintro e w' ⟨rfl, hb⟩) | (go_at_call 13; (with_reducible refine (spells_any _).mono ?_); rintro e w' ⟨rfl, hb⟩))
      go_wp2
      go_ret
      exact ⟨rfl, (HB.out.trans (HX.out.mono HB.out.size)).trans ((last_one (by assumption)).mono (by have := HB.out.size; have := HX.out.size; omega))⟩
end Go.Proofs.YtpkgngpmnapdoaaDoor
