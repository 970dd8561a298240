/- contains of two texts; spells. -/
import Derived.Deep.RegionWith
import Derived.Test.YtpkgngpmnapdoaaDoorSearch
import Derived.Test.YtpkgngpmnapdoaaDoorTa
import Derived.Test.YtpkgngpmnapdoaaDoorCell
namespace Go.Proofs.YtpkgngpmnapdoaaDoor
open Go.RowKit
set_option linter.unusedVariables false
set_option linter.unusedSimpArgs false
set_option maxRecDepth 100000
attribute [local go_sem] store_flt
attribute [local go_sem] ta4 tn4 ta74 tn74 ta75 tn75 ta21 tn21 ta2 tn2 ta5 tn5 ta76 tn76 ta77 tn77 ta22 tn22 ta3 tn3 ta30 tn30 ta68 tn68 ta23 tn23 ta9 tn9 ta78 tn78 ta88 tn88 ta90 tn90 ta91 tn91 ta93 tn93 ta82 tn82
theorem bcont (s t : ByteArray) (hs : s.size ≤ 65536) (ht : t.size ≤ 65536) (b : Nat) (w : World) (c0 : w.cell? ⟨b, 0, none⟩ = some (.iface 9 (.string s))) (c1 : w.cell? ⟨b, 1, none⟩ = some (.iface 9 (.string t))) : Calls Tryd.prog 55 #[.slice (some ⟨b, 0, none⟩) 2 2, .map none] w fun e w' => e = .returned (.tuple #[.iface 4 (.bool (has s t)), .nilIface]) ∧ w' = w := by
  have H := Lib.hid (within_any s t hs ht w)
  clear hs ht
  go_enter Tryd.func55, Tryd.ntmps55
  go_wp2_with (go_at_call 72; refine H.out.mono ?_; rintro e w' ⟨rfl, rfl⟩)
  go_returns
  exact ⟨rfl, rfl⟩
theorem zcont (s t : ByteArray) (hs : s.size ≤ 65536) (ht : t.size ≤ 65536) (b : Nat) (w : World) (c0 : w.cell? ⟨b, 0, none⟩ = some (.iface 9 (.string s))) (c1 : w.cell? ⟨b, 1, none⟩ = some (.iface 9 (.string t))) : Calls Tryd.prog 34 #[.slice (some ⟨b, 0, none⟩) 2 2] w fun e w' => e = .returned (.tuple #[.iface 4 (.bool (has s t)), .nilIface]) ∧ w' = w := by
  have H := Lib.hid (bcont s t hs ht b w c0 c1)
  clear c0 c1 hs ht
  go_enter Tryd.func34, Tryd.ntmps34
  go_wp2_with (go_at_call 55; refine H.out.mono ?_; rintro e w' ⟨rfl, rfl⟩)
  go_returns
  exact ⟨rfl, rfl⟩
set_option maxHeartbeats 2000000 in
theorem icont (s t : ByteArray) (hs : s.size ≤ 65536) (ht : t.size ≤ 65536) (w : World) : Calls Tryd.prog 14 #[.agg #[.string ⟨#[115, 116, 114, 105, 110, 103]⟩, .int .i64 0, .int .u64 0, .float .f64 0, .string s], .agg #[.string ⟨#[115, 116, 114, 105, 110, 103]⟩, .int .i64 0, .int .u64 0, .float .f64 0, .string t]] w (ToldPost (V.bool (has s t)) w) := by
  have HS := Lib.hid hs
  have HT := Lib.hid ht
  clear hs ht
  go_enter Tryd.func14, Tryd.ntmps14
  go_wp2_with fail
  go_region_with (first | (go_at_call 29; (with_reducible refine (in_str s _).mono ?_); rintro e w1 ⟨rfl, hb1⟩; have hz1 := hb1.size; simp at hz1; obtain ⟨hc1, hf1⟩ := bcell hb1; have q1a : w.heap.size < w1.heap.size := (by omega); have q1b : w.heap.size + 1 < w1.heap.size := (by omega); have q1c : w.heap.size + 1 + 1 < w1.heap.size := (by omega)) | (go_at_call 29; (with_reducible refine (in_str t _).mono ?_); rintro e w2 ⟨rfl, hb2⟩; have hz2 := hb2.size; obtain ⟨hc2, hf2⟩ := bcell hb2; have q2a : w.heap.size < w2.heap.size := (by omega); have q2b : w.heap.size + 1 < w2.heap.size := (by omega); have q2c : w.heap.size + 1 + 1 < w2.heap.size := (by omega)) | (go_at_call 34; refine (zcont s t HS.out HT.out _ _ (new_cell _ _ _ _) (new_cell _ _ _ _)).mono ?_; rintro e w3 ⟨rfl, rfl⟩) | (go_at_call 33; refine (told_bool (has s t) _).mono ?_; rintro e w4 ⟨rfl, hb4⟩; have hz4 := hb4.size; simp at hz4; obtain ⟨hc4, hf4⟩ := bcell hb4; have q4a : w.heap.size < w4.heap.size := (by omega); have q4b : w.heap.size + 1 < w4.heap.size := (by omega); have q4c : w.heap.size + 1 + 1 < w4.heap.size := (by omega); have q4d : w2.heap.size < w4.heap.size := (by omega)))
  all_goals go_wp2
  all_goals exact bodyPost_ret (v := .tuple #[.agg #[.string (V.bool (has s t)).K, .int .i64 (V.bool (has s t)).N, .int .u64 (V.bool (has s t)).U, .float .f64 (V.bool (has s t)).F, .string (V.bool (has s t)).S], .int .i64 0]) (by simp [results, Tryd.results14, go_sem, hc1, hc2, hc4, q1a, q1b, q1c, q2a, q2b, q2c, q4a, q4b, q4c, q4d]) rfl ⟨rfl, (((((((((((((Below.refl _ _).alloc (by first | omega | (simp; done) | (simp; omega)) _).alloc (by first | omega | (simp; done) | (simp; omega)) _).alloc (by first | omega | (simp; done) | (simp; omega)) _).drew).trans (hb1.mono (by first | omega | (simp; done) | (simp; omega)))).trans (hb2.mono (by first | omega | (simp; done) | (simp; omega)))).alloc (by first | omega | (simp; done) | (simp; omega)) _).trans (hb4.mono (by first | omega | (simp; done) | (simp; omega)))).setCell (by first | omega | (simp; done) | (simp; omega)) _).setCell (by first | omega | (simp; done) | (simp; omega)) _).setCell (by first | omega | (simp; done) | (simp; omega)) _).setCell (by first | omega | (simp; done) | (simp; omega)) _).setCell (by first | omega | (simp; done) | (simp; omega)) _⟩

theorem abc_b : has ⟨#[97, 98, 99]⟩ ⟨#[98]⟩ = true := by decide +kernel
theorem spells_any (w : World) : Calls Tryd.prog 13 #[] w fun e w' => e = .returned (.bool true) ∧ Below w.heap.size w w' := by
  go_enter Tryd.func13, Tryd.ntmps13
  go_wp2_with fail
  refine (str_any _ _).mono ?_
  rintro e w1 ⟨rfl, hb1⟩
  go_wp2_with fail
  refine (str_any _ _).mono ?_
  rintro e w2 ⟨rfl, hb2⟩
  have h := icont ⟨#[97, 98, 99]⟩ ⟨#[98]⟩ (by decide) (by decide) w2
  rw [abc_b] at h
  have H := Lib.hid h
  clear h
  go_wp2_with fail
  refine H.out.mono ?_
  rintro e w3 ⟨rfl, hb3⟩
  have hz1 := hb1.size
  have hz2 := hb2.size
  have hz3 := hb3.size
  have HB := Lib.hid (((hb1.trans (hb2.mono (by omega))).trans (hb3.mono (by omega))).alloc (show w.heap.size ≤ w3.heap.size by omega) (.cells #[.string (V.bool true).K, .int .i64 (V.bool true).N, .int .u64 (V.bool true).U, .float .f64 (V.bool true).F, .string (V.bool true).S] 25))
  clear hb1 hb2 hb3
  go_wp2_with fail
  refine (isTrue_any true _).mono ?_
  rintro e w4 ⟨rfl, hb4⟩
  have HB4 := Lib.hid (HB.out.trans (hb4.mono HB.out.size))
  clear hb4
  go_wp2
  go_ret
  exact ⟨rfl, HB4.out⟩
end Go.Proofs.YtpkgngpmnapdoaaDoor
