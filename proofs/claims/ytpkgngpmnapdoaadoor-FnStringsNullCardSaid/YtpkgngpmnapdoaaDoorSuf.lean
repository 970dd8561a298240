/- suf of a text and NULL. -/
import Derived.Deep.RegionWith
import Derived.Test.YtpkgngpmnapdoaaDoorTa
import Derived.Test.YtpkgngpmnapdoaaDoorCell
namespace Go.Proofs.YtpkgngpmnapdoaaDoor
open Go.RowKit
set_option linter.unusedVariables false
set_option linter.unusedSimpArgs false
set_option maxRecDepth 100000
attribute [local go_sem] store_flt
attribute [local go_sem] ta4 tn4 ta74 tn74 ta75 tn75 ta21 tn21 ta2 tn2 ta5 tn5 ta76 tn76 ta77 tn77 ta22 tn22 ta3 tn3 ta30 tn30 ta68 tn68 ta23 tn23 ta9 tn9 ta78 tn78 ta88 tn88 ta90 tn90 ta91 tn91 ta93 tn93 ta82 tn82
theorem bsufL (s : ByteArray) (b : Nat) (w : World) (c0 : w.cell? ⟨b, 0, none⟩ = some (.nilIface)) (c1 : w.cell? ⟨b, 1, none⟩ = some (.iface 9 (.string s))) : Calls Tryd.prog 66 #[.slice (some ⟨b, 0, none⟩) 2 2, .map none] w fun e w' => e = .returned (.tuple #[.nilIface, .nilIface]) ∧ w' = w := by
  go_enter Tryd.func66, Tryd.ntmps66
  go_wp2
  go_returns
  exact ⟨rfl, rfl⟩
theorem zsufL (s : ByteArray) (b : Nat) (w : World) (c0 : w.cell? ⟨b, 0, none⟩ = some (.nilIface)) (c1 : w.cell? ⟨b, 1, none⟩ = some (.iface 9 (.string s))) : Calls Tryd.prog 45 #[.slice (some ⟨b, 0, none⟩) 2 2] w fun e w' => e = .returned (.tuple #[.nilIface, .nilIface]) ∧ w' = w := by
  have H := Lib.hid (bsufL s b w c0 c1)
  clear c0 c1
  go_enter Tryd.func45, Tryd.ntmps45
  go_wp2_with (go_at_call 66; refine H.out.mono ?_; rintro e w' ⟨rfl, rfl⟩)
  go_returns
  exact ⟨rfl, rfl⟩
set_option maxHeartbeats 2000000 in
theorem isufL (s : ByteArray) (w : World) : Calls Tryd.prog 24 #[.agg #[.string ⟨#[]⟩, .int .i64 0, .int .u64 0, .float .f64 0, .string ⟨#[]⟩], .agg #[.string ⟨#[115, 116, 114, 105, 110, 103]⟩, .int .i64 0, .int .u64 0, .float .f64 0, .string s]] w (ToldPost V.null w) := by
  go_enter Tryd.func24, Tryd.ntmps24
  go_wp2_with fail
  go_region_with (first | (go_at_call 29; (with_reducible refine (in_nil _).mono ?_); rintro e w1 ⟨rfl, hb1⟩; have hz1 := hb1.size; simp at hz1; obtain ⟨hc1, hf1⟩ := bcell hb1; have q1a : w.heap.size < w1.heap.size := (by omega); have q1b : w.heap.size + 1 < w1.heap.size := (by omega); have q1c : w.heap.size + 1 + 1 < w1.heap.size := (by omega)) | (go_at_call 29; (with_reducible refine (in_str s _).mono ?_); rintro e w2 ⟨rfl, hb2⟩; have hz2 := hb2.size; obtain ⟨hc2, hf2⟩ := bcell hb2; have q2a : w.heap.size < w2.heap.size := (by omega); have q2b : w.heap.size + 1 < w2.heap.size := (by omega); have q2c : w.heap.size + 1 + 1 < w2.heap.size := (by omega)) | (go_at_call 45; refine (zsufL s _ _ (new_cell _ _ _ _) (new_cell _ _ _ _)).mono ?_; rintro e w3 ⟨rfl, rfl⟩) | (go_at_call 33; refine (told_null _).mono ?_; rintro e w4 ⟨rfl, hb4⟩; have hz4 := hb4.size; simp at hz4; obtain ⟨hc4, hf4⟩ := bcell hb4; have q4a : w.heap.size < w4.heap.size := (by omega); have q4b : w.heap.size + 1 < w4.heap.size := (by omega); have q4c : w.heap.size + 1 + 1 < w4.heap.size := (by omega); have q4d : w2.heap.size < w4.heap.size := (by omega)))
  all_goals go_wp2
  all_goals exact bodyPost_ret (v := .tuple #[.agg #[.string V.null.K, .int .i64 V.null.N, .int .u64 V.null.U, .float .f64 V.null.F, .string V.null.S], .int .i64 0]) (by simp [results, Tryd.results24, go_sem, hc1, hc2, hc4, q1a, q1b, q1c, q2a, q2b, q2c, q4a, q4b, q4c, q4d]) rfl ⟨rfl, (((((((((((((Below.refl _ _).alloc (by first | omega | (simp; done) | (simp; omega)) _).alloc (by first | omega | (simp; done) | (simp; omega)) _).alloc (by first | omega | (simp; done) | (simp; omega)) _).drew).trans (hb1.mono (by first | omega | (simp; done) | (simp; omega)))).trans (hb2.mono (by first | omega | (simp; done) | (simp; omega)))).alloc (by first | omega | (simp; done) | (simp; omega)) _).trans (hb4.mono (by first | omega | (simp; done) | (simp; omega)))).setCell (by first | omega | (simp; done) | (simp; omega)) _).setCell (by first | omega | (simp; done) | (simp; omega)) _).setCell (by first | omega | (simp; done) | (simp; omega)) _).setCell (by first | omega | (simp; done) | (simp; omega)) _).setCell (by first | omega | (simp; done) | (simp; omega)) _⟩
theorem bsufR (s : ByteArray) (b : Nat) (w : World) (c0 : w.cell? ⟨b, 0, none⟩ = some (.iface 9 (.string s))) (c1 : w.cell? ⟨b, 1, none⟩ = some (.nilIface)) : Calls Tryd.prog 66 #[.slice (some ⟨b, 0, none⟩) 2 2, .map none] w fun e w' => e = .returned (.tuple #[.nilIface, .nilIface]) ∧ w' = w := by
  go_enter Tryd.func66, Tryd.ntmps66
  go_wp2
  go_returns
  exact ⟨rfl, rfl⟩
theorem zsufR (s : ByteArray) (b : Nat) (w : World) (c0 : w.cell? ⟨b, 0, none⟩ = some (.iface 9 (.string s))) (c1 : w.cell? ⟨b, 1, none⟩ = some (.nilIface)) : Calls Tryd.prog 45 #[.slice (some ⟨b, 0, none⟩) 2 2] w fun e w' => e = .returned (.tuple #[.nilIface, .nilIface]) ∧ w' = w := by
  have H := Lib.hid (bsufR s b w c0 c1)
  clear c0 c1
  go_enter Tryd.func45, Tryd.ntmps45
  go_wp2_with (go_at_call 66; refine H.out.mono ?_; rintro e w' ⟨rfl, rfl⟩)
  go_returns
  exact ⟨rfl, rfl⟩
set_option maxHeartbeats 2000000 in
theorem isufR (s : ByteArray) (w : World) : Calls Tryd.prog 24 #[.agg #[.string ⟨#[115, 116, 114, 105, 110, 103]⟩, .int .i64 0, .int .u64 0, .float .f64 0, .string s], .agg #[.string ⟨#[]⟩, .int .i64 0, .int .u64 0, .float .f64 0, .string ⟨#[]⟩]] w (ToldPost V.null w) := by
  go_enter Tryd.func24, Tryd.ntmps24
  go_wp2_with fail
  go_region_with (first | (go_at_call 29; (with_reducible refine (in_str s _).mono ?_); rintro e w1 ⟨rfl, hb1⟩; have hz1 := hb1.size; simp at hz1; obtain ⟨hc1, hf1⟩ := bcell hb1; have q1a : w.heap.size < w1.heap.size := (by omega); have q1b : w.heap.size + 1 < w1.heap.size := (by omega); have q1c : w.heap.size + 1 + 1 < w1.heap.size := (by omega)) | (go_at_call 29; (with_reducible refine (in_nil _).mono ?_); rintro e w2 ⟨rfl, hb2⟩; have hz2 := hb2.size; obtain ⟨hc2, hf2⟩ := bcell hb2; have q2a : w.heap.size < w2.heap.size := (by omega); have q2b : w.heap.size + 1 < w2.heap.size := (by omega); have q2c : w.heap.size + 1 + 1 < w2.heap.size := (by omega)) | (go_at_call 45; refine (zsufR s _ _ (new_cell _ _ _ _) (new_cell _ _ _ _)).mono ?_; rintro e w3 ⟨rfl, rfl⟩) | (go_at_call 33; refine (told_null _).mono ?_; rintro e w4 ⟨rfl, hb4⟩; have hz4 := hb4.size; simp at hz4; obtain ⟨hc4, hf4⟩ := bcell hb4; have q4a : w.heap.size < w4.heap.size := (by omega); have q4b : w.heap.size + 1 < w4.heap.size := (by omega); have q4c : w.heap.size + 1 + 1 < w4.heap.size := (by omega); have q4d : w2.heap.size < w4.heap.size := (by omega)))
  all_goals go_wp2
  all_goals exact bodyPost_ret (v := .tuple #[.agg #[.string V.null.K, .int .i64 V.null.N, .int .u64 V.null.U, .float .f64 V.null.F, .string V.null.S], .int .i64 0]) (by simp [results, Tryd.results24, go_sem, hc1, hc2, hc4, q1a, q1b, q1c, q2a, q2b, q2c, q4a, q4b, q4c, q4d]) rfl ⟨rfl, (((((((((((((Below.refl _ _).alloc (by first | omega | (simp; done) | (simp; omega)) _).alloc (by first | omega | (simp; done) | (simp; omega)) _).alloc (by first | omega | (simp; done) | (simp; omega)) _).drew).trans (hb1.mono (by first | omega | (simp; done) | (simp; omega)))).trans (hb2.mono (by first | omega | (simp; done) | (simp; omega)))).alloc (by first | omega | (simp; done) | (simp; omega)) _).trans (hb4.mono (by first | omega | (simp; done) | (simp; omega)))).setCell (by first | omega | (simp; done) | (simp; omega)) _).setCell (by first | omega | (simp; done) | (simp; omega)) _).setCell (by first | omega | (simp; done) | (simp; omega)) _).setCell (by first | omega | (simp; done) | (simp; omega)) _).setCell (by first | omega | (simp; done) | (simp; omega)) _⟩
end Go.Proofs.YtpkgngpmnapdoaaDoor
