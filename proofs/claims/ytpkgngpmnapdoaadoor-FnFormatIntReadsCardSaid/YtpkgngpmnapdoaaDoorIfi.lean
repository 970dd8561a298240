/- impl.FormatInt: of every integer, in every base from 2 to 36. -/
import Derived.Deep.RegionWith
import Derived.Defers
import Derived.Recover
import Derived.Test.YtpkgngpmnapdoaaDoorBfi
import Derived.Test.YtpkgngpmnapdoaaDoorCell
namespace Go.Proofs.YtpkgngpmnapdoaaDoor
open Go.RowKit
set_option linter.unusedVariables false
set_option linter.unusedSimpArgs false
set_option maxRecDepth 100000
attribute [local go_sem] store_flt
attribute [local go_sem] ta4 tn4 ta74 tn74 ta75 tn75 ta21 tn21 ta2 tn2 ta5 tn5 ta76 tn76 ta77 tn77 ta22 tn22 ta3 tn3 ta30 tn30 ta68 tn68 ta23 tn23 ta9 tn9 ta78 tn78 ta88 tn88 ta90 tn90 ta91 tn91 ta93 tn93 ta82 tn82

/-- A way out by a panic is none. -/
def NoPanic (Q : Exit → Act → World → Prop) : Exit → Act → World → Prop
  | .panic _, _, _ => False
  | e, a, w => Q e a w
theorem wp_no_panic {P : Program} {c : Code} {Q : Exit → Act → World → Prop} {a : Act} {w : World} (h : c.wp P (NoPanic Q) a w) : c.wp P Q a w :=
  wp_mono h (fun e a w h => by cases e <;> first | exact h | exact h.elim)
theorem fault_idle (p : Addr) (w : World) : CallsD Tryd.prog 46 #[.pointer (some p)] .returning w fun e u' w' => e = .returned (.tuple #[]) ∧ u' = .returning ∧ w' = w := by
  refine callsD_of_wpS Tryd.func46 rfl fun c₀ cs hu => ?_
  apply wpS_seq
  apply wpS_region
  simp [wpOpsS, go_sem, recoverD, hu, Tryd.ntmps46, Exit.thenS]
  refine wpS_cond (t := false) (by simp [Act.eval, Array.replicate]) ?_
  simp only [Bool.false_eq_true, if_false]
  refine wpS_of_wp (wp_skip ?_)
  cases c₀
  simp_all [bodyPostS, results, Tryd.results46]
theorem box_int {k : IntKind} {n : Int} {w : World} {x : Value} (h : (V.int k n).box w x) : ∃ T, x = .iface T (.int k n) := by cases k <;> exact ⟨_, h⟩
theorem in_i64 (b : Nat) (hb : b ≤ 36) (w : World) : Calls Tryd.prog 29 #[.agg #[.string ⟨#[105, 110, 116, 54, 52]⟩, .int .i64 (b : Int), .int .u64 0, .float .f64 0, .string ⟨#[]⟩]] w (InX (.iface 2 (.int .i64 (b : Int))) w) :=
  (in_int64 (b : Int) (by omega) (by omega) w).mono fun e w' h => by
    obtain ⟨x, rfl, hx, hb⟩ := h
    obtain rfl : x = .iface 2 (.int .i64 (b : Int)) := hx
    exact ⟨rfl, hb⟩
theorem told_txt (s : ByteArray) (w : World) : Calls Tryd.prog 33 #[.iface 9 (.string s), .nilIface] w (ToldPost (.str s) w) := told_out _ _ (out_string s) w
set_option maxHeartbeats 4000000 in
theorem ifi_any (b : Nat) (hb2 : 2 ≤ b) (hb36 : b ≤ 36) (k : IntKind) (n : Int) (hv : (V.int k n).ok) (w : World) (hT : FmtW w) : Calls Tryd.prog 26 #[.agg #[.string (V.int k n).K, .int .i64 (V.int k n).N, .int .u64 (V.int k n).U, .float .f64 (V.int k n).F, .string (V.int k n).S], .agg #[.string ⟨#[105, 110, 116, 54, 52]⟩, .int .i64 (b : Int), .int .u64 0, .float .f64 0, .string ⟨#[]⟩]] w (ToldPost (.str (txt b n)) w) := by
  have HV := Lib.hid hv
  have HT := Lib.hid hT
  have HI := Lib.hid (in_i64 b hb36)
  have HZ := Lib.hid (zfi_any b hb2 hb36 k n hv)
  clear hv hT hb2 hb36
  go_enter_defers Tryd.func26, Tryd.ntmps26
  refine wp_no_panic ?_
  go_wp2_with fail
  go_region_with (first | (go_at_call 29; (with_reducible refine (in_any (.int k n) HV.out _).mono ?_); rintro e w1 ⟨x, rfl, hx, hb1⟩; have HX := Lib.hid hx; obtain ⟨T, rfl⟩ := box_int hx; clear hx; have hz1 := hb1.size; simp at hz1; obtain ⟨hc1, hf1⟩ := bcell hb1; have q1a : w.heap.size < w1.heap.size := (by omega); have q1b : w.heap.size + 1 < w1.heap.size := (by omega); have q1c : w.heap.size + 1 + 1 < w1.heap.size := (by omega); have q1d : w.heap.size + 1 + 1 + 1 < w1.heap.size := (by omega)) | (go_at_call 29; (with_reducible refine (HI.out _).mono ?_); rintro e w2 ⟨rfl, hb2⟩; have hz2 := hb2.size; obtain ⟨hc2, hf2⟩ := bcell hb2; have q2a : w.heap.size < w2.heap.size := (by omega); have q2b : w.heap.size + 1 < w2.heap.size := (by omega); have q2c : w.heap.size + 1 + 1 < w2.heap.size := (by omega); have q2d : w.heap.size + 1 + 1 + 1 < w2.heap.size := (by omega)) | (go_at_call 47; refine (HZ.out _ _ HX.out _ _ (HT.out.below (((((((((Below.refl _ _).alloc (by first | omega | (simp; done) | (simp; omega)) _).alloc (by first | omega | (simp; done) | (simp; omega)) _).alloc (by first | omega | (simp; done) | (simp; omega)) _).alloc (by first | omega | (simp; done) | (simp; omega)) _).drew).trans (hb1.mono (by first | omega | (simp; done) | (simp; omega)))).trans (hb2.mono (by first | omega | (simp; done) | (simp; omega)))).alloc (by first | omega | (simp; done) | (simp; omega)) _)) (new_cell _ _ _ _) (new_cell _ _ _ _)).mono ?_; rintro e w3 ⟨rfl, hb3⟩; have hz3 := hb3.size; (try simp at hz3); obtain ⟨hc3, hf3⟩ := bcell hb3; have q3a : w.heap.size < w3.heap.size := (by omega); have q3b : w.heap.size + 1 < w3.heap.size := (by omega); have q3c : w.heap.size + 1 + 1 < w3.heap.size := (by omega); have q3d : w.heap.size + 1 + 1 + 1 < w3.heap.size := (by omega)) | (go_at_call 33; refine (told_txt _ _).mono ?_; rintro e w4 ⟨rfl, hb4⟩; have hz4 := hb4.size; (try simp at hz4); obtain ⟨hc4, hf4⟩ := bcell hb4; have q4a : w.heap.size < w4.heap.size := (by omega); have q4b : w.heap.size + 1 < w4.heap.size := (by omega); have q4c : w.heap.size + 1 + 1 < w4.heap.size := (by omega); have q4d : w.heap.size + 1 + 1 + 1 < w4.heap.size := (by omega)))
  all_goals go_wp2
  all_goals (refine leaves_cons (f := 46) (args := #[.pointer (some ⟨w.heap.size + 1 + 1 + 1, 0, none⟩)]) (by simp) (by simp [go_sem]) ?_)
  all_goals (refine (fault_idle _ _).mono ?_)
  all_goals (rintro e u' w'' ⟨rfl, rfl, rfl⟩)
  all_goals (simp [Leaves, settle, results, Tryd.results26, go_sem, hc1, hc2, hc3, hc4, q1a, q1b, q1c, q1d, q2a, q2b, q2c, q2d, q3a, q3b, q3c, q3d, q4a, q4b, q4c, q4d])
  all_goals exact ⟨rfl, ((((((((((((((((Below.refl _ _).alloc (by first | omega | (simp; done) | (simp; omega)) _).alloc (by first | omega | (simp; done) | (simp; omega)) _).alloc (by first | omega | (simp; done) | (simp; omega)) _).alloc (by first | omega | (simp; done) | (simp; omega)) _).drew).trans (hb1.mono (by first | omega | (simp; done) | (simp; omega)))).trans (hb2.mono (by first | omega | (simp; done) | (simp; omega)))).alloc (by first | omega | (simp; done) | (simp; omega)) _).trans (hb3.mono (by first | omega | (simp; done) | (simp; omega)))).trans (hb4.mono (by first | omega | (simp; done) | (simp; omega)))).setCell (by first | omega | (simp; done) | (simp; omega)) _).setCell (by first | omega | (simp; done) | (simp; omega)) _).setCell (by first | omega | (simp; done) | (simp; omega)) _).setCell (by first | omega | (simp; done) | (simp; omega)) _).setCell (by first | omega | (simp; done) | (simp; omega)) _).setCell (by first | omega | (simp; done) | (simp; omega)) _⟩
end Go.Proofs.YtpkgngpmnapdoaaDoor
