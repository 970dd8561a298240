/- told; impl.TypeCheck of every value in a column of every type; kinds; checks. -/
import Derived.Test.YtdhnhgcdajlpjaaDoorOutAny
import Derived.Test.YtdhnhgcdajlpjaaDoorSame
import Derived.Test.YtdhnhgcdajlpjaaDoorTcAll
namespace Go.Proofs.YtdhnhgcdajlpjaaDoor
open Go.RowKit
set_option linter.unusedVariables false
set_option linter.unusedSimpArgs false
set_option maxRecDepth 100000
attribute [local go_sem] store_flt
theorem own_cells {w wi : World} {A : Array Value} {t : TypeId} (h : Below (w.alloc (.cells A t)).heap.size (w.alloc (.cells A t)) wi) : ∀ j, wi.cell? ⟨w.heap.size, j, none⟩ = A[j]? := by
  intro j
  rw [h.cell (p := ⟨w.heap.size, j, none⟩) (by simp)]
  have e : (w.alloc (.cells A t)).heap[w.heap.size]? = some (.cells A t (0, 0)) := by
    show (w.heap.push _)[w.heap.size]? = _
    simp
  rw [cell_of_row _ _ j _ _ _ e]
theorem zt_bool (w : World) : Calls Tryd.prog 17 #[.string ⟨#[98, 111, 111, 108]⟩] w fun e w' => e = .returned (.int .i64 98) ∧ w' = w := by
  go_enter Tryd.func17, Tryd.ntmps17
  go_wp2
  go_ret
  exact ⟨rfl, rfl⟩
theorem zt_int8 (w : World) : Calls Tryd.prog 17 #[.string ⟨#[105, 110, 116, 56]⟩] w fun e w' => e = .returned (.int .i64 105) ∧ w' = w := by
  go_enter Tryd.func17, Tryd.ntmps17
  go_wp2
  go_ret
  exact ⟨rfl, rfl⟩
theorem zt_int16 (w : World) : Calls Tryd.prog 17 #[.string ⟨#[105, 110, 116, 49, 54]⟩] w fun e w' => e = .returned (.int .i64 106) ∧ w' = w := by
  go_enter Tryd.func17, Tryd.ntmps17
  go_wp2
  go_ret
  exact ⟨rfl, rfl⟩
theorem zt_int32 (w : World) : Calls Tryd.prog 17 #[.string ⟨#[105, 110, 116, 51, 50]⟩] w fun e w' => e = .returned (.int .i64 107) ∧ w' = w := by
  go_enter Tryd.func17, Tryd.ntmps17
  go_wp2
  go_ret
  exact ⟨rfl, rfl⟩
theorem zt_int64 (w : World) : Calls Tryd.prog 17 #[.string ⟨#[105, 110, 116, 54, 52]⟩] w fun e w' => e = .returned (.int .i64 108) ∧ w' = w := by
  go_enter Tryd.func17, Tryd.ntmps17
  go_wp2
  go_ret
  exact ⟨rfl, rfl⟩
theorem zt_uint8 (w : World) : Calls Tryd.prog 17 #[.string ⟨#[117, 105, 110, 116, 56]⟩] w fun e w' => e = .returned (.int .i64 117) ∧ w' = w := by
  go_enter Tryd.func17, Tryd.ntmps17
  go_wp2
  go_ret
  exact ⟨rfl, rfl⟩
theorem zt_uint16 (w : World) : Calls Tryd.prog 17 #[.string ⟨#[117, 105, 110, 116, 49, 54]⟩] w fun e w' => e = .returned (.int .i64 118) ∧ w' = w := by
  go_enter Tryd.func17, Tryd.ntmps17
  go_wp2
  go_ret
  exact ⟨rfl, rfl⟩
theorem zt_uint32 (w : World) : Calls Tryd.prog 17 #[.string ⟨#[117, 105, 110, 116, 51, 50]⟩] w fun e w' => e = .returned (.int .i64 119) ∧ w' = w := by
  go_enter Tryd.func17, Tryd.ntmps17
  go_wp2
  go_ret
  exact ⟨rfl, rfl⟩
theorem zt_uint64 (w : World) : Calls Tryd.prog 17 #[.string ⟨#[117, 105, 110, 116, 54, 52]⟩] w fun e w' => e = .returned (.int .i64 120) ∧ w' = w := by
  go_enter Tryd.func17, Tryd.ntmps17
  go_wp2
  go_ret
  exact ⟨rfl, rfl⟩
theorem zt_float32 (w : World) : Calls Tryd.prog 17 #[.string ⟨#[102, 108, 111, 97, 116, 51, 50]⟩] w fun e w' => e = .returned (.int .i64 102) ∧ w' = w := by
  go_enter Tryd.func17, Tryd.ntmps17
  go_wp2
  go_ret
  exact ⟨rfl, rfl⟩
theorem zt_float64 (w : World) : Calls Tryd.prog 17 #[.string ⟨#[102, 108, 111, 97, 116, 54, 52]⟩] w fun e w' => e = .returned (.int .i64 103) ∧ w' = w := by
  go_enter Tryd.func17, Tryd.ntmps17
  go_wp2
  go_ret
  exact ⟨rfl, rfl⟩
theorem zt_string (w : World) : Calls Tryd.prog 17 #[.string ⟨#[115, 116, 114, 105, 110, 103]⟩] w fun e w' => e = .returned (.int .i64 115) ∧ w' = w := by
  go_enter Tryd.func17, Tryd.ntmps17
  go_wp2
  go_ret
  exact ⟨rfl, rfl⟩
theorem zt_blob (w : World) : Calls Tryd.prog 17 #[.string ⟨#[98, 108, 111, 98]⟩] w fun e w' => e = .returned (.int .i64 66) ∧ w' = w := by
  go_enter Tryd.func17, Tryd.ntmps17
  go_wp2
  go_ret
  exact ⟨rfl, rfl⟩
theorem zt_any (T : Ty) (w : World) : Calls Tryd.prog 17 #[.string T.name] w fun e w' => e = .returned (.int .i64 T.code) ∧ w' = w := by
  rcases T with _ | k | k | _ | _
  · exact zt_bool w
  · cases k
    · exact zt_int8 w
    · exact zt_int16 w
    · exact zt_int32 w
    · exact zt_int64 w
    · exact zt_uint8 w
    · exact zt_uint16 w
    · exact zt_uint32 w
    · exact zt_uint64 w
  · cases k
    · exact zt_float32 w
    · exact zt_float64 w
  · exact zt_string w
  · exact zt_blob w
def ToldAny (u : V) (w : World) (e : Ending) (w' : World) : Prop := ∃ u' : V, u.Like u' ∧ e = .returned (.tuple #[.agg #[.string u'.K, .int .i64 u'.N, .int .u64 u'.U, .float .f64 u'.F, .string u'.S], .int .i64 0]) ∧ Below w.heap.size w w'
theorem told_any (u : V) (hu : u.ok) (x : Value) (w : World) (hx : u.box w x) : Calls Tryd.prog 18 #[x, .nilIface] w (ToldAny u w) := by
  have HU := Lib.hid hu
  have HX := Lib.hid (V.box_below hx ((Below.refl w.heap.size w).alloc (Nat.le_refl _) (.cells #[.string ⟨#[]⟩, .int .i64 0, .int .u64 0, .float .f64 0, .string ⟨#[]⟩] 25)))
  clear hu hx
  go_enter Tryd.func18, Tryd.ntmps18
  go_wp2_with fail
  refine (out_any u HU.out x _ HX.out).mono ?_
  rintro e w1 ⟨u', hl, rfl, hb1⟩
  have HL := Lib.hid hl
  have hz := hb1.size
  simp only [World.size_alloc] at hz
  have q0 : w.heap.size < w1.heap.size := by omega
  obtain ⟨hc, hf⟩ := bcell hb1
  clear hl
  go_wp2
  exact bodyPost_ret (v := .tuple #[.agg #[.string u'.K, .int .i64 u'.N, .int .u64 u'.U, .float .f64 u'.F, .string u'.S], .int .i64 0]) (by simp [results, Tryd.results18, go_sem, hc, q0]) rfl
    ⟨u', HL.out, rfl, ((((((((Below.refl _ _).alloc (Nat.le_refl _) _).trans (hb1.mono (by simp))).setCell (by simp) _).setCell (by simp) _).setCell (by simp) _).setCell (by simp) _).setCell (by simp) _)⟩
def ToldErr (w : World) (e : Ending) (w' : World) : Prop := ∃ c : Int, e = .returned (.tuple #[.agg #[.string ⟨#[]⟩, .int .i64 0, .int .u64 0, .float .f64 0, .string ⟨#[]⟩], .int .i64 c]) ∧ (c == 0) = false ∧ Below w.heap.size w w'
theorem told_err (x y : Value) (w : World) (hE : ErrW w) (hy : IsErr w y) : Calls Tryd.prog 18 #[x, y] w (ToldErr w) := by
  have B0 : Below w.heap.size w (w.alloc (.cells #[.string ⟨#[]⟩, .int .i64 0, .int .u64 0, .float .f64 0, .string ⟨#[]⟩] 25)) := (Below.refl _ _).alloc (Nat.le_refl _) _
  have HE := Lib.hid (hE.below B0)
  have HY := Lib.hid (hy.below B0)
  obtain ⟨yb, yc, yt, rfl, _⟩ := hy
  clear hE B0
  go_enter Tryd.func18, Tryd.ntmps18
  go_wp2_with fail
  refine (zzErr_any _ _ HE.out HY.out).mono ?_
  rintro e w3 ⟨c, rfl, hc0, rfl⟩
  go_wp2
  exact bodyPost_ret (v := .tuple #[.agg #[.string ⟨#[]⟩, .int .i64 0, .int .u64 0, .float .f64 0, .string ⟨#[]⟩], .int .i64 c]) (by simp [results, Tryd.results18, go_sem]) rfl
    ⟨c, rfl, hc0, by repeat (first | exact Below.refl _ _ | refine Below.alloc ?_ (by simp) _ | refine Below.setCell ?_ (by simp) _)⟩
/-- What impl.TypeCheck answers. -/
def ChRes (v : V) (T : Ty) (K : ByteArray) (N U : Int) (F : Nat) (Sx : ByteArray) (c : Int) : Prop :=
  (∃ u' : V, u'.ok ∧ ¬ v.bad T ∧ ((v.isOf T = true ∧ v.Like u') ∨ (v.ideal = true ∧ u'.K = T.name)) ∧ K = u'.K ∧ N = u'.N ∧ U = u'.U ∧ F = u'.F ∧ Sx = u'.S ∧ c = 0) ∨ (v.isOf T = false ∧ (c == 0) = false)
def ChAll (v : V) (T : Ty) (w : World) (e : Ending) (w' : World) : Prop :=
  ∃ (K : ByteArray) (N U : Int) (F : Nat) (Sx : ByteArray) (c : Int), e = .returned (.tuple #[.agg #[.string K, .int .i64 N, .int .u64 U, .float .f64 F, .string Sx], .int .i64 c]) ∧ ChRes v T K N U F Sx c ∧ Below w.heap.size w w'
theorem ch_all {v : V} {T : Ty} {w w' : World} {e : Ending} {K : ByteArray} {N U : Int} {F : Nat} {Sx : ByteArray} {c : Int} (hb : Below w.heap.size w w') (h : ChRes v T K N U F Sx c) (he : e = .returned (.tuple #[.agg #[.string K, .int .i64 N, .int .u64 U, .float .f64 F, .string Sx], .int .i64 c])) : ChAll v T w e w' := ⟨K, N, U, F, Sx, c, he, h, hb⟩
theorem takes_like {v u u' : V} {T : Ty} (h : Takes v T u) (hl : u.Like u') : u'.ok ∧ ¬ v.bad T ∧ ((v.isOf T = true ∧ v.Like u') ∨ (v.ideal = true ∧ u'.K = T.name)) := by
  obtain ⟨hu, hc, hb⟩ := h
  refine ⟨hl.ok, hb, ?_⟩
  rcases hc with ⟨hi, rfl⟩ | ⟨hd, hk⟩
  · exact .inl ⟨hi, hl⟩
  · exact .inr ⟨hd, hl.K.trans hk⟩
set_option maxHeartbeats 2000000 in
theorem check_any (v : V) (hv : v.ok) (T : Ty) (w : World) (hE : ErrW w) : Calls Tryd.prog 9 #[.agg #[.string v.K, .int .i64 v.N, .int .u64 v.U, .float .f64 v.F, .string v.S], .string T.name] w (ChAll v T w) := by
  have HV := Lib.hid hv
  have hcp := code_pos T
  clear hv
  have B0 : Below w.heap.size w ((w.alloc (.cells #[.string v.K, .int .i64 v.N, .int .u64 v.U, .float .f64 v.F, .string v.S] 25)).alloc (.cells #[.string ⟨#[]⟩, .int .i64 0, .int .u64 0, .float .f64 0, .string ⟨#[]⟩] 25)) := ((Below.refl _ _).alloc (Nat.le_refl _) _).alloc (by simp) _
  have HE := Lib.hid (hE.below B0)
  have HB0 := Lib.hid B0
  clear hE B0
  go_enter Tryd.func9, Tryd.ntmps9
  go_wp2_with fail
  refine (zt_any T _).mono ?_
  rintro e w0 ⟨rfl, hw0⟩
  subst hw0
  go_wp2_with fail
  refine (in_any v HV.out _).mono ?_
  rintro e w1 ⟨x, rfl, hx, hb1⟩
  have HX := Lib.hid hx
  have HB1 := Lib.hid (HB0.out.trans (hb1.mono HB0.out.size))
  have HE1 := Lib.hid (HE.out.below hb1)
  have z1 := hb1.size
  simp at z1
  obtain ⟨hc1, hf1⟩ := bcell hb1
  have q1a : w.heap.size < w1.heap.size := by omega
  have q1b : w.heap.size + 1 < w1.heap.size := by omega
  clear hx HB0 HE
  go_wp2_with fail
  refine (zt_any T _).mono ?_
  rintro e w1' ⟨rfl, hw1⟩
  subst hw1
  go_wp2_with fail
  refine (zc_any v HV.out T x _ HX.out).mono ?_
  rintro e w2 ⟨x', y, rfl, hb2, hres⟩
  have HB2 := Lib.hid (HB1.out.trans (hb2.mono HB1.out.size))
  have HE2 := Lib.hid (HE1.out.below hb2)
  have z2 := hb2.size
  obtain ⟨hc2, hf2⟩ := bcell hb2
  have q2a : w.heap.size < w2.heap.size := by omega
  have q2b : w.heap.size + 1 < w2.heap.size := by omega
  clear HB1 HE1
  rcases hres with ⟨rfl, u, hu, hbox⟩ | ⟨hno, hy⟩
  · have HU := Lib.hid hu
    have HBX := Lib.hid hbox
    clear hu hbox
    go_wp2_with fail
    refine (told_any u HU.out.1 x' _ HBX.out).mono ?_
    rintro e w3 ⟨u', hl, rfl, hb3⟩
    have HTL := Lib.hid (takes_like HU.out hl)
    have HB3 := Lib.hid (HB2.out.trans (hb3.mono HB2.out.size))
    have z3 := hb3.size
    obtain ⟨hc3, hf3⟩ := bcell hb3
    have q3a : w.heap.size < w3.heap.size := by omega
    have q3b : w.heap.size + 1 < w3.heap.size := by omega
    clear hl HB2 HE2
    go_wp2
    exact bodyPost_ret (v := .tuple #[.agg #[.string u'.K, .int .i64 u'.N, .int .u64 u'.U, .float .f64 u'.F, .string u'.S], .int .i64 0]) (by simp [results, Tryd.results9, go_sem, hc1, hc2, hc3, q1a, q1b, q2a, q2b, q3a, q3b]) rfl
      (ch_all (by repeat (first | exact HB3.out | refine Below.setCell ?_ (by simp <;> omega) _)) (.inl ⟨u', HTL.out.1, HTL.out.2.1, HTL.out.2.2, rfl, rfl, rfl, rfl, rfl, rfl⟩) rfl)
  · have HN := Lib.hid hno
    have HY := Lib.hid hy
    clear hno hy
    go_wp2_with fail
    refine (told_err x' y _ HE2.out HY.out).mono ?_
    rintro e w3 ⟨c, rfl, hc0, hb3⟩
    have HB3 := Lib.hid (HB2.out.trans (hb3.mono HB2.out.size))
    have z3 := hb3.size
    obtain ⟨hc3, hf3⟩ := bcell hb3
    have q3a : w.heap.size < w3.heap.size := by omega
    have q3b : w.heap.size + 1 < w3.heap.size := by omega
    have HC := Lib.hid hc0
    clear HB2 HE2 hc0
    go_wp2
    exact bodyPost_ret (v := .tuple #[.agg #[.string ⟨#[]⟩, .int .i64 0, .int .u64 0, .float .f64 0, .string ⟨#[]⟩], .int .i64 c]) (by simp [results, Tryd.results9, go_sem, hc1, hc2, hc3, q1a, q1b, q2a, q2b, q3a, q3b]) rfl
      (ch_all (by repeat (first | exact HB3.out | refine Below.setCell ?_ (by simp <;> omega) _)) (.inr ⟨HN.out, HC.out⟩) rfl)
/-- The laws' kinds, laid in a new block. -/
def KindsPost (w : World) (e : Ending) (w' : World) : Prop := e = .returned (.slice (some ⟨w.heap.size, 0, none⟩) 13 13) ∧ (∀ j, j < 13 → w'.cell? ⟨w.heap.size, j, none⟩ = some (.string (tyAt j).name)) ∧ w.heap.size < w'.heap.size ∧ Below w.heap.size w w'
theorem kinds_any (w : World) : Calls Tryd.prog 6 #[] w (KindsPost w) := by
  go_enter Tryd.func6, Tryd.ntmps6
  go_wp2
  go_ret
  refine ⟨rfl, fun j hj => ?_, by simp, (Below.refl _ _).alloc (Nat.le_refl _) _⟩
  rw [own_cells (Below.refl _ _) j]
  match j, hj with
  | 0, _ => rfl
  | 1, _ => rfl
  | 2, _ => rfl
  | 3, _ => rfl
  | 4, _ => rfl
  | 5, _ => rfl
  | 6, _ => rfl
  | 7, _ => rfl
  | 8, _ => rfl
  | 9, _ => rfl
  | 10, _ => rfl
  | 11, _ => rfl
  | 12, _ => rfl
theorem checks_any (w : World) (hE : ErrW w) : Calls Tryd.prog 8 #[] w fun e w' => e = .returned (.bool true) ∧ Below w.heap.size w w' := by
  have H := Lib.hid (check_any (.iInt 300) ⟨by decide, by decide⟩ (.int .i8) w hE)
  clear hE
  go_enter Tryd.func8, Tryd.ntmps8
  go_wp2_with fail
  refine H.out.mono ?_
  rintro e w1 ⟨K, N, U, F, Sx, c, rfl, ⟨u', _, hbad, _⟩ | ⟨_, hc⟩, hb⟩
  · exact absurd ⟨rfl, rfl⟩ hbad
  · have hc' : (c != 0) = true := by simpa using hc
    have HB := Lib.hid hb
    clear hc hb
    go_wp2
    go_ret
    exact ⟨rfl, HB.out.alloc HB.out.size _⟩
end Go.Proofs.YtdhnhgcdajlpjaaDoor
