/- impl.out for every value that is inside; ql.ideal and impl.Ideal. -/
import Derived.Test.YtamlkedkmehfcaaRRRROut
import Derived.Test.YtamlkedkmehfcaaRRRRSmall
namespace Go.Proofs.YtamlkedkmehfcaaRRRR
open Go.RowKit
set_option linter.unusedVariables false
set_option linter.unusedSimpArgs false
attribute [local go_sem] store_flt
attribute [local go_sem] ta4 tn4 ta55 tn55 ta56 tn56 ta21 tn21 ta2 tn2 ta5 tn5 ta57 tn57 ta58 tn58 ta26 tn26 ta3 tn3 ta43 tn43 ta44 tn44 ta27 tn27 ta9 tn9 ta59 tn59 ta67 tn67 ta68 tn68 ta69 tn69 ta66 tn66

/-- The same value, but that a float that is no number may be another such. -/
structure V.Like (v v' : V) : Prop where
  ok : v'.ok
  K : v'.K = v.K
  N : v'.N = v.N
  U : v'.U = v.U
  F : bitsB v'.F = bitsB v.F
  S : v'.S = v.S
theorem V.Like.refl {v : V} (h : v.ok) : v.Like v := ⟨h, rfl, rfl, rfl, rfl, rfl⟩
theorem V.Like.trans {a b c : V} (h : a.Like b) (k : b.Like c) : a.Like c := ⟨k.ok, k.K.trans h.K, k.N.trans h.N, k.U.trans h.U, k.F.trans h.F, k.S.trans h.S⟩
/-- The plain data of a value like v. -/
def OutAny (v : V) (w : World) (e : Ending) (w' : World) : Prop := ∃ v' : V, v.Like v' ∧ e = .returned (.agg #[.string v'.K, .int .i64 v'.N, .int .u64 v'.U, .float .f64 v'.F, .string v'.S]) ∧ Below w.heap.size w w'
theorem out_same {v : V} (hv : v.ok) {w : World} {e : Ending} {w' : World} (h : OutPost v w e w') : OutAny v w e w' := ⟨v, .refl hv, h.1, h.2⟩
theorem bitsNan {f : Nat} (h : nanK .f64 f = true) : bitsB f = 1 := by unfold bitsB; rw [nan64_eq, h]; rfl
theorem out_any (v : V) (hv : v.ok) (x : Value) (w : World) (h : v.box w x) : Calls Try.prog 24 #[x] w (OutAny v w) := by
  rcases v with _ | b | ⟨k, n⟩ | ⟨k, d⟩ | s | s | n | n | n | d
  · subst h; exact (out_null w).mono fun _ _ h => out_same hv h
  · subst h
    cases b
    · exact (out_false w).mono fun _ _ h => out_same hv h
    · exact (out_true w).mono fun _ _ h => out_same hv h
  · cases k
    · subst h; exact (out_int8 n hv.1 hv.2 w).mono fun _ _ h => out_same hv h
    · subst h; exact (out_int16 n hv.1 hv.2 w).mono fun _ _ h => out_same hv h
    · subst h; exact (out_int32 n hv.1 hv.2 w).mono fun _ _ h => out_same hv h
    · subst h; exact (out_int64 n hv.1 hv.2 w).mono fun _ _ h => out_same hv h
    · subst h; exact (out_uint8 n hv.1 hv.2 w).mono fun _ _ h => out_same hv h
    · subst h; exact (out_uint16 n hv.1 hv.2 w).mono fun _ _ h => out_same hv h
    · subst h; exact (out_uint32 n hv.1 hv.2 w).mono fun _ _ h => out_same hv h
    · subst h; exact (out_uint64 n hv.1 hv.2 w).mono fun _ _ h => out_same hv h
  · cases k
    · obtain ⟨r, rfl, ⟨h1, h2, h3⟩ | ⟨h1, h2, h3⟩⟩ := h
      · exact (out_float32_nan d r h2 w).mono fun _ _ h => ⟨.flt .f32 (nanOf .f64 r (w.alloc (.cells #[.string ⟨#[]⟩, .int .i64 0, .int .u64 0, .float .f64 0, .string ⟨#[]⟩] 29))), ⟨Or.inl (nanOf_nan .f64 _ _).1, rfl, rfl, rfl, (bitsNan (nanOf_nan .f64 _ _).1).trans (bitsNan h1).symm, rfl⟩, h.1, h.2⟩
      · exact (out_float32_num d r h3 w).mono fun _ _ h => out_same hv h
    · subst h; exact (out_float64 d w).mono fun _ _ h => out_same hv h
  · subst h; exact (out_string s w).mono fun _ _ h => out_same hv h
  · obtain ⟨b, c, rfl, h1, h2⟩ := h; exact (out_blob s b c w h1 h2).mono fun _ _ h => out_same hv h
  · subst h; exact (out_idealInt n w).mono fun _ _ h => out_same hv h
  · subst h; exact (out_idealRune n hv.1 hv.2 w).mono fun _ _ h => out_same hv h
  · subst h; exact (out_idealUint n w).mono fun _ _ h => out_same hv h
  · subst h; exact (out_idealFloat d w).mono fun _ _ h => out_same hv h

/-- What a literal's value becomes. -/
def V.deal : V → V
  | .iInt n => .int .i64 n
  | .iRune n => .int .i64 n
  | .iUint n => .int .u64 n
  | .iFlt d => .flt .f64 d
  | v => v
theorem V.deal_ok {v : V} (h : v.ok) : v.deal.ok := by
  rcases v with _ | b | ⟨k, n⟩ | ⟨k, d⟩ | s | s | n | n | n | d <;> first | exact h | skip
  · exact ⟨Int.le_trans (by decide) h.1, Int.le_trans h.2 (by decide)⟩
theorem V.deal_fields (v : V) : v.deal.N = v.N ∧ v.deal.U = v.U ∧ v.deal.F = v.F ∧ v.deal.S = v.S := by
  rcases v with _ | b | ⟨k, n⟩ | ⟨k, d⟩ | s | s | n | n | n | d <;> exact ⟨rfl, rfl, rfl, rfl⟩
theorem V.deal_ideal (v : V) : v.deal.ideal = false := by
  rcases v with _ | b | ⟨k, n⟩ | ⟨k, d⟩ | s | s | n | n | n | d <;> rfl
theorem V.deal_stays (v : V) (h : v.ideal = false) : v.deal = v := by
  rcases v with _ | b | ⟨k, n⟩ | ⟨k, d⟩ | s | s | n | n | n | d <;> first | rfl | (cases h)
def IdealPost (v : V) (w : World) (e : Ending) (w' : World) : Prop := ∃ y, e = .returned y ∧ v.deal.box w y ∧ w' = w
set_option maxRecDepth 100000 in
set_option maxHeartbeats 1000000 in
theorem ideal_null (w : World) : Calls Try.prog 35 #[.nilIface] w fun e w' => e = .returned (.nilIface) ∧ w' = w := by
  go_enter Try.func35, Try.ntmps35
  go_wp2
  go_ret
  exact ⟨rfl, rfl⟩
set_option maxRecDepth 100000 in
set_option maxHeartbeats 1000000 in
theorem ideal_bool (b : Bool) (w : World) : Calls Try.prog 35 #[.iface 4 (.bool b)] w fun e w' => e = .returned (.iface 4 (.bool b)) ∧ w' = w := by
  go_enter Try.func35, Try.ntmps35
  go_wp2
  go_ret
  exact ⟨rfl, rfl⟩
set_option maxRecDepth 100000 in
set_option maxHeartbeats 1000000 in
theorem ideal_int8 (n : Int) (w : World) : Calls Try.prog 35 #[.iface 55 (.int .i8 n)] w fun e w' => e = .returned (.iface 55 (.int .i8 n)) ∧ w' = w := by
  go_enter Try.func35, Try.ntmps35
  go_wp2
  go_ret
  exact ⟨rfl, rfl⟩
set_option maxRecDepth 100000 in
set_option maxHeartbeats 1000000 in
theorem ideal_int16 (n : Int) (w : World) : Calls Try.prog 35 #[.iface 56 (.int .i16 n)] w fun e w' => e = .returned (.iface 56 (.int .i16 n)) ∧ w' = w := by
  go_enter Try.func35, Try.ntmps35
  go_wp2
  go_ret
  exact ⟨rfl, rfl⟩
set_option maxRecDepth 100000 in
set_option maxHeartbeats 1000000 in
theorem ideal_int32 (n : Int) (w : World) : Calls Try.prog 35 #[.iface 21 (.int .i32 n)] w fun e w' => e = .returned (.iface 21 (.int .i32 n)) ∧ w' = w := by
  go_enter Try.func35, Try.ntmps35
  go_wp2
  go_ret
  exact ⟨rfl, rfl⟩
set_option maxRecDepth 100000 in
set_option maxHeartbeats 1000000 in
theorem ideal_int64 (n : Int) (w : World) : Calls Try.prog 35 #[.iface 2 (.int .i64 n)] w fun e w' => e = .returned (.iface 2 (.int .i64 n)) ∧ w' = w := by
  go_enter Try.func35, Try.ntmps35
  go_wp2
  go_ret
  exact ⟨rfl, rfl⟩
set_option maxRecDepth 100000 in
set_option maxHeartbeats 1000000 in
theorem ideal_uint8 (n : Int) (w : World) : Calls Try.prog 35 #[.iface 5 (.int .u8 n)] w fun e w' => e = .returned (.iface 5 (.int .u8 n)) ∧ w' = w := by
  go_enter Try.func35, Try.ntmps35
  go_wp2
  go_ret
  exact ⟨rfl, rfl⟩
set_option maxRecDepth 100000 in
set_option maxHeartbeats 1000000 in
theorem ideal_uint16 (n : Int) (w : World) : Calls Try.prog 35 #[.iface 57 (.int .u16 n)] w fun e w' => e = .returned (.iface 57 (.int .u16 n)) ∧ w' = w := by
  go_enter Try.func35, Try.ntmps35
  go_wp2
  go_ret
  exact ⟨rfl, rfl⟩
set_option maxRecDepth 100000 in
set_option maxHeartbeats 1000000 in
theorem ideal_uint32 (n : Int) (w : World) : Calls Try.prog 35 #[.iface 58 (.int .u32 n)] w fun e w' => e = .returned (.iface 58 (.int .u32 n)) ∧ w' = w := by
  go_enter Try.func35, Try.ntmps35
  go_wp2
  go_ret
  exact ⟨rfl, rfl⟩
set_option maxRecDepth 100000 in
set_option maxHeartbeats 1000000 in
theorem ideal_uint64 (n : Int) (w : World) : Calls Try.prog 35 #[.iface 26 (.int .u64 n)] w fun e w' => e = .returned (.iface 26 (.int .u64 n)) ∧ w' = w := by
  go_enter Try.func35, Try.ntmps35
  go_wp2
  go_ret
  exact ⟨rfl, rfl⟩
set_option maxRecDepth 100000 in
set_option maxHeartbeats 1000000 in
theorem ideal_float32 (d : Nat) (w : World) : Calls Try.prog 35 #[.iface 44 (.float .f32 d)] w fun e w' => e = .returned (.iface 44 (.float .f32 d)) ∧ w' = w := by
  go_enter Try.func35, Try.ntmps35
  go_wp2
  go_ret
  exact ⟨rfl, rfl⟩
set_option maxRecDepth 100000 in
set_option maxHeartbeats 1000000 in
theorem ideal_float64 (d : Nat) (w : World) : Calls Try.prog 35 #[.iface 27 (.float .f64 d)] w fun e w' => e = .returned (.iface 27 (.float .f64 d)) ∧ w' = w := by
  go_enter Try.func35, Try.ntmps35
  go_wp2
  go_ret
  exact ⟨rfl, rfl⟩
set_option maxRecDepth 100000 in
set_option maxHeartbeats 1000000 in
theorem ideal_string (s : ByteArray) (w : World) : Calls Try.prog 35 #[.iface 9 (.string s)] w fun e w' => e = .returned (.iface 9 (.string s)) ∧ w' = w := by
  go_enter Try.func35, Try.ntmps35
  go_wp2
  go_ret
  exact ⟨rfl, rfl⟩
set_option maxRecDepth 100000 in
set_option maxHeartbeats 1000000 in
theorem ideal_blob (a : Option Addr) (n c : Nat) (w : World) : Calls Try.prog 35 #[.iface 59 (.slice a n c)] w fun e w' => e = .returned (.iface 59 (.slice a n c)) ∧ w' = w := by
  go_enter Try.func35, Try.ntmps35
  go_wp2
  go_ret
  exact ⟨rfl, rfl⟩
set_option maxRecDepth 100000 in
set_option maxHeartbeats 1000000 in
theorem ideal_idealInt (n : Int) (h1 : -9223372036854775808 ≤ n) (h2 : n ≤ 9223372036854775807) (w : World) : Calls Try.prog 35 #[.iface 67 (.int .i64 n)] w fun e w' => e = .returned (.iface 2 (.int .i64 n)) ∧ w' = w := by
  go_enter Try.func35, Try.ntmps35
  go_wp2
  go_ret
  exact ⟨rfl, rfl⟩
set_option maxRecDepth 100000 in
set_option maxHeartbeats 1000000 in
theorem ideal_idealRune (n : Int) (h1 : -2147483648 ≤ n) (h2 : n ≤ 2147483647) (w : World) : Calls Try.prog 35 #[.iface 68 (.int .i32 n)] w fun e w' => e = .returned (.iface 2 (.int .i64 n)) ∧ w' = w := by
  go_enter Try.func35, Try.ntmps35
  go_wp2
  go_ret
  exact ⟨rfl, rfl⟩
set_option maxRecDepth 100000 in
set_option maxHeartbeats 1000000 in
theorem ideal_idealUint (n : Int) (h1 : 0 ≤ n) (h2 : n ≤ 18446744073709551615) (w : World) : Calls Try.prog 35 #[.iface 69 (.int .u64 n)] w fun e w' => e = .returned (.iface 26 (.int .u64 n)) ∧ w' = w := by
  go_enter Try.func35, Try.ntmps35
  go_wp2
  go_ret
  exact ⟨rfl, rfl⟩
set_option maxRecDepth 100000 in
set_option maxHeartbeats 1000000 in
theorem ideal_idealFloat (d : Nat) (w : World) : Calls Try.prog 35 #[.iface 66 (.float .f64 d)] w fun e w' => e = .returned (.iface 27 (.float .f64 d)) ∧ w' = w := by
  go_enter Try.func35, Try.ntmps35
  go_wp2
  go_ret
  exact ⟨rfl, rfl⟩
theorem ideal_any (v : V) (hv : v.ok) (x : Value) (w : World) (h : v.box w x) : Calls Try.prog 35 #[x] w (IdealPost v w) := by
  have go : ∀ y : Value, v.deal.box w y → Calls Try.prog 35 #[x] w (fun e w' => e = .returned y ∧ w' = w) → Calls Try.prog 35 #[x] w (IdealPost v w) := fun y hy hc => hc.mono fun e w' h => ⟨y, h.1, hy, h.2⟩
  rcases v with _ | b | ⟨k, n⟩ | ⟨k, d⟩ | s | s | n | n | n | d
  · subst h; exact go _ rfl (ideal_null w)
  · subst h; exact go _ rfl (ideal_bool b w)
  · cases k
    · subst h; exact go _ rfl (ideal_int8 n w)
    · subst h; exact go _ rfl (ideal_int16 n w)
    · subst h; exact go _ rfl (ideal_int32 n w)
    · subst h; exact go _ rfl (ideal_int64 n w)
    · subst h; exact go _ rfl (ideal_uint8 n w)
    · subst h; exact go _ rfl (ideal_uint16 n w)
    · subst h; exact go _ rfl (ideal_uint32 n w)
    · subst h; exact go _ rfl (ideal_uint64 n w)
  · cases k
    · obtain ⟨r, rfl, hr⟩ := h; exact go _ ⟨r, rfl, hr⟩ (ideal_float32 r w)
    · subst h; exact go _ rfl (ideal_float64 d w)
  · subst h; exact go _ rfl (ideal_string s w)
  · obtain ⟨b, c, rfl, h1⟩ := h; exact go _ ⟨b, c, rfl, h1⟩ (ideal_blob _ _ _ w)
  · subst h; exact go _ rfl (ideal_idealInt n hv.1 hv.2 w)
  · subst h; exact go _ rfl (ideal_idealRune n hv.1 hv.2 w)
  · subst h; exact go _ rfl (ideal_idealUint n hv.1 hv.2 w)
  · subst h; exact go _ rfl (ideal_idealFloat d w)
theorem zzideal_any (v : V) (hv : v.ok) (x : Value) (w : World) (h : v.box w x) : Calls Try.prog 25 #[x] w (IdealPost v w) := by
  have H := Lib.hid (ideal_any v hv x w h)
  clear h
  go_enter Try.func25, Try.ntmps25
  go_wp2_with (go_at_call 35; refine H.out.mono ?_; rintro e w' ⟨y, rfl, hy, rfl⟩)
  go_ret
  exact ⟨_, rfl, hy, rfl⟩
set_option maxRecDepth 100000 in
set_option maxHeartbeats 1000000 in
theorem Ideal_any (v : V) (hv : v.ok) (w : World) : Calls Try.prog 15 #[.agg #[.string v.K, .int .i64 v.N, .int .u64 v.U, .float .f64 v.F, .string v.S]] w (OutAny v.deal w) := by
  go_enter Try.func15, Try.ntmps15
  go_wp2_with fail
  refine (in_any v hv _).mono ?_
  rintro e w1 ⟨x, rfl, hx, hb⟩
  have HX := Lib.hid hx
  clear hx
  have hz := hb.size
  simp at hz
  obtain ⟨hc, hf⟩ := bcell hb
  go_wp2_with fail
  refine (zzideal_any v hv x _ HX.out).mono ?_
  rintro e w2 ⟨y, rfl, hy, rfl⟩
  have HY := Lib.hid hy
  clear hy
  go_wp2_with fail
  refine (out_any v.deal (V.deal_ok hv) y _ HY.out).mono ?_
  rintro e w3 ⟨v', hl, rfl, hb3⟩
  have HL := Lib.hid hl
  clear hl
  have hz3 := hb3.size
  obtain ⟨hc3, hf3⟩ := bcell hb3
  have q0 : w.heap.size < w2.heap.size := by omega
  have q1 : w.heap.size + 1 < w2.heap.size := by omega
  go_wp2_with fail
  exact bodyPost_ret (v := .agg #[.string v'.K, .int .i64 v'.N, .int .u64 v'.U, .float .f64 v'.F, .string v'.S]) (by simp [results, Try.results15, go_sem, hc, hc3, q0, q1]) rfl
    ⟨v', HL.out, rfl, (((((((((Below.refl _ _).alloc (Nat.le_refl _) _).alloc (by simp) _).trans (hb.mono (by simp; omega))).trans (hb3.mono (by omega))).setCell (by simp) _).setCell (by simp) _).setCell (by simp) _).setCell (by simp) _).setCell (by simp) _⟩
end Go.Proofs.YtamlkedkmehfcaaRRRR
