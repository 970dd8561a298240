/- laws.concrete: where it answers true, there is such a value of a type, and a number. -/
import Derived.Test.YtpkgngpmnapdoaaDoorValid3
import Derived.Test.YtpkgngpmnapdoaaDoorSmall
namespace Go.Proofs.YtpkgngpmnapdoaaDoor
open Go.RowKit
set_option linter.unusedVariables false
set_option linter.unusedSimpArgs false
set_option maxRecDepth 100000
attribute [local go_sem] store_flt
theorem isIdeal_any (v : V) (w : World) : Calls Tryd.prog 53 #[.string v.K] w fun e w' => e = .returned (.bool v.ideal) ∧ w' = w := by
  rcases v with _ | b | ⟨k, n⟩ | ⟨k, d⟩ | s | s | n | n | n | d
  · exact isIdeal_null w
  · exact isIdeal_bool w
  · cases k
    · exact isIdeal_int8 w
    · exact isIdeal_int16 w
    · exact isIdeal_int32 w
    · exact isIdeal_int64 w
    · exact isIdeal_uint8 w
    · exact isIdeal_uint16 w
    · exact isIdeal_uint32 w
    · exact isIdeal_uint64 w
  · cases k
    · exact isIdeal_float32 w
    · exact isIdeal_float64 w
  · exact isIdeal_string w
  · exact isIdeal_blob w
  · exact isIdeal_idealInt w
  · exact isIdeal_idealRune w
  · exact isIdeal_idealUint w
  · exact isIdeal_idealFloat w
/-- There is such a value of a type, and a number. -/
def IsConc (k : ByteArray) (n u : Int) (f : Nat) (s : ByteArray) : Prop := ∃ v : V, v.conc ∧ v.K = k ∧ v.N = n ∧ v.U = u ∧ v.F = f ∧ v.S = s
def ConcPost (k : ByteArray) (n u : Int) (f : Nat) (s : ByteArray) (w : World) (e : Ending) (w' : World) : Prop :=
  ∃ b : Bool, e = .returned (.bool b) ∧ (b = true → IsConc k n u f s) ∧ Below w.heap.size w w'
theorem conc_post {k : ByteArray} {n u : Int} {f : Nat} {s : ByteArray} {w w' : World} {e : Ending} {b : Bool} (he : e = .returned (.bool b)) (hb : Below w.heap.size w w')
    (h : b = true → IsConc k n u f s) : ConcPost k n u f s w e w' := ⟨b, he, h, hb⟩
theorem conc_of (v : V) (ho : v.ok) (hi : v.ideal = false) (h : (FloatKind.f64.format.order v.F v.F == some Ordering.eq) = true) : IsConc v.K v.N v.U v.F v.S :=
  ⟨v, ⟨ho, hi, by unfold nan64; simp at h ⊢; exact h⟩, rfl, rfl, rfl, rfl, rfl⟩
set_option maxRecDepth 100000 in
set_option maxHeartbeats 1000000 in
theorem concrete_any (k : ByteArray) (n u : Int) (f : Nat) (s : ByteArray) (n1 : -9223372036854775808 ≤ n) (n2 : n ≤ 9223372036854775807) (u1 : 0 ≤ u) (u2 : u ≤ 18446744073709551615) (w : World) :
    Calls Tryd.prog 31 #[.agg #[.string k, .int .i64 n, .int .u64 u, .float .f64 f, .string s]] w (ConcPost k n u f s w) := by
  go_enter Tryd.func31, Tryd.ntmps31
  go_wp2_with fail
  refine (valid_any k n u f s n1 n2 u1 u2 _).mono ?_
  rintro e w1 ⟨b, rfl, hiff, hb⟩
  have HI := Lib.hid hiff
  clear hiff
  have hz := hb.size
  simp at hz
  obtain ⟨hc, hf⟩ := bcell hb
  cases b with
  | false =>
    go_wp2
    go_ret
    exact conc_post rfl (((Below.refl _ _).alloc (Nat.le_refl _) _).trans (hb.mono (by simp))) (fun h => by cases h)
  | true =>
    obtain ⟨v, ho, rfl, rfl, rfl, rfl, rfl⟩ := HI.out.1 rfl
    clear HI n1 n2 u1 u2
    have HO := Lib.hid ho
    clear ho
    go_wp2_with fail
    refine (isIdeal_any v _).mono ?_
    rintro e w' ⟨rfl, rfl⟩
    cases hi : v.ideal with
    | true =>
      go_wp2
      go_ret
      exact conc_post rfl (((Below.refl _ _).alloc (Nat.le_refl _) _).trans (hb.mono (by simp))) (fun h => by cases h)
    | false =>
      have HJ := Lib.hid hi
      clear hi
      go_wp2
      go_ret
      exact conc_post rfl (((Below.refl _ _).alloc (Nat.le_refl _) _).trans (hb.mono (by simp))) (fun h => conc_of v HO.out HJ.out h)
end Go.Proofs.YtpkgngpmnapdoaaDoor
