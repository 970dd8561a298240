/- A text within another one: zzIndex, zzContains. -/
import Derived.Test.YtpkgngpmnapdoaaDoorRows
import Derived.WalkKit
import Derived.WalkSpells
import Derived.WalkLawsBesides
import Derived.Handy
import Derived.Lib.Hide
namespace Go.Proofs.YtpkgngpmnapdoaaDoor
open Go.RowKit
set_option linter.unusedVariables false
set_option linter.unusedSimpArgs false
set_option maxRecDepth 100000

/-- t begins at one of the first k places of s. -/
def hasTo (s t : ByteArray) : Nat → Bool
  | 0 => false
  | k + 1 => hasTo s t k || ((s.extract k (k + t.size)).toList == t.toList)
/-- .. at some place, and ends within s. -/
def has (s t : ByteArray) : Bool := hasTo s t (s.size + 1 - t.size)
theorem hasTo_mono {s t : ByteArray} {k : Nat} (h : hasTo s t k = true) : ∀ {m : Nat}, k ≤ m → hasTo s t m = true
  | 0, hm => by obtain rfl : k = 0 := by omega
                exact h
  | m + 1, hm => by
    by_cases e : k = m + 1
    · exact e ▸ h
    · show (hasTo s t m || _) = true
      rw [hasTo_mono h (show k ≤ m by omega)]; rfl
theorem has_hit {s t : ByteArray} {k : Nat} (hk : k + t.size ≤ s.size) (h : ((s.extract k (k + t.size)).toList == t.toList) = true) : has s t = true :=
  hasTo_mono (k := k + 1) (by show (hasTo s t k || _) = true; rw [h]; simp) (by omega)
theorem sub_of {T : TypeId} (hT : Tryd.prog.underlying T = some .string) {s : ByteArray} {k n : Nat} (h : k + n ≤ s.size) (w : World) :
    (Instr.slice T (.string s) (some (.int .i64 (k : Int))) (some (.int .i64 ((k : Int) + (n : Int)))) none).run Tryd.prog w = .ok (.string (s.extract k (k + n))) w := by
  rw [run_slice_string w T s .i64 .i64 (k : Int) ((k : Int) + (n : Int)) hT (by omega) (by omega) (by omega)]
  have e1 : (k : Int).toNat = k := by omega
  have e2 : ((k : Int) + (n : Int)).toNat = k + n := by omega
  rw [e1, e2]
def IndexPost (s t : ByteArray) (w : World) (e : Ending) (w' : World) : Prop := ∃ r : Int, e = .returned (.int .i64 r) ∧ decide (0 ≤ r) = has s t ∧ w' = w
theorem index_post {s t : ByteArray} {w w' : World} {e : Ending} {r : Int} (he : e = .returned (.int .i64 r)) (h : decide (0 ≤ r) = has s t) (hw : w' = w) : IndexPost s t w e w' := ⟨r, he, h, hw⟩
set_option maxHeartbeats 1000000 in
theorem index_any (s t : ByteArray) (hs : s.size ≤ 65536) (ht : t.size ≤ 65536) (w : World) : Calls Tryd.prog 84 #[.string s, .string t] w (IndexPost s t w) := by
  go_enter Tryd.func84, Tryd.ntmps84
  go_wp2
  go_loop [5] (fun i => ∃ k : Nat, k ≤ s.size + 1 - t.size ∧ i = .int .i64 k ∧ hasTo s t k = false) (fun i => s.size + 1 - t.size - (intOf i).toNat)
  case atStart => exact ⟨0, Nat.zero_le _, rfl, rfl⟩
  case round =>
    obtain ⟨k, hk, rfl, hno⟩ := hrel
    have HN := Lib.hid hno
    clear hno
    by_cases hlt : k + t.size ≤ s.size
    · have hsl := fun wx => sub_of (T := 9) Tryd.underlying9 hlt wx
      cases he : ((s.extract k (k + t.size)).toList == t.toList) with
      | true =>
        have HH := Lib.hid (has_hit hlt he)
        go_wp2
        go_ret
        exact index_post rfl (by rw [HH.out]; simp) rfl
      | false =>
        have HS := Lib.hid (show hasTo s t (k + 1) = false by show (hasTo s t k || _) = false; rw [HN.out, he]; rfl)
        clear HN
        go_wp2
        go_round
        case rel => exact ⟨k + 1, by omega, by go_num, HS.out⟩
        case measure => simp [intOf]; omega
    · have HH := Lib.hid (show has s t = false by unfold has; rw [show s.size + 1 - t.size = k by omega]; exact HN.out)
      clear HN
      go_wp2
      go_ret
      exact index_post rfl (by rw [HH.out]; decide) rfl
theorem within_any (s t : ByteArray) (hs : s.size ≤ 65536) (ht : t.size ≤ 65536) (w : World) : Calls Tryd.prog 72 #[.string s, .string t] w fun e w' => e = .returned (.bool (has s t)) ∧ w' = w := by
  have H := Lib.hid (index_any s t hs ht w)
  clear hs ht
  go_enter Tryd.func72, Tryd.ntmps72
  go_wp2_with fail
  refine H.out.mono ?_
  rintro e w1 ⟨r, rfl, hr, rfl⟩
  cases hh : has s t with
  | true =>
    have hr' : 0 ≤ r := by rw [hh] at hr; simpa using hr
    go_wp2
    go_ret
    exact ⟨by rw [hh]; rfl, rfl⟩
  | false =>
    have hr' : ¬ 0 ≤ r := by rw [hh] at hr; simpa using hr
    go_wp2
    go_ret
    exact ⟨by rw [hh]; rfl, rfl⟩
end Go.Proofs.YtpkgngpmnapdoaaDoor
