/- FnFindColFirst: the walk of the law: for every list of names and every name. -/
import Derived.Test.YtamlkedkmehfcaaRRRRFind
namespace Go.Proofs.YtamlkedkmehfcaaRRRR
open Go.RowKit
set_option linter.unusedVariables false
set_option linter.unusedSimpArgs false

def SomeBool7 (w : World) (e : Ending) (w' : World) : Prop := ∃ b : Bool, e = .returned (.bool b) ∧ w = w'
set_option maxHeartbeats 1000000 in
theorem fits7_any (b off cap len : Nat) (ss : Nat → ByteArray) (w : World) (hlen : len ≤ 9223372036854775807) (hc : ∀ j, j < len → w.cell? ⟨b, off + j, none⟩ = some (.string (ss j))) :
    Calls Try.prog 6 #[.slice (some ⟨b, off, none⟩) len cap] w (SomeBool7 w) := by
  have HC := Lib.hid hc
  clear hc
  by_cases hb : (2147483647 : Int) < (len : Int)
  · go_enter Try.func6, Try.ntmps6
    go_wp2
    go_ret
    exact ⟨_, rfl, rfl⟩
  · go_enter Try.func6, Try.ntmps6
    go_wp2
    go_loop [10] (fun i => ∃ k : Nat, k ≤ len ∧ i = .int .i64 k) (fun i => len - (intOf i).toNat)
    case atStart => exact ⟨0, Nat.zero_le _, rfl⟩
    case round =>
      obtain ⟨k, hk, rfl⟩ := hrel
      by_cases hlt : k < len
      · have c1 := HC.out k hlt
        by_cases hs : (2147483647 : Int) < ((ss k).size : Int)
        · go_wp2
          go_ret
          exact ⟨_, rfl, rfl⟩
        · go_wp2
          go_round
          case rel => exact ⟨k + 1, by omega, by go_num⟩
          case measure => simp [intOf]; omega
      · go_wp2
        go_ret
        exact ⟨_, rfl, rfl⟩
theorem fits7_nil (o : Option Addr) (cap : Nat) (w : World) : Calls Try.prog 6 #[.slice o 0 cap] w (SomeBool7 w) := by
  go_enter Try.func6, Try.ntmps6
  go_wp2
  go_rounds 1
  go_ret
  exact ⟨_, rfl, rfl⟩

/-- r is the first place of the name from m on, or n where there is none. -/
def FirstFrom (ss : Nat → ByteArray) (nm : ByteArray) (m n r : Nat) : Prop := m ≤ r ∧ r ≤ n ∧ (∀ j, m ≤ j → j < r → (ss j).toList ≠ nm.toList) ∧ (r < n → (ss r).toList = nm.toList)
theorem FirstFrom.all {ss : Nat → ByteArray} {nm : ByteArray} {n r : Nat} (h : FirstFrom ss nm 0 n r) : First ss nm n r := ⟨h.2.1, fun j hj => h.2.2.1 j (Nat.zero_le _) hj, h.2.2.2⟩
theorem FirstFrom.hit {ss : Nat → ByteArray} {nm : ByteArray} {n m : Nat} (hm : m < n) (h : (ss m).toList = nm.toList) : FirstFrom ss nm m n m := ⟨Nat.le_refl _, Nat.le_of_lt hm, fun j h1 h2 => by omega, fun _ => h⟩
theorem FirstFrom.miss {ss : Nat → ByteArray} {nm : ByteArray} {n m r : Nat} (hm : ¬ (ss m).toList = nm.toList) (h : FirstFrom ss nm (m + 1) n r) : FirstFrom ss nm m n r :=
  ⟨by have := h.1; omega, h.2.1, fun j h1 h2 => by
    rcases Nat.eq_or_lt_of_le h1 with rfl | h3
    · exact hm
    · exact h.2.2.1 j h3 h2, h.2.2.2⟩
theorem ixOf_end (n : Nat) : ixOf n n = -1 := by unfold ixOf; rw [if_neg (by omega)]
theorem ixOf_lt {m n : Nat} (h : m < n) : ixOf m n = (m : Int) := by unfold ixOf; rw [if_pos h]

def LawPost7 (w : World) (e : Ending) (w' : World) : Prop := e = .returned (.bool true) ∧ Below w.heap.size w w'
/-- The sanity check's two names. -/
def abOf (j : Nat) : ByteArray := if j = 0 then ⟨#[97]⟩ else ⟨#[98]⟩
theorem ab_first {r : Nat} (h : First abOf ⟨#[98]⟩ 2 r) : r = 1 := First.unique h ⟨by omega, fun j hj => by
  obtain rfl : j = 0 := by omega
  rw [ByteArray.toList_eq, ByteArray.toList_eq]
  decide, fun _ => rfl⟩
set_option maxRecDepth 100000 in
set_option maxHeartbeats 2000000 in
theorem walk_find (b off cap len : Nat) (ss : Nat → ByteArray) (s : ByteArray) (w : World) (hlen : len ≤ 9223372036854775807) (hs : s.size ≤ 9223372036854775807) (hb : b < w.heap.size) (hc : ∀ j, j < len → w.cell? ⟨b, off + j, none⟩ = some (.string (ss j))) :
    Calls Try.prog 3 #[.slice (some ⟨b, off, none⟩) len cap, .string s] w (LawPost7 w) := by
  have HC := Lib.hid hc
  clear hc
  go_enter Try.func3, Try.ntmps3
  go_wp2_with fail
  refine (fits7_any b off cap len ss _ hlen HC.out).mono ?_
  rintro e w' ⟨b1, rfl, rfl⟩
  cases b1 with
  | false =>
    go_wp2
    go_ret
    exact ⟨rfl, Below.refl _ _⟩
  | true =>
  by_cases hs1 : (2147483647 : Int) < (s.size : Int)
  · go_wp2
    go_ret
    exact ⟨rfl, Below.refl _ _⟩
  go_wp2_with fail
  refine (findCol_slice w.heap.size 0 2 2 abOf ⟨#[98]⟩ _ (by decide) (by simp) (fun j hj => by
    have hj' : j = 0 ∨ j = 1 := by omega
    rcases hj' with rfl | rfl
    · show (w.alloc _).cell? _ = _
      simp [abOf]
    · show (w.alloc _).cell? _ = _
      simp [abOf])).mono ?_
  rintro e w1 ⟨r, hf, rfl, hb1⟩
  obtain rfl := ab_first hf
  have e1 : ixOf 1 2 = 1 := rfl
  have W1 : Below w.heap.size w w1 := ((Below.refl _ _).alloc (Nat.le_refl _) _).trans (hb1.mono (by simp))
  have HW1 := Lib.hid W1
  have HC1 := Lib.hid (show ∀ j, j < len → w1.cell? ⟨b, off + j, none⟩ = some (.string (ss j)) from fun j hj => (W1.cell (p := ⟨b, off + j, none⟩) hb).trans (HC.out j hj))
  have hb2 : b < w1.heap.size := Nat.lt_of_lt_of_le hb W1.size
  clear hf hb1 W1 HC
  by_cases hl : (200 : Int) < (len : Int)
  · go_wp2
    go_ret
    exact ⟨rfl, HW1.out⟩
  by_cases hl2 : (200 : Int) < (s.size : Int)
  · go_wp2
    go_ret
    exact ⟨rfl, HW1.out⟩
  go_wp2
  go_loop [6, 7] (fun v i => ∃ m : Nat, m ≤ len ∧ i = .int .i64 ((m : Int) - 1) ∧ ∃ r, v = .int .i64 (ixOf r len) ∧ FirstFrom ss s m len r) (fun _ i => (intOf i + 1).toNat)
  case atStart => exact ⟨len, Nat.le_refl _, rfl, len, by rw [ixOf_end], Nat.le_refl _, Nat.le_refl _, fun j h1 h2 => by omega, fun h => absurd h (Nat.lt_irrefl _)⟩
  case round =>
    obtain ⟨m, hm, rfl, r, rfl, hF⟩ := hrel
    have HF := Lib.hid hF
    clear hF
    rcases Nat.eq_zero_or_pos m with rfl | hpos
    · have HFA := Lib.hid HF.out.all
      go_wp2_with fail
      refine (findCol_slice b off cap len ss s _ (by omega) hb2 HC1.out).mono ?_
      rintro e w2 ⟨r2, hf2, rfl, hb3⟩
      obtain rfl := First.unique hf2 HFA.out
      have HB := Lib.hid (HW1.out.trans (hb3.mono HW1.out.size))
      clear hf2 hb3
      go_wp2
      go_ret
      exact ⟨rfl, HB.out⟩
    · obtain ⟨k, rfl⟩ : ∃ k, m = k + 1 := ⟨m - 1, by omega⟩
      have ek : ((k + 1 : Nat) : Int) - 1 = (k : Int) := by omega
      rw [ek]
      clear ek
      have c1 := HC1.out k (by omega)
      by_cases hsz : (200 : Int) < ((ss k).size : Int)
      · go_wp2
        go_ret
        exact ⟨rfl, HW1.out⟩
      · by_cases he : (ss k).toList = s.toList
        · have he' : ((ss k).toList == s.toList) = true := by simpa using he
          have HN := Lib.hid (FirstFrom.hit (n := len) (by omega) he)
          clear he
          go_wp2
          go_round
          case rel => exact ⟨k, by omega, rfl, k, by rw [ixOf_lt (by omega)], HN.out⟩
          case measure => simp [intOf]
        · have he' : ((ss k).toList == s.toList) = false := by simpa using he
          have HN := Lib.hid (FirstFrom.miss he HF.out)
          clear he HF
          go_wp2
          go_round
          case rel => exact ⟨k, by omega, rfl, r, rfl, HN.out⟩
          case measure => simp [intOf]
set_option maxRecDepth 100000 in
set_option maxHeartbeats 2000000 in
theorem walk_find_nil (o : Option Addr) (cap : Nat) (s : ByteArray) (w : World) (hs : s.size ≤ 9223372036854775807) :
    Calls Try.prog 3 #[.slice o 0 cap, .string s] w (LawPost7 w) := by
  go_enter Try.func3, Try.ntmps3
  go_wp2_with fail
  refine (fits7_nil o cap _).mono ?_
  rintro e w' ⟨b1, rfl, rfl⟩
  cases b1 with
  | false =>
    go_wp2
    go_ret
    exact ⟨rfl, Below.refl _ _⟩
  | true =>
  by_cases hs1 : (2147483647 : Int) < (s.size : Int)
  · go_wp2
    go_ret
    exact ⟨rfl, Below.refl _ _⟩
  go_wp2_with fail
  refine (findCol_slice w.heap.size 0 2 2 abOf ⟨#[98]⟩ _ (by decide) (by simp) (fun j hj => by
    have hj' : j = 0 ∨ j = 1 := by omega
    rcases hj' with rfl | rfl
    · show (w.alloc _).cell? _ = _
      simp [abOf]
    · show (w.alloc _).cell? _ = _
      simp [abOf])).mono ?_
  rintro e w1 ⟨r, hf, rfl, hb1⟩
  obtain rfl := ab_first hf
  have e1 : ixOf 1 2 = 1 := rfl
  have W1 : Below w.heap.size w w1 := ((Below.refl _ _).alloc (Nat.le_refl _) _).trans (hb1.mono (by simp))
  have HW1 := Lib.hid W1
  clear hf hb1 W1
  by_cases hl2 : (200 : Int) < (s.size : Int)
  · go_wp2
    go_ret
    exact ⟨rfl, HW1.out⟩
  go_wp2
  go_rounds 1
  go_rounds 1
  go_rounds 1
  go_ret
  exact ⟨rfl, HW1.out⟩
end Go.Proofs.YtamlkedkmehfcaaRRRR
