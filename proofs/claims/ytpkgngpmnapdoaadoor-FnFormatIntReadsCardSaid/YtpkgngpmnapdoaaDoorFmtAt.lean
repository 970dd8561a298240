/- FnFormatIntReads: the walk of the law. For every Value and base. -/
import Derived.Deep.RegionWith
import Derived.Deep.CutRange
import Derived.Deep.QuietTactic
import Derived.BigQuiet
import Derived.LoopTactic
import Derived.Test.YtpkgngpmnapdoaaDoorInteger
import Derived.Test.YtpkgngpmnapdoaaDoorSmall
import Derived.Test.YtpkgngpmnapdoaaDoorIfi
namespace Go.Proofs.YtpkgngpmnapdoaaDoor
open Go.RowKit
set_option linter.unusedVariables false
set_option linter.unusedSimpArgs false
set_option maxRecDepth 100000
attribute [local go_sem] store_flt

theorem int_negs (kd : IntKind) (m : Int) (h : (V.int kd m).ok) : (V.int kd m).N < 0 ↔ m < 0 := by
  cases kd <;> simp [V.ok, V.N] at h ⊢ <;> omega
theorem run_at (s : ByteArray) (i : Nat) (h : i < s.size) (w : World) : (Instr.index 9 (.string s) (.int .i64 (i : Int))).run Tryd.prog w = .ok (.int .u8 (((s[i]'h).toNat : Nat) : Int)) w := by
  rw [run_index_string w 9 _ .i64 (i : Int) Tryd.underlying9]
  rw [dif_pos ⟨by omega, by omega⟩]
  rfl
theorem size_any (n : Int) (h1 : -9223372036854775808 ≤ n) (h2 : n ≤ 9223372036854775807) (w : World) : Calls Tryd.prog 27 #[.int .i64 n] w fun e w' => e = .returned (.int .u64 (n.natAbs : Int)) ∧ w' = w := by
  by_cases hn : n < 0
  · have hw : IntKind.u64.wrap (-IntKind.u64.wrap n) = (n.natAbs : Int) := by rw [IntKind.wrap_u64, IntKind.wrap_u64]; omega
    go_enter Tryd.func27, Tryd.ntmps27
    go_wp2
    go_ret
    exact ⟨rfl, rfl⟩
  · have hw : IntKind.u64.wrap n = (n.natAbs : Int) := by rw [IntKind.wrap_u64]; omega
    go_enter Tryd.func27, Tryd.ntmps27
    go_wp2
    go_ret
    exact ⟨rfl, rfl⟩
theorem int_or (kd : IntKind) (m : Int) (h : (V.int kd m).ok) : bits .or .u64 (((V.int kd m).N.natAbs : Nat) : Int) (V.int kd m).U = (m.natAbs : Int) := by
  have hs : ∀ x : Int, -9223372036854775808 ≤ x → x ≤ 9223372036854775807 → bits .or .u64 ((x.natAbs : Nat) : Int) ((0 : Nat) : Int) = (x.natAbs : Int) := fun x h1 h2 => by
    rw [bits_or_u64_nat _ _ (by omega) (by decide), Nat.or_zero]
  have hu : ∀ x : Nat, x ≤ 18446744073709551615 → bits .or .u64 ((0 : Nat) : Int) (x : Int) = (x : Int) := fun x h2 => by
    rw [bits_or_u64_nat _ _ (by decide) (by omega), Nat.zero_or]
  rw [Int.natCast_zero] at hs hu
  cases kd <;> simp only [V.ok] at h <;> simp only [V.N, V.U, Int.natAbs_zero, Int.natCast_zero]
  case i8 | i16 | i32 | i64 => exact hs _ (by omega) (by omega)
  all_goals (obtain ⟨u, rfl⟩ := Int.eq_ofNat_of_zero_le h.1; rw [Int.natAbs_natCast]; exact hu u (by omega))
theorem txt42 : txt 10 (-42) = ⟨#[45, 52, 50]⟩ := by decide +kernel
theorem ifi_42 (w : World) (hT : FmtW w) : Calls Tryd.prog 26 #[.agg #[.string ⟨#[105, 110, 116, 54, 52]⟩, .int .i64 (-42), .int .u64 0, .float .f64 0, .string ⟨#[]⟩], .agg #[.string ⟨#[105, 110, 116, 54, 52]⟩, .int .i64 10, .int .u64 0, .float .f64 0, .string ⟨#[]⟩]] w (ToldPost (.str ⟨#[45, 52, 50]⟩) w) := by
  have h := ifi_any 10 (by decide) (by decide) .i64 (-42) ⟨by decide, by decide⟩ w hT
  rw [txt42] at h
  exact h
/-- The digits, and their sign ahead. -/
theorem txt_neg (b : Nat) (m : Int) (h : m < 0) : txt b m = ⟨(45 :: digs b m.natAbs).toArray⟩ := by unfold txt itoaB; rw [if_pos h]
theorem txt_nat (b : Nat) (m : Int) (h : ¬ m < 0) : txt b m = ⟨(digs b m.natAbs).toArray⟩ := by unfold txt itoaB; rw [if_neg h, show m.toNat = m.natAbs by omega]
theorem list_size (l : List UInt8) : (⟨l.toArray⟩ : ByteArray).size = l.length := by simp [ByteArray.size]
theorem list_at (l : List UInt8) (i : Nat) (h : i < (⟨l.toArray⟩ : ByteArray).size) : (⟨l.toArray⟩ : ByteArray)[i]'h = l[i]'(by rw [list_size] at h; exact h) := rfl
theorem txt_size (b : Nat) (hb : 2 ≤ b) (m : Int) (h1 : -9223372036854775808 ≤ m) (h2 : m ≤ 18446744073709551615) : 0 < (txt b m).size ∧ (txt b m).size ≤ 70 := by
  have hl := digs_len hb 63 m.natAbs (by omega)
  have hp := digs_len_pos b m.natAbs
  by_cases h : m < 0
  · rw [txt_neg b m h, list_size]; simp; omega
  · rw [txt_nat b m h, list_size]; omega
/-- Is the first sign a '-'? -/
theorem first_at (b : Nat) (hb : 2 ≤ b) (hb36 : b ≤ 36) (m : Int) : ∃ c : Int, (∀ w, (Instr.index 9 (.string (txt b m)) (.int .i64 0)).run Tryd.prog w = .ok (.int .u8 c) w) ∧ (c == 45) = decide (m < 0) := by
  have hp := digs_len_pos b m.natAbs
  by_cases h : m < 0
  · rw [txt_neg b m h]
    refine ⟨45, fun w => run_at _ 0 (by rw [list_size]; simp) w, by simp [h]⟩
  · rw [txt_nat b m h]
    obtain ⟨d, hd, he, _⟩ := digs_at hb hb36 m.natAbs 0 hp
    refine ⟨((dig d).toNat : Int), fun w => ?_, ?_⟩
    · rw [show (0 : Int) = ((0 : Nat) : Int) from rfl, run_at _ 0 (by rw [list_size]; exact hp) w, list_at, he]
    · have := dig_minus (show d < 36 by omega)
      have hne : (dig d).toNat ≠ 45 := fun hq => this (by rw [← UInt8.toNat_inj]; exact hq)
      have : ¬ ((dig d).toNat : Int) = 45 := by omega
      simp [h, this]
theorem tail_of (b : Nat) (m : Int) (h : m < 0) (w : World) : (Instr.slice 9 (.string (txt b m)) (some (.int .i64 1)) none none).run Tryd.prog w = .ok (.string ⟨(digs b m.natAbs).toArray⟩) w := by
  have hz : (1 : Int) ≤ (txt b m).size := by rw [txt_neg b m h, list_size]; simp; omega
  rw [run_slice_string_l w 9 (txt b m) Tryd.underlying9 .i64 1 (by decide) hz]
  have he : (txt b m).extract (1 : Int).toNat (txt b m).size = ⟨(digs b m.natAbs).toArray⟩ := by
    rw [txt_neg b m h]
    apply ByteArray.ext
    rw [ByteArray.data_extract, list_size]
    simp [List.extract]
  rw [he]
/-- A sign of a digit: what the law's loop sees. -/
theorem digit_at (b u : Nat) (hb : 2 ≤ b) (hb36 : b ≤ 36) (k : Nat) (hk : k < (digs b u).length) : ∃ (c d : Nat), (digs b u)[k].toNat = c ∧ d < b ∧ (k = 0 → d = 0 → ¬ 1 < (digs b u).length) ∧ rd b ((digs b u).take (k + 1)) = rd b ((digs b u).take k) * b + d ∧
    ((c ≤ 57 ∧ c = 48 + d) ∨ (¬ c ≤ 57 ∧ 97 ≤ c ∧ c ≤ 122 ∧ c = 87 + d ∧ 10 ≤ d)) := by
  obtain ⟨d, hd, he, h0⟩ := digs_at hb hb36 u k hk
  refine ⟨(dig d).toNat, d, by rw [he], hd, fun hk0 hd0 hl => h0 hk0 hl hd0, ?_, ?_⟩
  · rw [← List.take_append_getElem hk, rd_snoc, he, undig_dig (by omega)]
  · have hf : ∀ d : Fin 36, (d.val < 10 → (dig d.val).toNat = 48 + d.val) ∧ (¬ d.val < 10 → (dig d.val).toNat = 87 + d.val) := by decide +kernel
    obtain ⟨f1, f2⟩ := hf ⟨d, by omega⟩
    simp only at f1 f2
    by_cases hd : d < 10
    · have := f1 hd
      exact .inl ⟨by omega, by omega⟩
    · have := f2 hd
      exact .inr ⟨by omega, by omega, by omega, by omega, by omega⟩
/-- What the law's loop reads: the digits without the sign, and what has been read of them. -/
theorem loop_facts (b : Nat) (hb2 : 2 ≤ b) (hb36 : b ≤ 36) (m : Int) (m1 : -9223372036854775808 ≤ m) (m2 : m ≤ 18446744073709551615) : ∃ (DS : ByteArray) (R : Nat → Nat),
    (m < 0 → ∀ w, (Instr.slice 9 (.string (txt b m)) (some (.int .i64 1)) none none).run Tryd.prog w = .ok (.string DS) w) ∧ (¬ m < 0 → txt b m = DS) ∧ 0 < DS.size ∧ DS.size ≤ 64 ∧ R 0 = 0 ∧ R DS.size = m.natAbs ∧ (∀ k, R k ≤ m.natAbs) ∧
    ∀ k (hk : k < DS.size), ∃ (c d : Nat), (DS[k]'hk).toNat = c ∧ d < b ∧ (k = 0 → d = 0 → ¬ 1 < DS.size) ∧ R (k + 1) = R k * b + d ∧
      ((c ≤ 57 ∧ c = 48 + d) ∨ (¬ c ≤ 57 ∧ 97 ≤ c ∧ c ≤ 122 ∧ c = 87 + d ∧ 10 ≤ d)) := by
  have hl := digs_len hb2 63 m.natAbs (by omega)
  refine ⟨⟨(digs b m.natAbs).toArray⟩, fun k => rd b ((digs b m.natAbs).take k), fun h w => tail_of b m h w, fun h => txt_nat b m h, ?_, ?_, rfl, ?_, fun k => rd_take hb2 hb36 _ k, fun k hk => ?_⟩
  · rw [list_size]; exact digs_len_pos _ _
  · rw [list_size]; exact hl
  · show rd b ((digs b m.natAbs).take _) = _
    rw [list_size, List.take_length, rd_digs hb2 hb36]
  · have hk' := hk
    rw [list_size] at hk' ⊢
    exact digit_at b m.natAbs hb2 hb36 k hk'
end Go.Proofs.YtpkgngpmnapdoaaDoor
