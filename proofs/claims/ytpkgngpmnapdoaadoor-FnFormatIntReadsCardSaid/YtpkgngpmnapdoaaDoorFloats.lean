/- Every float32 word that is a number, widened to float64 and narrowed again, is itself. Plain: no Go in sight. -/
import Derived.Laws.FloatArith
import Derived.Laws.Cover2
namespace Go.Proofs.YtpkgngpmnapdoaaDoor
open Ieee
set_option linter.unusedVariables false
set_option linter.unusedSimpArgs false
set_option maxRecDepth 100000

theorem log2_mul_pow {M k : Nat} (h : M ≠ 0) : (M * 2 ^ k).log2 = M.log2 + k := by
  have hp : 0 < 2 ^ k := Nat.two_pow_pos k
  rw [Nat.log2_eq_iff (Nat.mul_ne_zero h (by omega))]
  constructor
  · rw [Nat.pow_add]; exact Nat.mul_le_mul_right _ (Nat.log2_self_le h)
  · have h1 : M < 2 ^ (M.log2 + 1) := Nat.lt_log2_self
    have h2 : 2 ^ (M.log2 + k + 1) = 2 ^ (M.log2 + 1) * 2 ^ k := by rw [← Nat.pow_add]; congr 1; omega
    rw [h2]
    exact Nat.mul_lt_mul_of_pos_right h1 hp

theorem cut_zero (neg : Bool) (n : Nat) : Toward.even.cut neg n 0 = n := by
  unfold Toward.cut
  simp [Nat.mod_one]

theorem cut_exact (neg : Bool) {M : Nat} (k : Nat) (hM : M ≠ 0) : Toward.even.cut neg (M * 2 ^ k) k = M := by
  have hp : 0 < 2 ^ k := Nat.two_pow_pos k
  have hk : k ≤ (M * 2 ^ k).log2 + 2 := by rw [log2_mul_pow hM]; omega
  unfold Toward.cut
  simp only [Nat.min_eq_left hk, Nat.one_shiftLeft, Nat.mul_div_cancel _ hp, Nat.mul_mod_left]
  have h0 : (2 ^ k == 2 * 0) = false := by simp
  simp [h0]

theorem nearest_exact (f : Format) (neg : Bool) (m : Nat) (e : Int) (M j : Nat) (hM0 : M ≠ 0) (hM : M < 2 ^ (f.fractionBits + 1)) (hc : j = 0 ∨ 2 ^ f.fractionBits ≤ M)
    (hv : (f.leastPlace + j ≤ e ∧ m * 2 ^ (e - (f.leastPlace + j)).toNat = M) ∨ (e ≤ f.leastPlace + j ∧ m = M * 2 ^ ((f.leastPlace + j) - e).toNat)) :
    f.nearest neg m e = f.word neg (min (j * f.binade + M) f.infRung) := by
  have hm : m ≠ 0 := by
    rcases hv with ⟨_, h⟩ | ⟨_, h⟩
    · rintro rfl
      simp at h
      exact hM0 h.symm
    · subst h
      exact Nat.mul_ne_zero hM0 (by have := Nat.two_pow_pos ((f.leastPlace + j) - e).toNat; omega)
  have hlog : e + m.log2 = f.leastPlace + j + M.log2 := by
    rcases hv with ⟨h1, h⟩ | ⟨h1, h⟩
    · have := log2_mul_pow (k := (e - (f.leastPlace + j)).toNat) hm
      rw [h] at this
      omega
    · have := log2_mul_pow (k := ((f.leastPlace + j) - e).toNat) hM0
      rw [← h] at this
      omega
  have hlast : max (e + m.log2 - f.fractionBits) f.leastPlace = f.leastPlace + j := by
    have key : (j = 0 ∧ M.log2 < f.fractionBits + 1) ∨ M.log2 = f.fractionBits := by
      rcases hc with h0 | hc
      · exact .inl ⟨h0, (Nat.log2_lt hM0).2 hM⟩
      · exact .inr ((Nat.log2_eq_iff hM0).2 ⟨hc, hM⟩)
    rw [Int.max_def]
    split <;> omega
  unfold Format.nearest
  rw [if_neg hm]
  simp only [hlast]
  have hj : (f.leastPlace + j - f.leastPlace).toNat = j := by omega
  rw [hj]
  rcases hv with ⟨h1, h⟩ | ⟨h1, h⟩
  · have e1 : (f.leastPlace + j - e).toNat = 0 := by omega
    rw [e1, cut_zero, Nat.shiftLeft_eq, h]
  · have e1 : (e - (f.leastPlace + j)).toNat = 0 := by omega
    rw [e1, Nat.shiftLeft_zero, h, cut_exact _ _ hM0]

theorem word_div (f : Format) (neg : Bool) {R : Nat} (h : R < f.signWeight) : (f.word neg R / f.signWeight % 2 == 1) = neg ∧ f.word neg R % f.signWeight = R := by
  have hp : 0 < f.signWeight := by omega
  cases neg
  · simp [Format.word, Nat.div_eq_of_lt h, Nat.mod_eq_of_lt h]
  · have h1 : (f.signWeight + R) / f.signWeight = 1 := by rw [Nat.add_div_left _ hp, Nat.div_eq_of_lt h]
    have h2 : (f.signWeight + R) % f.signWeight = R := by rw [Nat.add_mod_left, Nat.mod_eq_of_lt h]
    simp [Format.word, h1, h2]

theorem read_word (f : Format) (neg : Bool) (M j : Nat) (hM : M < 2 ^ (f.fractionBits + 1)) (hc : j = 0 ∨ 2 ^ f.fractionBits ≤ M) (hfin : j * f.binade + M < f.infRung) :
    f.read (f.word neg (j * f.binade + M)) = .number neg M (f.leastPlace + j) := by
  have hb : 0 < f.binade := Nat.two_pow_pos _
  have hbd : f.binade = 2 ^ f.fractionBits := rfl
  have hM2 : M < 2 * f.binade := by rw [hbd, ← Nat.pow_succ']; exact hM
  have hsw := f.infRung_lt
  obtain ⟨e1, e2⟩ := word_div f neg (R := j * f.binade + M) (by omega)
  unfold Format.read
  simp only [e1, e2]
  by_cases h : j * f.binade + M < f.binade
  · rw [if_pos h]
    have hj : j = 0 := by
      rcases Nat.eq_zero_or_pos j with h0 | h0
      · exact h0
      · have := Nat.mul_le_mul_right f.binade h0
        omega
    subst hj
    simp
  · rw [if_neg h, if_pos hfin]
    have hMb : f.binade ≤ M := by
      rcases hc with h0 | hc
      · subst h0; omega
      · rw [hbd]; exact hc
    have e3 : j * f.binade + M = (M - f.binade) + (j + 1) * f.binade := by rw [Nat.add_mul]; omega
    have e4 : (j * f.binade + M) / f.binade = j + 1 := by rw [e3, Nat.add_mul_div_right _ _ hb, Nat.div_eq_of_lt (by omega)]; omega
    have e5 : (j * f.binade + M) % f.binade = M - f.binade := by rw [e3, Nat.add_mul_mod_self_right, Nat.mod_eq_of_lt (by omega)]
    rw [e4, e5]
    congr 1
    · omega

/-- What a word is: a number in its own form, an infinity, or no number. -/
theorem word_cases (f : Format) (r : Nat) (h : r < 2 ^ f.width) :
    (∃ (neg : Bool) (M j : Nat), M < 2 ^ (f.fractionBits + 1) ∧ (j = 0 ∨ 2 ^ f.fractionBits ≤ M) ∧ j * f.binade + M < f.infRung ∧ r = f.word neg (j * f.binade + M)) ∨
    (∃ neg : Bool, r = f.word neg f.infRung) ∨ (∃ (neg : Bool) (R : Nat), f.infRung < R ∧ R < f.signWeight ∧ r = f.word neg R) := by
  have hb : 0 < f.binade := Nat.two_pow_pos _
  have hbd : f.binade = 2 ^ f.fractionBits := rfl
  have hp : 0 < f.signWeight := Nat.two_pow_pos _
  have two : 2 ^ f.width = 2 * f.signWeight := by
    unfold Format.width Format.signWeight
    rw [Nat.add_assoc, Nat.add_comm 1, Nat.pow_succ, Nat.mul_comm]
  have hr : ∃ (neg : Bool) (R : Nat), R < f.signWeight ∧ r = f.word neg R := by
    by_cases hs : r < f.signWeight
    · exact ⟨false, r, hs, rfl⟩
    · exact ⟨true, r - f.signWeight, by omega, by simp only [Format.word, if_true]; omega⟩
  obtain ⟨neg, R, hR, rfl⟩ := hr
  rcases Nat.lt_trichotomy R f.infRung with h1 | h1 | h1
  · refine .inl ?_
    by_cases hlt : R < f.binade
    · refine ⟨neg, R, 0, ?_, .inl rfl, by omega, by simp⟩
      rw [Nat.pow_succ, ← hbd]; omega
    · have hm := Nat.mod_lt R hb
      have hd : 1 ≤ R / f.binade := (Nat.le_div_iff_mul_le hb).2 (by omega)
      have hdm := Nat.div_add_mod R f.binade
      have e : (R / f.binade - 1) * f.binade + (f.binade + R % f.binade) = R := by
        obtain ⟨q, hq⟩ : ∃ q, R / f.binade = q + 1 := ⟨R / f.binade - 1, by omega⟩
        rw [hq] at hdm ⊢
        rw [Nat.mul_add, Nat.mul_comm] at hdm
        simp only [Nat.add_sub_cancel]
        omega
      refine ⟨neg, f.binade + R % f.binade, R / f.binade - 1, ?_, .inr (by rw [← hbd]; omega), by rw [e]; exact h1, by rw [e]⟩
      rw [Nat.pow_succ, ← hbd]; omega
  · subst h1; exact .inr (.inl ⟨neg, rfl⟩)
  · exact .inr (.inr ⟨neg, R, h1, hR, rfl⟩)

theorem read_inf (k : FloatKind) (neg : Bool) : k.format.read (k.format.word neg k.format.infRung) = .infinity neg := by cases k <;> cases neg <;> rfl
theorem read_nan (k : FloatKind) (neg : Bool) {R : Nat} (h1 : k.format.infRung < R) (h2 : R < k.format.signWeight) : k.format.read (k.format.word neg R) = .nan neg (R - k.format.infRung) := by
  have hb : k.format.binade ≤ k.format.infRung := by cases k <;> decide
  obtain ⟨e1, e2⟩ := word_div k.format neg h2
  unfold Format.read
  simp only [e1, e2]
  rw [if_neg (by omega), if_neg (by omega), if_neg (by omega)]

/-- Is a word of a kind no number? -/
def nanK (k : FloatKind) (r : Nat) : Bool := k.format.order r r != some Ordering.eq
theorem nanK_number {k : FloatKind} {r : Nat} {neg : Bool} {m : Nat} {e : Int} (h : k.format.read r = .number neg m e) : nanK k r = false := by
  unfold nanK Format.order Datum.order
  rw [h]
  simp
theorem nanK_inf {k : FloatKind} {r : Nat} {neg : Bool} (h : k.format.read r = .infinity neg) : nanK k r = false := by
  unfold nanK Format.order Datum.order
  rw [h]
  simp
theorem nanK_nan {k : FloatKind} {r : Nat} {neg : Bool} {fr : Nat} (h : k.format.read r = .nan neg fr) : nanK k r = true := by
  unfold nanK Format.order Datum.order
  rw [h]
  simp

theorem conv_number {s k : FloatKind} (hne : s ≠ k) {r : Nat} {neg : Bool} {m : Nat} {e : Int} (h : s.format.read r = .number neg m e) :
    floatToFloatBits s r k = if (k.format.read (k.format.nearest neg m e)).isInfinity then none else some (k.format.nearest neg m e) := by
  unfold floatToFloatBits
  rw [if_neg hne]
  have h' : s.decode r = .number neg m e := h
  simp only [h']
  rfl
theorem conv_inf {s k : FloatKind} (hne : s ≠ k) {r : Nat} {neg : Bool} (h : s.format.read r = .infinity neg) : floatToFloatBits s r k = some (k.format.word neg k.format.infRung) := by
  unfold floatToFloatBits
  rw [if_neg hne]
  have h' : s.decode r = .infinity neg := h
  simp only [h']
  rfl
theorem conv_nan {s k : FloatKind} (hne : s ≠ k) {r : Nat} {neg : Bool} {fr : Nat} (h : s.format.read r = .nan neg fr) : floatToFloatBits s r k = none := by
  unfold floatToFloatBits
  rw [if_neg hne]
  have h' : s.decode r = .nan neg fr := h
  simp only [h']

theorem widen_zero (neg : Bool) : double.read (double.nearest neg 0 (-149)) = .number neg 0 (-1074) := by cases neg <;> rfl

theorem fin_wide {j X : Nat} (h : j < 1200) (hX : X < 9007199254740992) : j * 4503599627370496 + X < 9218868437227405312 := by omega
set_option maxRecDepth 100000 in
/-- A float32 that is a number is a float64, and back. -/
theorem f32_wide {r : Nat} (h : r < 2 ^ 32) (hn : nanK .f32 r = false) : ∃ d, floatToFloatBits .f32 r .f64 = some d ∧ nanK .f64 d = false ∧ floatToFloatBits .f64 d .f32 = some r := by
  have ne1 : FloatKind.f32 ≠ FloatKind.f64 := by decide
  have ne2 : FloatKind.f64 ≠ FloatKind.f32 := by decide
  rcases word_cases single r (by exact h) with ⟨neg, M, j, hM, hc, hfin, rfl⟩ | ⟨neg, rfl⟩ | ⟨neg, R, h1, h2, rfl⟩
  · have hr := read_word single neg M j hM hc hfin
    have hL : single.leastPlace = -149 := rfl
    have hL2 : double.leastPlace = -1074 := rfl
    have hp : single.fractionBits = 23 := rfl
    have hp2 : double.fractionBits = 52 := rfl
    have hb : single.binade = 2 ^ 23 := rfl
    have hb2 : double.binade = 4503599627370496 := rfl
    have hi : single.infRung = 255 * 2 ^ 23 := rfl
    have hi2 : double.infRung = 9218868437227405312 := rfl
    rw [hp] at hM hc
    rw [hb, hi] at hfin
    rcases Nat.eq_zero_or_pos M with h0 | h0
    · subst h0
      obtain rfl : j = 0 := by omega
      have hr' : FloatKind.f32.format.read (single.word neg (0 * single.binade + 0)) = .number neg 0 (-149) := hr
      have e1 := conv_number ne1 hr'
      have e2 : FloatKind.f64.format.read (FloatKind.f64.format.nearest neg 0 (-149)) = .number neg 0 (-1074) := widen_zero neg
      rw [e2] at e1
      refine ⟨_, e1, nanK_number e2, ?_⟩
      rw [conv_number ne2 e2]
      cases neg <;> rfl
    · have hM0 : M ≠ 0 := by omega
      have hlog : M.log2 < 24 := (Nat.log2_lt hM0).2 (by omega)
      have hlo := Nat.log2_self_le hM0
      have hhi : M < 2 ^ (M.log2 + 1) := Nat.lt_log2_self
      obtain ⟨k, hk⟩ : ∃ k, M.log2 + k = 52 := ⟨52 - M.log2, by omega⟩
      have hpk : 0 < 2 ^ k := Nat.two_pow_pos k
      have hM' : M * 2 ^ k < 2 ^ 53 := by
        have : 2 ^ 53 = 2 ^ (M.log2 + 1) * 2 ^ k := by rw [← Nat.pow_add]; congr 1; omega
        rw [this]
        exact Nat.mul_lt_mul_of_pos_right hhi hpk
      have hM'' : 2 ^ 52 ≤ M * 2 ^ k := by
        have : 2 ^ 52 = 2 ^ M.log2 * 2 ^ k := by rw [← Nat.pow_add]; congr 1; omega
        rw [this]
        exact Nat.mul_le_mul_right _ hlo
      obtain ⟨j', hj'⟩ : ∃ j' : Nat, (j' : Int) = 925 + j - k := ⟨925 + j - k, by omega⟩
      have hjb : j < 255 := by
        rcases Nat.lt_or_ge j 255 with h9 | h9
        · exact h9
        · have := Nat.mul_le_mul_right (2 ^ 23) h9
          omega
      have hjj : j' < 1200 := by omega
      have e53 : (2 : Nat) ^ 53 = 9007199254740992 := rfl
      have hfin2 : j' * double.binade + M * 2 ^ k < double.infRung := by
        rw [hb2, hi2]
        rw [e53] at hM'
        exact fin_wide hjj hM'
      have hr' : FloatKind.f32.format.read (single.word neg (j * single.binade + M)) = .number neg M (-149 + j) := hr
      have e1 := conv_number ne1 hr'
      have en : FloatKind.f64.format.nearest neg M (-149 + j) = double.word neg (j' * double.binade + M * 2 ^ k) := by
        have := nearest_exact double neg M (-149 + j) (M * 2 ^ k) j' (by omega) (by rw [hp2]; exact hM') (.inr (by rw [hp2]; exact hM'')) (.inl ⟨by rw [hL2]; omega, by
          rw [hL2, show ((-149 + (j : Int)) - (-1074 + (j' : Int))).toNat = k from by omega]⟩)
        rw [Nat.min_eq_left (Nat.le_of_lt hfin2)] at this
        exact this
      have er := read_word double neg (M * 2 ^ k) j' (by rw [hp2]; exact hM') (.inr (by rw [hp2]; exact hM'')) hfin2
      have er' : FloatKind.f64.format.read (double.word neg (j' * double.binade + M * 2 ^ k)) = .number neg (M * 2 ^ k) (-1074 + j') := er
      rw [en, er'] at e1
      refine ⟨_, e1, nanK_number er', ?_⟩
      rw [conv_number ne2 er']
      have ef : FloatKind.f32.format.nearest neg (M * 2 ^ k) (-1074 + j') = single.word neg (j * single.binade + M) := by
        have := nearest_exact single neg (M * 2 ^ k) (-1074 + j') M j hM0 (by rw [hp]; omega) (by rw [hp]; exact hc) (.inr ⟨by rw [hL]; omega, by
          rw [hL, show ((-149 + (j : Int)) - (-1074 + (j' : Int))).toNat = k from by omega]⟩)
        rw [Nat.min_eq_left (by rw [hb, hi]; omega)] at this
        exact this
      rw [ef, hr']
      rfl
  · have hr : FloatKind.f32.format.read (single.word neg single.infRung) = .infinity neg := read_inf .f32 neg
    have hr2 : FloatKind.f64.format.read (FloatKind.f64.format.word neg FloatKind.f64.format.infRung) = .infinity neg := read_inf .f64 neg
    exact ⟨_, conv_inf ne1 hr, nanK_inf hr2, conv_inf ne2 hr2⟩
  · have hr : FloatKind.f32.format.read (single.word neg R) = .nan neg (R - single.infRung) := read_nan .f32 neg h1 h2
    rw [nanK_nan hr] at hn
    cases hn
end Go.Proofs.YtpkgngpmnapdoaaDoor
