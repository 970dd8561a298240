/- Digits of a number in a base, and how they are read back: plain Lean. -/
import Derived.Test.YtpkgngpmnapdoaaDoorRows
namespace Go.Proofs.YtpkgngpmnapdoaaDoor
set_option linter.unusedVariables false
set_option linter.unusedSimpArgs false
set_option maxRecDepth 100000

/-- The sign of a digit. -/
def dig (d : Nat) : UInt8 := if d < 10 then UInt8.ofNat (48 + d) else UInt8.ofNat (87 + d)
/-- The digits of u in the base b, the greatest first. -/
def digs (b u : Nat) : List UInt8 :=
  if h : u < b ∨ b < 2 then [dig u] else digs b (u / b) ++ [dig (u % b)]
termination_by u
decreasing_by
  exact Nat.div_lt_self (by omega) (by omega)
theorem digs_small {b u : Nat} (h : u < b) : digs b u = [dig u] := by rw [digs, dif_pos (.inl h)]
theorem digs_big {b u : Nat} (hb : 2 ≤ b) (h : b ≤ u) : digs b u = digs b (u / b) ++ [dig (u % b)] := by rw [digs, dif_neg (by omega)]
/-- What a sign stands for. -/
def undig (c : UInt8) : Nat := if 48 ≤ c.toNat ∧ c.toNat ≤ 57 then c.toNat - 48 else if 97 ≤ c.toNat ∧ c.toNat ≤ 122 then c.toNat - 97 + 10 else 36
theorem undig_fin : ∀ d : Fin 36, undig (dig d.val) = d.val := by decide +kernel
theorem undig_dig {d : Nat} (h : d < 36) : undig (dig d) = d := undig_fin ⟨d, h⟩
theorem dig_zero_fin : ∀ d : Fin 36, dig d.val ≠ 45 := by decide +kernel
theorem dig_minus {d : Nat} (h : d < 36) : dig d ≠ 45 := dig_zero_fin ⟨d, h⟩
/-- A text read in a base. -/
def rd (b : Nat) : List UInt8 → Nat := List.foldl (fun n c => n * b + undig c) 0
theorem rd_snoc (b : Nat) (l : List UInt8) (c : UInt8) : rd b (l ++ [c]) = rd b l * b + undig c := by unfold rd; rw [List.foldl_append]; rfl
theorem rd_digs {b : Nat} (hb : 2 ≤ b) (h36 : b ≤ 36) (u : Nat) : rd b (digs b u) = u := by
  induction u using Nat.strongRecOn with
  | ind u ih =>
    by_cases h : u < b
    · rw [digs_small h]
      show 0 * b + undig (dig u) = u
      rw [undig_dig (by omega)]
      omega
    · rw [digs_big hb (by omega), rd_snoc, ih (u / b) (Nat.div_lt_self (by omega) (by omega)), undig_dig (Nat.lt_of_lt_of_le (Nat.mod_lt _ (by omega)) h36), Nat.mul_comm]
      exact Nat.div_add_mod u b
theorem rd_take {b : Nat} (hb : 2 ≤ b) (h36 : b ≤ 36) (u : Nat) : ∀ k, rd b ((digs b u).take k) ≤ u := by
  induction u using Nat.strongRecOn with
  | ind u ih =>
    intro k
    by_cases h : u < b
    · rw [digs_small h]
      match k with
      | 0 => exact Nat.zero_le _
      | k + 1 =>
        rw [List.take_of_length_le (by simp)]
        show 0 * b + undig (dig u) ≤ u
        rw [undig_dig (by omega)]
        omega
    · by_cases hk : k ≤ (digs b (u / b)).length
      · rw [digs_big hb (by omega), List.take_append_of_le_length hk]
        exact Nat.le_trans (ih (u / b) (Nat.div_lt_self (by omega) (by omega)) k) (Nat.div_le_self _ _)
      · have : (digs b u).take k = digs b u := by
          rw [List.take_of_length_le]
          rw [digs_big hb (by omega)]
          simp
          omega
        rw [this, rd_digs hb h36]
        exact Nat.le_refl _
theorem digs_len_pos (b u : Nat) : 0 < (digs b u).length := by
  rw [digs]
  split
  · simp
  · simp
theorem digs_len {b : Nat} (hb : 2 ≤ b) : ∀ (k u : Nat), u < 2 ^ (k + 1) → (digs b u).length ≤ k + 1
  | 0, u, h => by rw [digs_small (show u < b by simp at h; omega)]; simp
  | k + 1, u, h => by
    by_cases hu : u < b
    · rw [digs_small hu]; simp
    · have h2 : u / b < 2 ^ (k + 1) := by
        refine Nat.div_lt_of_lt_mul ?_
        calc u < 2 ^ (k + 1 + 1) := h
          _ = 2 * 2 ^ (k + 1) := by rw [Nat.pow_succ]; omega
          _ ≤ b * 2 ^ (k + 1) := Nat.mul_le_mul_right _ hb
      rw [digs_big hb (by omega)]
      have := digs_len hb k (u / b) h2
      simp
      omega
/-- Each sign is one of a digit of the base; the first is no nought, where there are more. -/
theorem digs_at {b : Nat} (hb : 2 ≤ b) (hb36 : b ≤ 36) (u : Nat) : ∀ i (h : i < (digs b u).length), ∃ d, d < b ∧ (digs b u)[i] = dig d ∧ (i = 0 → 1 < (digs b u).length → d ≠ 0) := by
  induction u using Nat.strongRecOn with
  | ind u ih =>
    intro i hi
    by_cases h : u < b
    · have e := digs_small h
      have hl : (digs b u).length = 1 := by rw [e]; rfl
      have h0 : i = 0 := by omega
      subst h0
      refine ⟨u, h, ?_, fun _ hq => by omega⟩
      simp only [e, List.getElem_cons_zero]
    · have e := digs_big hb (show b ≤ u by omega)
      have hq : 0 < u / b := Nat.div_pos (by omega) (by omega)
      by_cases hk : i < (digs b (u / b)).length
      · obtain ⟨d, h1, h2, h3⟩ := ih (u / b) (Nat.div_lt_self (by omega) (by omega)) i hk
        refine ⟨d, h1, ?_, fun h0 _ => ?_⟩
        · simp only [e, List.getElem_append_left hk, h2]
        · by_cases h1' : 1 < (digs b (u / b)).length
          · exact h3 h0 h1'
          · intro hd
            subst h0
            subst hd
            by_cases hs : u / b < b
            · have e2 := digs_small hs
              simp only [e2, List.getElem_cons_zero] at h2
              have hx := congrArg undig h2
              rw [undig_dig (by omega)] at hx
              have : undig (dig 0) = 0 := by decide
              omega
            · have hl2 : (digs b (u / b)).length = (digs b (u / b / b)).length + 1 := by rw [digs_big hb (by omega)]; simp
              have := digs_len_pos b (u / b / b)
              omega
      · refine ⟨u % b, Nat.mod_lt _ (by omega), ?_, fun h0 _ => ?_⟩
        · have hl : i = (digs b (u / b)).length := by rw [e] at hi; simp at hi; omega
          subst hl
          simp only [e, List.getElem_concat_length]
        · have := digs_len_pos b (u / b)
          omega
end Go.Proofs.YtpkgngpmnapdoaaDoor
