/- FnIdealOnce: the walk of the law. For every Value. -/
import Derived.Test.YtamlkedkmehfcaaRRRRConc
import Derived.Test.YtamlkedkmehfcaaRRRRIdeal
import Derived.Test.YtamlkedkmehfcaaRRRRSame
import Derived.Deep.RegionHeld3
namespace Go.Proofs.YtamlkedkmehfcaaRRRR
open Go.RowKit
set_option linter.unusedVariables false
set_option linter.unusedSimpArgs false
attribute [local go_sem] store_flt

theorem ideal_of_K {a b : V} (h : a.K = b.K) : a.ideal = b.ideal := by
  rcases a with _ | b1 | ⟨k1, n1⟩ | ⟨k1, d1⟩ | s1 | s1 | n1 | n1 | n1 | d1 <;> (try cases k1) <;> rcases b with _ | b2 | ⟨k2, n2⟩ | ⟨k2, d2⟩ | s2 | s2 | n2 | n2 | n2 | d2 <;> (try cases k2) <;> first | rfl | (simp [V.K] at h)
set_option maxRecDepth 100000 in
set_option maxHeartbeats 1000000 in
theorem ideals_any (w : World) : Calls Try.prog 14 #[] w fun e w' => e = .returned (.bool true) ∧ Below w.heap.size w w' := by
  go_enter Try.func14, Try.ntmps14
  go_wp2_with fail
  refine (Ideal_any (.iInt 1) ⟨by decide, by decide⟩ _).mono ?_
  rintro e w1 ⟨v', hl, rfl, hb1⟩
  have HL := Lib.hid hl
  clear hl
  go_wp2_with fail
  refine (num_any 1 _).mono ?_
  rintro e w2 ⟨rfl, hb2⟩
  go_wp2_with fail
  refine (same_any v' (.int .i64 1) HL.out.K HL.out.N HL.out.U HL.out.F HL.out.S _).mono ?_
  rintro e w3 ⟨rfl, hb3⟩
  have HB := Lib.hid ((hb1.trans (hb2.mono hb1.size)).trans (hb3.mono (Nat.le_trans hb1.size hb2.size)))
  go_wp2_with fail
  go_ret
  exact ⟨rfl, HB.out⟩
def LawPost (w : World) (e : Ending) (w' : World) : Prop := e = .returned (.bool true) ∧ Below w.heap.size w w'
/-- The one parameter's own cells, as long as nothing below turns. -/
theorem one_cells {w wi : World} {A : Array Value} {t : TypeId} (h : Below (w.alloc (.cells A t)).heap.size (w.alloc (.cells A t)) wi) : ∀ j, wi.cell? ⟨w.heap.size, j, none⟩ = A[j]? := by
  intro j
  rw [h.cell (p := ⟨w.heap.size, j, none⟩) (by simp)]
  have e : (w.alloc (.cells A t)).heap[w.heap.size]? = some (.cells A t (0, 0)) := by
    show (w.heap.push _)[w.heap.size]? = _
    simp
  rw [cell_of_row _ _ j _ _ _ e]
set_option maxRecDepth 100000 in
set_option maxHeartbeats 4000000 in
theorem walk_ideal (k : ByteArray) (n u : Int) (f : Nat) (s : ByteArray)
    (a1 : -9223372036854775808 ≤ n) (a2 : n ≤ 9223372036854775807) (a3 : 0 ≤ u) (a4 : u ≤ 18446744073709551615) (w : World) :
    Calls Try.prog 5 #[.agg #[.string k, .int .i64 n, .int .u64 u, .float .f64 f, .string s]] w (LawPost w) := by
  go_enter Try.func5, Try.ntmps5
  have B0 : Below w.heap.size w (w.alloc (.cells #[.string k, .int .i64 n, .int .u64 u, .float .f64 f, .string s] 29)) := (Below.refl _ _).alloc (Nat.le_refl _) _
  go_wp2_with fail
  refine (fits_any _ _ _ _ _ _).mono ?_
  rintro e w1 ⟨b1, rfl, hb1⟩
  have W1 := hb1
  have ca := one_cells W1
  clear hb1
  cases b1 with
  | false =>
    go_wp2
    go_ret
    exact ⟨rfl, B0.trans (W1.mono B0.size)⟩
  | true =>
  go_wp2_with fail
  refine (valid_any _ _ _ _ _ a1 a2 a3 a4 _).mono ?_
  rintro e w2 ⟨b2, rfl, hiff, hb2⟩
  have HI := Lib.hid hiff
  clear hiff
  have W2 := W1.trans (hb2.mono W1.size)
  clear ca
  have ca := one_cells W2
  clear hb2
  cases b2 with
  | false =>
    go_wp2_with fail
    refine (ideals_any _).mono ?_
    rintro e w3 ⟨rfl, hb3⟩
    have HB := Lib.hid (B0.trans ((W2.trans (hb3.mono W2.size)).mono B0.size))
    go_wp2
    go_ret
    exact ⟨rfl, HB.out⟩
  | true =>
  obtain ⟨v, hv, rfl, rfl, rfl, rfl, rfl⟩ := HI.out.1 (by trivial)
  clear HI a1 a2 a3 a4
  have HV := Lib.hid hv
  clear hv
  go_wp2_with fail
  refine (Ideal_any v HV.out _).mono ?_
  rintro e w3 ⟨v1, hl, rfl, hb3⟩
  have HL := Lib.hid hl
  have W3 := W2.trans (hb3.mono W2.size)
  clear ca
  have ca := one_cells W3
  have hz : w.heap.size < w3.heap.size := by have := W3.size; simp at this; omega
  have HD := Lib.hid (show v1.deal.K = v1.K ∧ v1.deal.N = v1.N ∧ v1.deal.U = v1.U ∧ bitsB v1.deal.F = bitsB v1.F ∧ v1.deal.S = v1.S by
    have hi : v1.ideal = false := (ideal_of_K hl.K).trans (V.deal_ideal v)
    rw [V.deal_stays v1 hi]
    exact ⟨rfl, rfl, rfl, rfl, rfl⟩)
  have hi1 : v1.ideal = false := (ideal_of_K hl.K).trans (V.deal_ideal v)
  have hd := V.deal_fields v
  have hN : (v1.N == v.N) = true := by rw [hl.N, hd.1]; simp
  have hU : (v1.U == v.U) = true := by rw [hl.U, hd.2.1]; simp
  have hF : (((bitsB v1.F : Nat) : Int) == ((bitsB v.F : Nat) : Int)) = true := by rw [hl.F, hd.2.2.1]; simp
  have HK0 := Lib.hid (show v.ideal = false → (v.K = v1.K ∧ v.N = v1.N ∧ v.U = v1.U ∧ bitsB v.F = bitsB v1.F ∧ v.S = v1.S) from fun hi => by
    have e := V.deal_stays v hi
    have hk := hl.K
    rw [e] at hk
    have hs := hl.S
    rw [hd.2.2.2] at hs
    exact ⟨hk.symm, (hl.N.trans hd.1).symm, (hl.U.trans hd.2.1).symm, (by rw [hl.F, hd.2.2.1]), hs.symm⟩)
  clear hd hl hb3
  have HW := Lib.hid (B0.trans (W3.mono B0.size))
  clear W3 W2 W1 B0
  have X0 : Below w3.heap.size w3 (w3.alloc (.cells #[.string v1.K, .int .i64 v1.N, .int .u64 v1.U, .float .f64 v1.F, .string v1.S] 29)) := (Below.refl _ _).alloc (Nat.le_refl _) _
  have X1 : ∀ j, (w3.alloc (.cells #[.string v1.K, .int .i64 v1.N, .int .u64 v1.U, .float .f64 v1.F, .string v1.S] 29)).cell? ⟨w.heap.size, j, none⟩ = (#[.string v.K, .int .i64 v.N, .int .u64 v.U, .float .f64 v.F, .string v.S] : Array Value)[j]? := fun j => (X0.cell (p := ⟨w.heap.size, j, none⟩) hz).trans (ca j)
  have X2 : ∀ j, (w3.alloc (.cells #[.string v1.K, .int .i64 v1.N, .int .u64 v1.U, .float .f64 v1.F, .string v1.S] 29)).cell? ⟨w3.heap.size, j, none⟩ = (#[.string v1.K, .int .i64 v1.N, .int .u64 v1.U, .float .f64 v1.F, .string v1.S] : Array Value)[j]? := one_cells (Below.refl _ _)
  have X3 : w3.heap.size < (w3.alloc (.cells #[.string v1.K, .int .i64 v1.N, .int .u64 v1.U, .float .f64 v1.F, .string v1.S] 29)).heap.size := by simp
  have HX := Lib.hid X0
  clear ca X0
  cases hi : v.ideal with
  | true =>
    clear HK0
    go_wp2_with fail
    generalize w3.alloc (.cells #[.string v1.K, .int .i64 v1.N, .int .u64 v1.U, .float .f64 v1.F, .string v1.S] 29) = w4 at *
    have hd0 : Below w4.heap.size w4 w4.drew := (Below.refl _ _).drew
    have hz4 : w.heap.size < w4.heap.size := by omega
    refine wp_region_held_drew (S := fun w' => w'.cell? ⟨w.heap.size, 0, none⟩ = some (.string v.K) ∧ w'.cell? ⟨w.heap.size, 1, none⟩ = some (.int .i64 v.N) ∧ w'.cell? ⟨w.heap.size, 2, none⟩ = some (.int .u64 v.U) ∧ w'.cell? ⟨w.heap.size, 3, none⟩ = some (.float .f64 v.F) ∧ w'.cell? ⟨w.heap.size, 4, none⟩ = some (.string v.S) ∧ w'.cell? ⟨w3.heap.size, 0, none⟩ = some (.string v1.K) ∧ w'.cell? ⟨w3.heap.size, 1, none⟩ = some (.int .i64 v1.N) ∧ w'.cell? ⟨w3.heap.size, 2, none⟩ = some (.int .u64 v1.U) ∧ w'.cell? ⟨w3.heap.size, 3, none⟩ = some (.float .f64 v1.F) ∧ w'.cell? ⟨w3.heap.size, 4, none⟩ = some (.string v1.S) ∧ w.heap.size < w'.heap.size ∧ w3.heap.size < w'.heap.size ∧ Below w4.heap.size w4 w') (by kernel_rfl) ?_ (fun hHeld => ?_)
    · first | exact keep_two hd0 (by assumption) | go_keep
    refine wpAnyH_take (i := 0) (v := ?v0) rfl (by kernel_rfl) (by kernel_rfl) (by kernel_rfl) (fun _ _ _ h => h) (Or.inl ⟨by rfl, ?hy0⟩) (by assumption) ?rest0
    case hy0 =>
      (intro w hSw; (try dsimp only at hSw); go_simp) <;> with_reducible rfl
    (try simp only [Act.put, List.getElem_toArray, List.getElem_cons_zero, List.getElem_cons_succ, List.setIfInBounds_toArray, List.set_cons_zero, List.set_cons_succ])
    refine wpAnyH_take (i := 1) (v := ?v1) rfl (by kernel_rfl) (by kernel_rfl) (by kernel_rfl) (fun _ _ _ h => h) (Or.inl ⟨by rfl, ?hy1⟩) (by assumption) ?rest1
    case hy1 =>
      (intro w hSw; (try dsimp only at hSw); go_simp) <;> with_reducible rfl
    (try simp only [Act.put, List.getElem_toArray, List.getElem_cons_zero, List.getElem_cons_succ, List.setIfInBounds_toArray, List.set_cons_zero, List.set_cons_succ])
    refine wpAnyH_ready (rs := [2]) (by kernel_rfl) (by simp) ?_
    refine AllReadyH.cons rfl (fun K hK => ?_) AllReadyH.nil
    go_simp
    go_at_call 16
    with_reducible refine (isIdeal_any v1 _).mono ?_
    rintro e w' ⟨rfl, rfl⟩
    go_wp2_with fail
    refine hK.out _ _ ?_ (fun hHeld1 => ?_)
    · (try dsimp only)
      exact hHeld
    clear hK K hHeld
    have hHeld := hHeld1
    clear hHeld1
    (try simp only [Act.put, List.getElem_toArray, List.getElem_cons_zero, List.getElem_cons_succ, List.setIfInBounds_toArray, List.set_cons_zero, List.set_cons_succ])
    refine wpAnyH_take (i := 3) (v := ?v3) rfl (by kernel_rfl) (by kernel_rfl) (by kernel_rfl) (fun _ _ _ h => h) (Or.inl ⟨by rfl, ?hy3⟩) (by assumption) ?rest3
    case hy3 =>
      (intro w hSw; (try dsimp only at hSw); go_simp) <;> with_reducible rfl
    (try simp only [Act.put, List.getElem_toArray, List.getElem_cons_zero, List.getElem_cons_succ, List.setIfInBounds_toArray, List.set_cons_zero, List.set_cons_succ])
    refine wpAnyH_take (i := 4) (v := ?v4) rfl (by kernel_rfl) (by kernel_rfl) (by kernel_rfl) (fun _ _ _ h => h) (Or.inl ⟨by rfl, ?hy4⟩) (by assumption) ?rest4
    case hy4 =>
      (intro w hSw; (try dsimp only at hSw); go_simp) <;> with_reducible rfl
    (try simp only [Act.put, List.getElem_toArray, List.getElem_cons_zero, List.getElem_cons_succ, List.setIfInBounds_toArray, List.set_cons_zero, List.set_cons_succ])
    refine wpAnyH_take (i := 5) (v := ?v5) rfl (by kernel_rfl) (by kernel_rfl) (by kernel_rfl) (fun _ _ _ h => h) (Or.inl ⟨by rfl, ?hy5⟩) (by assumption) ?rest5
    case hy5 =>
      (intro w hSw; (try dsimp only at hSw); go_simp) <;> with_reducible rfl
    (try simp only [Act.put, List.getElem_toArray, List.getElem_cons_zero, List.getElem_cons_succ, List.setIfInBounds_toArray, List.set_cons_zero, List.set_cons_succ])
    refine wpAnyH_take (i := 7) (v := ?v7) rfl (by kernel_rfl) (by kernel_rfl) (by kernel_rfl) (fun _ _ _ h => h) (Or.inl ⟨by rfl, ?hy7⟩) (by assumption) ?rest7
    case hy7 =>
      (intro w hSw; (try dsimp only at hSw); go_simp) <;> with_reducible rfl
    (try simp only [Act.put, List.getElem_toArray, List.getElem_cons_zero, List.getElem_cons_succ, List.setIfInBounds_toArray, List.set_cons_zero, List.set_cons_succ])
    refine wpAnyH_ready (rs := [6]) (by kernel_rfl) (by simp) ?_
    refine AllReadyH.cons rfl (fun K hK => ?_) AllReadyH.nil
    go_simp
    go_at_call 15
    with_reducible refine (Ideal_any v1 HL.out.ok _).mono ?_
    rintro e w' ⟨v2, hl2, rfl, hb⟩
    have HL2 := Lib.hid hl2
    clear hl2
    go_wp2_with fail
    refine hK.out _ _ ?_ (fun hHeld1 => ?_)
    · (try dsimp only)
      exact keep_two hb hHeld
    clear hK K hHeld
    have hHeld := hHeld1
    clear hHeld1
    (try simp only [Act.put, List.getElem_toArray, List.getElem_cons_zero, List.getElem_cons_succ, List.setIfInBounds_toArray, List.set_cons_zero, List.set_cons_succ])
    refine wpAnyH_ready (rs := [8]) (by kernel_rfl) (by simp) ?_
    refine AllReadyH.cons rfl (fun K hK => ?_) AllReadyH.nil
    go_simp
    go_at_call 17
    with_reducible refine (same_any v2 v1 (HL2.out.K.trans HD.out.1) (HL2.out.N.trans HD.out.2.1) (HL2.out.U.trans HD.out.2.2.1) (HL2.out.F.trans HD.out.2.2.2.1) (HL2.out.S.trans HD.out.2.2.2.2) _).mono ?_
    rintro e w' ⟨rfl, hb⟩
    go_wp2_with fail
    refine hK.out _ _ ?_ (fun hHeld1 => ?_)
    · (try dsimp only)
      exact keep_two hb hHeld
    clear hK K hHeld
    have hHeld := hHeld1
    clear hHeld1
    (try simp only [Act.put, List.getElem_toArray, List.getElem_cons_zero, List.getElem_cons_succ, List.setIfInBounds_toArray, List.set_cons_zero, List.set_cons_succ])
    refine wpAnyH_take (i := 9) (v := ?v9) rfl (by kernel_rfl) (by kernel_rfl) (by kernel_rfl) (fun _ _ _ h => h) (Or.inl ⟨by rfl, ?hy9⟩) (by assumption) ?rest9
    case hy9 =>
      (intro w hSw; (try dsimp only at hSw); go_simp) <;> with_reducible rfl
    (try simp only [Act.put, List.getElem_toArray, List.getElem_cons_zero, List.getElem_cons_succ, List.setIfInBounds_toArray, List.set_cons_zero, List.set_cons_succ])
    refine wpAnyH_take (i := 10) (v := ?v10) rfl (by kernel_rfl) (by kernel_rfl) (by kernel_rfl) (fun _ _ _ h => h) (Or.inl ⟨by rfl, ?hy10⟩) (by assumption) ?rest10
    case hy10 =>
      (intro w hSw; (try dsimp only at hSw); go_simp) <;> with_reducible rfl
    (try simp only [Act.put, List.getElem_toArray, List.getElem_cons_zero, List.getElem_cons_succ, List.setIfInBounds_toArray, List.set_cons_zero, List.set_cons_succ])
    refine wpAnyH_take (i := 11) (v := ?v11) rfl (by kernel_rfl) (by kernel_rfl) (by kernel_rfl) (fun _ _ _ h => h) (Or.inl ⟨by rfl, ?hy11⟩) (by assumption) ?rest11
    case hy11 =>
      (intro w hSw; (try dsimp only at hSw); go_simp) <;> with_reducible rfl
    (try simp only [Act.put, List.getElem_toArray, List.getElem_cons_zero, List.getElem_cons_succ, List.setIfInBounds_toArray, List.set_cons_zero, List.set_cons_succ])
    refine wpAnyH_take (i := 12) (v := ?v12) rfl (by kernel_rfl) (by kernel_rfl) (by kernel_rfl) (fun _ _ _ h => h) (Or.inl ⟨by rfl, ?hy12⟩) (by assumption) ?rest12
    case hy12 =>
      (intro w hSw; (try dsimp only at hSw); go_simp) <;> with_reducible rfl
    (try simp only [Act.put, List.getElem_toArray, List.getElem_cons_zero, List.getElem_cons_succ, List.setIfInBounds_toArray, List.set_cons_zero, List.set_cons_succ])
    refine wpAnyH_ready (rs := [13]) (by kernel_rfl) (by simp) ?_
    refine AllReadyH.cons rfl (fun K hK => ?_) AllReadyH.nil
    go_simp
    go_at_call 16
    with_reducible refine (isIdeal_any v _).mono ?_
    rintro e w' ⟨rfl, rfl⟩
    go_wp2_with fail
    refine hK.out _ _ ?_ (fun hHeld1 => ?_)
    · (try dsimp only)
      exact hHeld
    clear hK K hHeld
    have hHeld := hHeld1
    clear hHeld1
    (try simp only [Act.put, List.getElem_toArray, List.getElem_cons_zero, List.getElem_cons_succ, List.setIfInBounds_toArray, List.set_cons_zero, List.set_cons_succ])
    refine wpAnyH_take (i := 14) (v := ?v14) rfl (by kernel_rfl) (by kernel_rfl) (by kernel_rfl) (fun _ _ _ h => h) (Or.inl ⟨by rfl, ?hy14⟩) (by assumption) ?rest14
    case hy14 =>
      (intro w hSw; (try dsimp only at hSw); go_simp) <;> with_reducible rfl
    (try simp only [Act.put, List.getElem_toArray, List.getElem_cons_zero, List.getElem_cons_succ, List.setIfInBounds_toArray, List.set_cons_zero, List.set_cons_succ])
    refine wpAnyH_take (i := 15) (v := undef) rfl (by kernel_rfl) (by kernel_rfl) (by kernel_rfl) (fun _ _ _ h => h) (Or.inr ⟨by rfl, rfl⟩) (by assumption) ?_
    (try simp only [Act.put, List.getElem_toArray, List.getElem_cons_zero, List.getElem_cons_succ, List.setIfInBounds_toArray, List.set_cons_zero, List.set_cons_succ])
    refine wpAnyH_take (i := 16) (v := undef) rfl (by kernel_rfl) (by kernel_rfl) (by kernel_rfl) (fun _ _ _ h => h) (Or.inr ⟨by rfl, rfl⟩) (by assumption) ?_
    (try simp only [Act.put, List.getElem_toArray, List.getElem_cons_zero, List.getElem_cons_succ, List.setIfInBounds_toArray, List.set_cons_zero, List.set_cons_succ])
    refine wpAnyH_take (i := 17) (v := undef) rfl (by kernel_rfl) (by kernel_rfl) (by kernel_rfl) (fun _ _ _ h => h) (Or.inr ⟨by rfl, rfl⟩) (by assumption) ?_
    (try simp only [Act.put, List.getElem_toArray, List.getElem_cons_zero, List.getElem_cons_succ, List.setIfInBounds_toArray, List.set_cons_zero, List.set_cons_succ])
    refine wpAnyH_take (i := 18) (v := ?v18) rfl (by kernel_rfl) (by kernel_rfl) (by kernel_rfl) (fun _ _ _ h => h) (Or.inl ⟨by rfl, ?hy18⟩) (by assumption) ?rest18
    case hy18 =>
      (intro w hSw; (try dsimp only at hSw); go_simp) <;> with_reducible rfl
    (try simp only [Act.put, List.getElem_toArray, List.getElem_cons_zero, List.getElem_cons_succ, List.setIfInBounds_toArray, List.set_cons_zero, List.set_cons_succ])
    refine wpAnyH_take (i := 19) (v := ?v19) rfl (by kernel_rfl) (by kernel_rfl) (by kernel_rfl) (fun _ _ _ h => h) (Or.inl ⟨by rfl, ?hy19⟩) (by assumption) ?rest19
    case hy19 =>
      (intro w hSw; (try dsimp only at hSw); go_simp) <;> with_reducible rfl
    (try simp only [Act.put, List.getElem_toArray, List.getElem_cons_zero, List.getElem_cons_succ, List.setIfInBounds_toArray, List.set_cons_zero, List.set_cons_succ])
    refine wpAnyH_take (i := 20) (v := ?v20) rfl (by kernel_rfl) (by kernel_rfl) (by kernel_rfl) (fun _ _ _ h => h) (Or.inl ⟨by rfl, ?hy20⟩) (by assumption) ?rest20
    case hy20 =>
      (intro w hSw; (try dsimp only at hSw); go_simp) <;> with_reducible rfl
    (try simp only [Act.put, List.getElem_toArray, List.getElem_cons_zero, List.getElem_cons_succ, List.setIfInBounds_toArray, List.set_cons_zero, List.set_cons_succ])
    refine wpAnyH_take (i := 21) (v := ?v21) rfl (by kernel_rfl) (by kernel_rfl) (by kernel_rfl) (fun _ _ _ h => h) (Or.inl ⟨by rfl, ?hy21⟩) (by assumption) ?rest21
    case hy21 =>
      (intro w hSw; (try dsimp only at hSw); go_simp) <;> with_reducible rfl
    (try simp only [Act.put, List.getElem_toArray, List.getElem_cons_zero, List.getElem_cons_succ, List.setIfInBounds_toArray, List.set_cons_zero, List.set_cons_succ])
    refine wpAnyH_take (i := 22) (v := ?v22) rfl (by kernel_rfl) (by kernel_rfl) (by kernel_rfl) (fun _ _ _ h => h) (Or.inl ⟨by rfl, ?hy22⟩) (by assumption) ?rest22
    case hy22 =>
      (intro w hSw; (try dsimp only at hSw); go_simp) <;> with_reducible rfl
    (try simp only [Act.put, List.getElem_toArray, List.getElem_cons_zero, List.getElem_cons_succ, List.setIfInBounds_toArray, List.set_cons_zero, List.set_cons_succ])
    refine wpAnyH_take (i := 23) (v := ?v23) rfl (by kernel_rfl) (by kernel_rfl) (by kernel_rfl) (fun _ _ _ h => h) (Or.inl ⟨by rfl, ?hy23⟩) (by assumption) ?rest23
    case hy23 =>
      (intro w hSw; (try dsimp only at hSw); go_simp) <;> with_reducible rfl
    (try simp only [Act.put, List.getElem_toArray, List.getElem_cons_zero, List.getElem_cons_succ, List.setIfInBounds_toArray, List.set_cons_zero, List.set_cons_succ])
    refine wpAnyH_take (i := 24) (v := ?v24) rfl (by kernel_rfl) (by kernel_rfl) (by kernel_rfl) (fun _ _ _ h => h) (Or.inl ⟨by rfl, ?hy24⟩) (by assumption) ?rest24
    case hy24 =>
      (intro w hSw; (try dsimp only at hSw); go_simp) <;> with_reducible rfl
    (try simp only [Act.put, List.getElem_toArray, List.getElem_cons_zero, List.getElem_cons_succ, List.setIfInBounds_toArray, List.set_cons_zero, List.set_cons_succ])
    refine wpAnyH_take (i := 25) (v := ?v25) rfl (by kernel_rfl) (by kernel_rfl) (by kernel_rfl) (fun _ _ _ h => h) (Or.inl ⟨by rfl, ?hy25⟩) (by assumption) ?rest25
    case hy25 =>
      (intro w hSw; (try dsimp only at hSw); go_simp) <;> with_reducible rfl
    (try simp only [Act.put, List.getElem_toArray, List.getElem_cons_zero, List.getElem_cons_succ, List.setIfInBounds_toArray, List.set_cons_zero, List.set_cons_succ])
    refine wpAnyH_take (i := 26) (v := ?v26) rfl (by kernel_rfl) (by kernel_rfl) (by kernel_rfl) (fun _ _ _ h => h) (Or.inl ⟨by rfl, ?hy26⟩) (by assumption) ?rest26
    case hy26 =>
      (intro w hSw; (try dsimp only at hSw); go_simp) <;> with_reducible rfl
    (try simp only [Act.put, List.getElem_toArray, List.getElem_cons_zero, List.getElem_cons_succ, List.setIfInBounds_toArray, List.set_cons_zero, List.set_cons_succ])
    refine wpAnyH_take (i := 27) (v := ?v27) rfl (by kernel_rfl) (by kernel_rfl) (by kernel_rfl) (fun _ _ _ h => h) (Or.inl ⟨by rfl, ?hy27⟩) (by assumption) ?rest27
    case hy27 =>
      (intro w hSw; (try dsimp only at hSw); go_simp) <;> with_reducible rfl
    (try simp only [Act.put, List.getElem_toArray, List.getElem_cons_zero, List.getElem_cons_succ, List.setIfInBounds_toArray, List.set_cons_zero, List.set_cons_succ])
    refine wpAnyH_take (i := 28) (v := ?v28) rfl (by kernel_rfl) (by kernel_rfl) (by kernel_rfl) (fun _ _ _ h => h) (Or.inl ⟨by rfl, ?hy28⟩) (by assumption) ?rest28
    case hy28 =>
      (intro w hSw; (try dsimp only at hSw); go_simp) <;> with_reducible rfl
    (try simp only [Act.put, List.getElem_toArray, List.getElem_cons_zero, List.getElem_cons_succ, List.setIfInBounds_toArray, List.set_cons_zero, List.set_cons_succ])
    refine wpAnyH_take (i := 29) (v := ?v29) rfl (by kernel_rfl) (by kernel_rfl) (by kernel_rfl) (fun _ _ _ h => h) (Or.inl ⟨by rfl, ?hy29⟩) (by assumption) ?rest29
    case hy29 =>
      (intro w hSw; (try dsimp only at hSw); go_simp) <;> with_reducible rfl
    (try simp only [Act.put, List.getElem_toArray, List.getElem_cons_zero, List.getElem_cons_succ, List.setIfInBounds_toArray, List.set_cons_zero, List.set_cons_succ])
    refine wpAnyH_take (i := 30) (v := ?v30) rfl (by kernel_rfl) (by kernel_rfl) (by kernel_rfl) (fun _ _ _ h => h) (Or.inl ⟨by rfl, ?hy30⟩) (by assumption) ?rest30
    case hy30 =>
      (intro w hSw; (try dsimp only at hSw); go_simp) <;> with_reducible rfl
    (try simp only [Act.put, List.getElem_toArray, List.getElem_cons_zero, List.getElem_cons_succ, List.setIfInBounds_toArray, List.set_cons_zero, List.set_cons_succ])
    refine wpAnyH_take (i := 31) (v := ?v31) rfl (by kernel_rfl) (by kernel_rfl) (by kernel_rfl) (fun _ _ _ h => h) (Or.inl ⟨by rfl, ?hy31⟩) (by assumption) ?rest31
    case hy31 =>
      (intro w hSw; (try dsimp only at hSw); go_simp) <;> with_reducible rfl
    (try simp only [Act.put, List.getElem_toArray, List.getElem_cons_zero, List.getElem_cons_succ, List.setIfInBounds_toArray, List.set_cons_zero, List.set_cons_succ])
    refine wpAnyH_take (i := 32) (v := ?v32) rfl (by kernel_rfl) (by kernel_rfl) (by kernel_rfl) (fun _ _ _ h => h) (Or.inl ⟨by rfl, ?hy32⟩) (by assumption) ?rest32
    case hy32 =>
      (intro w hSw; (try dsimp only at hSw); go_simp) <;> with_reducible rfl
    (try simp only [Act.put, List.getElem_toArray, List.getElem_cons_zero, List.getElem_cons_succ, List.setIfInBounds_toArray, List.set_cons_zero, List.set_cons_succ])
    refine wpAnyH_take (i := 33) (v := ?v33) rfl (by kernel_rfl) (by kernel_rfl) (by kernel_rfl) (fun _ _ _ h => h) (Or.inl ⟨by rfl, ?hy33⟩) (by assumption) ?rest33
    case hy33 =>
      (intro w hSw; (try dsimp only at hSw); go_simp) <;> with_reducible rfl
    (try simp only [Act.put, List.getElem_toArray, List.getElem_cons_zero, List.getElem_cons_succ, List.setIfInBounds_toArray, List.set_cons_zero, List.set_cons_succ])
    refine wpAnyH_take (i := 34) (v := ?v34) rfl (by kernel_rfl) (by kernel_rfl) (by kernel_rfl) (fun _ _ _ h => h) (Or.inl ⟨by rfl, ?hy34⟩) (by assumption) ?rest34
    case hy34 =>
      (intro w hSw; (try dsimp only at hSw); go_simp) <;> with_reducible rfl
    (try simp only [Act.put, List.getElem_toArray, List.getElem_cons_zero, List.getElem_cons_succ, List.setIfInBounds_toArray, List.set_cons_zero, List.set_cons_succ])
    refine wpAnyH_take (i := 35) (v := ?v35) rfl (by kernel_rfl) (by kernel_rfl) (by kernel_rfl) (fun _ _ _ h => h) (Or.inl ⟨by rfl, ?hy35⟩) (by assumption) ?rest35
    case hy35 =>
      (intro w hSw; (try dsimp only at hSw); go_simp) <;> with_reducible rfl
    (try simp only [Act.put, List.getElem_toArray, List.getElem_cons_zero, List.getElem_cons_succ, List.setIfInBounds_toArray, List.set_cons_zero, List.set_cons_succ])
    refine wpAnyH_take (i := 36) (v := ?v36) rfl (by kernel_rfl) (by kernel_rfl) (by kernel_rfl) (fun _ _ _ h => h) (Or.inl ⟨by rfl, ?hy36⟩) (by assumption) ?rest36
    case hy36 =>
      (intro w hSw; (try dsimp only at hSw); go_simp) <;> with_reducible rfl
    (try simp only [Act.put, List.getElem_toArray, List.getElem_cons_zero, List.getElem_cons_succ, List.setIfInBounds_toArray, List.set_cons_zero, List.set_cons_succ])
    refine wpAnyH_take (i := 38) (v := ?v38) rfl (by kernel_rfl) (by kernel_rfl) (by kernel_rfl) (fun _ _ _ h => h) (Or.inl ⟨by rfl, ?hy38⟩) (by assumption) ?rest38
    case hy38 =>
      (intro w hSw; (try dsimp only at hSw); go_simp) <;> with_reducible rfl
    (try simp only [Act.put, List.getElem_toArray, List.getElem_cons_zero, List.getElem_cons_succ, List.setIfInBounds_toArray, List.set_cons_zero, List.set_cons_succ])
    refine wpAnyH_take (i := 39) (v := ?v39) rfl (by kernel_rfl) (by kernel_rfl) (by kernel_rfl) (fun _ _ _ h => h) (Or.inl ⟨by rfl, ?hy39⟩) (by assumption) ?rest39
    case hy39 =>
      (intro w hSw; (try dsimp only at hSw); go_simp) <;> with_reducible rfl
    (try simp only [Act.put, List.getElem_toArray, List.getElem_cons_zero, List.getElem_cons_succ, List.setIfInBounds_toArray, List.set_cons_zero, List.set_cons_succ])
    refine wpAnyH_ready (rs := [37]) (by kernel_rfl) (by simp) ?_
    refine AllReadyH.cons rfl (fun K hK => ?_) AllReadyH.nil
    go_simp
    go_at_call 18
    with_reducible refine (bits_any _ _).mono ?_
    rintro e w' ⟨rfl, rfl⟩
    go_wp2_with fail
    refine hK.out _ _ ?_ (fun hHeld1 => ?_)
    · (try dsimp only)
      exact hHeld
    clear hK K hHeld
    have hHeld := hHeld1
    clear hHeld1
    (try simp only [Act.put, List.getElem_toArray, List.getElem_cons_zero, List.getElem_cons_succ, List.setIfInBounds_toArray, List.set_cons_zero, List.set_cons_succ])
    refine wpAnyH_ready (rs := [40]) (by kernel_rfl) (by simp) ?_
    refine AllReadyH.cons rfl (fun K hK => ?_) AllReadyH.nil
    go_simp
    go_at_call 18
    with_reducible refine (bits_any _ _).mono ?_
    rintro e w' ⟨rfl, rfl⟩
    go_wp2_with fail
    refine hK.out _ _ ?_ (fun hHeld1 => ?_)
    · (try dsimp only)
      exact hHeld
    clear hK K hHeld
    have hHeld := hHeld1
    clear hHeld1
    (try simp only [Act.put, List.getElem_toArray, List.getElem_cons_zero, List.getElem_cons_succ, List.setIfInBounds_toArray, List.set_cons_zero, List.set_cons_succ])
    refine wpAnyH_take (i := 41) (v := ?v41) rfl (by kernel_rfl) (by kernel_rfl) (by kernel_rfl) (fun _ _ _ h => h) (Or.inl ⟨by rfl, ?hy41⟩) (by assumption) ?rest41
    case hy41 =>
      (intro w hSw; (try dsimp only at hSw); go_simp) <;> with_reducible rfl
    (try simp only [Act.put, List.getElem_toArray, List.getElem_cons_zero, List.getElem_cons_succ, List.setIfInBounds_toArray, List.set_cons_zero, List.set_cons_succ])
    refine wpAnyH_take (i := 42) (v := ?v42) rfl (by kernel_rfl) (by kernel_rfl) (by kernel_rfl) (fun _ _ _ h => h) (Or.inl ⟨by rfl, ?hy42⟩) (by assumption) ?rest42
    case hy42 =>
      (intro w hSw; (try dsimp only at hSw); go_simp) <;> with_reducible rfl
    (try simp only [Act.put, List.getElem_toArray, List.getElem_cons_zero, List.getElem_cons_succ, List.setIfInBounds_toArray, List.set_cons_zero, List.set_cons_succ])
    refine wpAnyH_take (i := 43) (v := ?v43) rfl (by kernel_rfl) (by kernel_rfl) (by kernel_rfl) (fun _ _ _ h => h) (Or.inl ⟨by rfl, ?hy43⟩) (by assumption) ?rest43
    case hy43 =>
      (intro w hSw; (try dsimp only at hSw); go_simp) <;> with_reducible rfl
    (try simp only [Act.put, List.getElem_toArray, List.getElem_cons_zero, List.getElem_cons_succ, List.setIfInBounds_toArray, List.set_cons_zero, List.set_cons_succ])
    refine wpAnyH_ready (rs := [44]) (by kernel_rfl) (by simp) ?_
    refine AllReadyH.cons rfl (fun K hK => ?_) AllReadyH.nil
    go_simp
    go_at_call 14
    with_reducible refine (ideals_any _).mono ?_
    rintro e w' ⟨rfl, hb⟩
    go_wp2_with fail
    refine hK.out _ _ ?_ (fun hHeld1 => ?_)
    · (try dsimp only)
      exact keep_two hb hHeld
    clear hK K hHeld
    have hHeld := hHeld1
    clear hHeld1
    (try simp only [Act.put, List.getElem_toArray, List.getElem_cons_zero, List.getElem_cons_succ, List.setIfInBounds_toArray, List.set_cons_zero, List.set_cons_succ])
    refine wpAnyH_take (i := 45) (v := ?v45) rfl (by kernel_rfl) (by kernel_rfl) (by kernel_rfl) (fun _ _ _ h => h) (Or.inl ⟨by rfl, ?hy45⟩) (by assumption) ?rest45
    case hy45 =>
      (intro w hSw; (try dsimp only at hSw); go_simp) <;> with_reducible rfl
    (try simp only [Act.put, List.getElem_toArray, List.getElem_cons_zero, List.getElem_cons_succ, List.setIfInBounds_toArray, List.set_cons_zero, List.set_cons_succ])
    refine wpAnyH_take (i := 46) (v := ?v46) rfl (by kernel_rfl) (by kernel_rfl) (by kernel_rfl) (fun _ _ _ h => h) (Or.inl ⟨by rfl, ?hy46⟩) (by assumption) ?rest46
    case hy46 =>
      (intro w hSw; (try dsimp only at hSw); go_simp) <;> with_reducible rfl
    (try simp only [Act.put, List.getElem_toArray, List.getElem_cons_zero, List.getElem_cons_succ, List.setIfInBounds_toArray, List.set_cons_zero, List.set_cons_succ])
    refine wpAnyH_done (by kernel_rfl) ?_ _

    go_wp2
    go_ret
    exact ⟨rfl, (HW.out.trans (HX.out.mono HW.out.size)).trans ((last_two (by assumption)).mono (by have := HW.out.size; have := HX.out.size; omega))⟩
  | false =>
    have HK := HK0.out hi
    go_wp2_with fail
    generalize w3.alloc (.cells #[.string v1.K, .int .i64 v1.N, .int .u64 v1.U, .float .f64 v1.F, .string v1.S] 29) = w4 at *
    have hd0 : Below w4.heap.size w4 w4.drew := (Below.refl _ _).drew
    have hz4 : w.heap.size < w4.heap.size := by omega
    have HK1 := Lib.hid HK
    clear HK HK0
    go_region_held3 (fun w' => w'.cell? ⟨w.heap.size, 0, none⟩ = some (.string v.K) ∧ w'.cell? ⟨w.heap.size, 1, none⟩ = some (.int .i64 v.N) ∧ w'.cell? ⟨w.heap.size, 2, none⟩ = some (.int .u64 v.U) ∧ w'.cell? ⟨w.heap.size, 3, none⟩ = some (.float .f64 v.F) ∧ w'.cell? ⟨w.heap.size, 4, none⟩ = some (.string v.S) ∧ w'.cell? ⟨w3.heap.size, 0, none⟩ = some (.string v1.K) ∧ w'.cell? ⟨w3.heap.size, 1, none⟩ = some (.int .i64 v1.N) ∧ w'.cell? ⟨w3.heap.size, 2, none⟩ = some (.int .u64 v1.U) ∧ w'.cell? ⟨w3.heap.size, 3, none⟩ = some (.float .f64 v1.F) ∧ w'.cell? ⟨w3.heap.size, 4, none⟩ = some (.string v1.S) ∧ w.heap.size < w'.heap.size ∧ w3.heap.size < w'.heap.size ∧ Below w4.heap.size w4 w') (first | exact keep_two hb (by assumption) | go_keep) (first | (go_at_call 16; (with_reducible refine (isIdeal_any v1 _).mono ?_); rintro e w' ⟨rfl, rfl⟩) | (go_at_call 16; (with_reducible refine (isIdeal_any v _).mono ?_); rintro e w' ⟨rfl, rfl⟩) | (go_at_call 15; (with_reducible refine (Ideal_any v1 HL.out.ok _).mono ?_); rintro e w' ⟨v2, hl2, rfl, hb⟩; have HL2 := Lib.hid hl2; clear hl2) | (go_at_call 17; (with_reducible refine (same_any v2 v1 (HL2.out.K.trans HD.out.1) (HL2.out.N.trans HD.out.2.1) (HL2.out.U.trans HD.out.2.2.1) (HL2.out.F.trans HD.out.2.2.2.1) (HL2.out.S.trans HD.out.2.2.2.2) _).mono ?_); rintro e w' ⟨rfl, hb⟩) | (go_at_call 17; (with_reducible refine (same_any v v1 HK1.out.1 HK1.out.2.1 HK1.out.2.2.1 HK1.out.2.2.2.1 HK1.out.2.2.2.2 _).mono ?_); rintro e w' ⟨rfl, hb⟩) | (go_at_call 18; (with_reducible refine (bits_any _ _).mono ?_); rintro e w' ⟨rfl, rfl⟩) | (go_at_call 14; (with_reducible refine (ideals_any _).mono ?_); rintro e w' ⟨rfl, hb⟩))
    go_wp2
    go_ret
    exact ⟨rfl, (HW.out.trans (HX.out.mono HW.out.size)).trans ((last_two (by assumption)).mono (by have := HW.out.size; have := HX.out.size; omega))⟩
end Go.Proofs.YtamlkedkmehfcaaRRRR
