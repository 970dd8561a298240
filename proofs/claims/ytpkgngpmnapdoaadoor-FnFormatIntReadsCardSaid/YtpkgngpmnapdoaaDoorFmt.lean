/- FormatUint and FormatInt in every base from 2 to 36. -/
import Derived.Lib.LaidTab
import Derived.Test.YtpkgngpmnapdoaaDoorShelf
import Derived.Test.YtpkgngpmnapdoaaDoorFb
namespace Go.Proofs.YtpkgngpmnapdoaaDoor
open Go.RowKit
open Go.Sort (grow putRow Holds mapBlock cell?_putRow)
set_option linter.unusedVariables false
set_option linter.unusedSimpArgs false
set_option maxRecDepth 100000

theorem np_fin : ∀ b : Fin 37, 2 ≤ b.val → b.val ≠ 2 → b.val ≠ 4 → b.val ≠ 8 → b.val ≠ 16 → b.val ≠ 32 → ((bits .and .i64 (b.val : Int) ((b.val : Int) - 1)) == 0) = false := by decide +kernel
/-- The digits of the magnitude, behind a '-' where it is one of a number below 0: in every base but 10. -/
theorem fb_any (b u : Nat) (hb2 : 2 ≤ b) (hb36 : b ≤ 36) (hb10 : b ≠ 10) (hu : u < 18446744073709551616) (w : World) (hT : TzW w) :
    Calls Tryd.prog 92 #[.slice none 0 0, .int .u64 (u : Int), .int .i64 (b : Int), .bool false, .bool false] w (FbPost b u false w) := by
  by_cases h2 : b = 2
  · subst h2; exact fb_plain2 u hu w hT
  by_cases h4 : b = 4
  · subst h4; exact fb_plain4 u hu w hT
  by_cases h8 : b = 8
  · subst h8; exact fb_plain8 u hu w hT
  by_cases h16 : b = 16
  · subst h16; exact fb_plain16 u hu w hT
  by_cases h32 : b = 32
  · subst h32; exact fb_plain32 u hu w hT
  exact fb_plain b u hb2 hb36 hb10 (np_fin ⟨b, by omega⟩ hb2 h2 h4 h8 h16 h32) hu w
theorem fb_minus (b u : Nat) (hb2 : 2 ≤ b) (hb36 : b ≤ 36) (hb10 : b ≠ 10) (hu : u < 18446744073709551616) (U : Int) (hU : IntKind.u64.wrap (-U) = (u : Int)) (w : World) (hT : TzW w) :
    Calls Tryd.prog 92 #[.slice none 0 0, .int .u64 U, .int .i64 (b : Int), .bool true, .bool false] w (FbPost b u true w) := by
  by_cases h2 : b = 2
  · subst h2; exact fb_neg2 u hu U hU w hT
  by_cases h4 : b = 4
  · subst h4; exact fb_neg4 u hu U hU w hT
  by_cases h8 : b = 8
  · subst h8; exact fb_neg8 u hu U hU w hT
  by_cases h16 : b = 16
  · subst h16; exact fb_neg16 u hu U hU w hT
  by_cases h32 : b = 32
  · subst h32; exact fb_neg32 u hu U hU w hT
  exact fb_neg b u hb2 hb36 hb10 (np_fin ⟨b, by omega⟩ hb2 h2 h4 h8 h16 h32) hu U hU w
theorem dec_digs (u : Nat) : Lib.decDigits u = digs 10 u := by
  induction u using Nat.strongRecOn with
  | ind u ih =>
    by_cases h : u < 10
    · rw [Lib.decDigits, dif_pos h, digs_small h]
      unfold dig
      rw [if_pos h]
    · rw [Lib.decDigits, dif_neg h, digs_big (by decide) (by omega), ih (u / 10) (Nat.div_lt_self (by omega) (by decide))]
      unfold dig
      rw [if_pos (Nat.mod_lt _ (by decide))]
/-- The text of an integer in a base. -/
def itoaB (b : Nat) (n : Int) : List UInt8 := if n < 0 then 45 :: digs b n.natAbs else digs b n.toNat
theorem itoa_dec (n : Int) : Lib.itoa n = itoaB 10 n := by
  unfold Lib.itoa itoaB
  rw [dec_digs, dec_digs]
/-- What the digits are made of: math/bits's table and the powers of ten. -/
def FmtW (w : World) : Prop := TzW w ∧ (∀ w', Below w.heap.size w w' → Lib.TabIs Tryd.prog w' "internal/strconv.uint64pow10" .u64 Lib.pow10Tab)
theorem FmtW.below {w w' : World} (h : FmtW w) (hb : Below w.heap.size w w') : FmtW w' := ⟨h.1.below hb, fun w2 h2 => h.2 w2 (hb.trans (h2.mono hb.size))⟩
theorem below_row {α : Type} [Inhabited α] {enc : α → Value} {B : Nat} {w0 w : World} {blk off : Nat} {d : Array α} (h : Below B w0 w) (hg : B ≤ blk) : Below B w0 (putRow enc w blk off d) :=
  ⟨h.os, h.tape, h.output, by simpa [putRow, mapBlock] using h.size, fun k hk => by
    rw [← h.block k hk]
    simp [putRow, mapBlock, Array.getElem?_modify, show blk ≠ k by omega]⟩
theorem below_grow (w : World) (k : Nat) (os : Array Obj) : Below w.heap.size w (grow (w.drewN k) os) :=
  ⟨rfl, rfl, rfl, by simp [grow, World.drewN], fun j hj => by
    show (w.heap ++ os)[j]? = _
    rw [Array.getElem?_append_left hj]⟩
def FmtPost (l : List UInt8) (w : World) (e : Ending) (w' : World) : Prop := e = .returned (.string ⟨l.toArray⟩) ∧ Below w.heap.size w w'
theorem arr24 : Tryd.prog.arrayLen 109 = 24 := by kernel_rfl
theorem zeros_at (j : Nat) (h : j < 24) : (#[.int .u8 0, .int .u8 0, .int .u8 0, .int .u8 0, .int .u8 0, .int .u8 0, .int .u8 0, .int .u8 0, .int .u8 0, .int .u8 0, .int .u8 0, .int .u8 0, .int .u8 0, .int .u8 0, .int .u8 0, .int .u8 0, .int .u8 0, .int .u8 0, .int .u8 0, .int .u8 0, .int .u8 0, .int .u8 0, .int .u8 0, .int .u8 0] : Array Value)[j]? = some (.int .u8 0) := Lib.zeros24_at j h
theorem holds0 (w : World) (nd : Nat) (hs : nd ≤ 24) : Holds (fun (b : UInt8) => Value.int .u8 (b.toNat : Int)) (w.alloc (.cells #[.int .u8 0, .int .u8 0, .int .u8 0, .int .u8 0, .int .u8 0, .int .u8 0, .int .u8 0, .int .u8 0, .int .u8 0, .int .u8 0, .int .u8 0, .int .u8 0, .int .u8 0, .int .u8 0, .int .u8 0, .int .u8 0, .int .u8 0, .int .u8 0, .int .u8 0, .int .u8 0, .int .u8 0, .int .u8 0, .int .u8 0, .int .u8 0] 109)) w.heap.size 0 (Array.replicate nd (0 : UInt8)) := fun j hj => by
  have hj' : j < nd := by simpa using hj
  refine ⟨?_, World.frozen?_alloc_new _ _ _ _⟩
  rw [World.cell?_alloc_new, Nat.zero_add, zeros_at j (by omega), getElem!_pos _ j hj]
  simp
set_option maxHeartbeats 2000000 in
theorem fu10 (u : Nat) (h100 : ¬ u < 100) (hu : u < 18446744073709551616) (w : World) (hT : FmtW w) : Calls Tryd.prog 87 #[.int .u64 (u : Int), .int .i64 10] w (FmtPost (digs 10 u) w) := by
  have hu1 : 1 ≤ u := by omega
  have hnd20 : Lib.nDigits u ≤ 20 := by have := Lib.numDigits_eq u hu1 hu; split at this <;> omega
  have hb3 : Lib.nDigits u ≤ 24 := by omega
  have B0 : Below w.heap.size w (w.alloc (.cells #[.int .u8 0, .int .u8 0, .int .u8 0, .int .u8 0, .int .u8 0, .int .u8 0, .int .u8 0, .int .u8 0, .int .u8 0, .int .u8 0, .int .u8 0, .int .u8 0, .int .u8 0, .int .u8 0, .int .u8 0, .int .u8 0, .int .u8 0, .int .u8 0, .int .u8 0, .int .u8 0, .int .u8 0, .int .u8 0, .int .u8 0, .int .u8 0] 109)) := (Below.refl _ _).alloc (Nat.le_refl _) _
  have htab := hT.2 _ B0
  have hsl1 : ∀ W, (Instr.sliceAt 109 (.pointer (some ⟨w.heap.size, 0, none⟩)) none (some (.int .i64 (Lib.nDigits u : Int))) none).run Tryd.prog W = .ok (.slice (some ⟨w.heap.size, 0, none⟩) (Lib.nDigits u) 24) W := fun W => by
    rw [run_sliceAt_array_h W 109 ⟨w.heap.size, 0, none⟩ Tryd.underlying109 .i64 (Lib.nDigits u : Int) (by omega) (by rw [arr24]; omega)]
    go_simp
    try omega
  have hH0 := holds0 w (Lib.nDigits u) hb3
  have hfmt := Tryd.internal_strconv_formatBase10 w.heap.size 0 24 u (Array.replicate (Lib.nDigits u) 0) (w.alloc (.cells #[.int .u8 0, .int .u8 0, .int .u8 0, .int .u8 0, .int .u8 0, .int .u8 0, .int .u8 0, .int .u8 0, .int .u8 0, .int .u8 0, .int .u8 0, .int .u8 0, .int .u8 0, .int .u8 0, .int .u8 0, .int .u8 0, .int .u8 0, .int .u8 0, .int .u8 0, .int .u8 0, .int .u8 0, .int .u8 0, .int .u8 0, .int .u8 0] 109)) hH0 (by rw [Array.size_replicate]; exact Lib.lt_pow_nDigits u) hu (by rw [Array.size_replicate]; omega)
  rw [Array.size_replicate] at hfmt
  have hnd := Tryd.internal_strconv_numDigits u hu1 hu (w.alloc (.cells #[.int .u8 0, .int .u8 0, .int .u8 0, .int .u8 0, .int .u8 0, .int .u8 0, .int .u8 0, .int .u8 0, .int .u8 0, .int .u8 0, .int .u8 0, .int .u8 0, .int .u8 0, .int .u8 0, .int .u8 0, .int .u8 0, .int .u8 0, .int .u8 0, .int .u8 0, .int .u8 0, .int .u8 0, .int .u8 0, .int .u8 0, .int .u8 0] 109)) htab
  have HH0 := Lib.hid hH0
  have HF := Lib.hid hfmt
  have HN := Lib.hid hnd
  have h100' : ¬ (u : Int) < 100 := by omega
  clear hH0 hfmt hnd htab hT
  go_enter Tryd.func87, Tryd.ntmps87
  go_wp2_with (go_at_call 90; refine HN.out.mono ?_; rintro e w' ⟨rfl, rfl⟩)
  go_at_call 91
  refine HF.out.mono ?_
  rintro e w' ⟨rfl, k, v', dk, rfl, hF⟩
  have hcv : (convert 78 9 (.slice (some ⟨w.heap.size, 0, none⟩) (Lib.nDigits u) 24)).run Tryd.prog ((putRow (fun (b : UInt8) => Value.int .u8 (b.toNat : Int)) (w.alloc (.cells #[.int .u8 0, .int .u8 0, .int .u8 0, .int .u8 0, .int .u8 0, .int .u8 0, .int .u8 0, .int .u8 0, .int .u8 0, .int .u8 0, .int .u8 0, .int .u8 0, .int .u8 0, .int .u8 0, .int .u8 0, .int .u8 0, .int .u8 0, .int .u8 0, .int .u8 0, .int .u8 0, .int .u8 0, .int .u8 0, .int .u8 0, .int .u8 0] 109)) w.heap.size 0 dk).drewN k) = .ok (.string ⟨(Lib.decDigits u).toArray⟩) ((putRow (fun (b : UInt8) => Value.int .u8 (b.toNat : Int)) (w.alloc (.cells #[.int .u8 0, .int .u8 0, .int .u8 0, .int .u8 0, .int .u8 0, .int .u8 0, .int .u8 0, .int .u8 0, .int .u8 0, .int .u8 0, .int .u8 0, .int .u8 0, .int .u8 0, .int .u8 0, .int .u8 0, .int .u8 0, .int .u8 0, .int .u8 0, .int .u8 0, .int .u8 0, .int .u8 0, .int .u8 0, .int .u8 0, .int .u8 0] 109)) w.heap.size 0 dk).drewN k) := by
    have h := run_convert_bytes_back (P := Tryd.prog) ((putRow (fun (b : UInt8) => Value.int .u8 (b.toNat : Int)) (w.alloc (.cells #[.int .u8 0, .int .u8 0, .int .u8 0, .int .u8 0, .int .u8 0, .int .u8 0, .int .u8 0, .int .u8 0, .int .u8 0, .int .u8 0, .int .u8 0, .int .u8 0, .int .u8 0, .int .u8 0, .int .u8 0, .int .u8 0, .int .u8 0, .int .u8 0, .int .u8 0, .int .u8 0, .int .u8 0, .int .u8 0, .int .u8 0, .int .u8 0] 109)) w.heap.size 0 dk).drewN k) 78 9 5 ⟨w.heap.size, 0, none⟩ 24 (Lib.decDigits u) rfl rfl rfl (fun j hj => by
      rw [Lib.row_is_numeral hF j hj, Lib.add_plain, World.cell?_drewN]
      exact cell?_putRow (fun (b : UInt8) => Value.int .u8 (b.toNat : Int)) _ w.heap.size 0 _ dk HH0.out (by rw [hF.size, Array.size_replicate]) j (by rw [hF.size]; rw [Lib.decDigits_length] at hj; exact hj))
    rw [Lib.decDigits_length] at h
    exact h
  have HB := Lib.hid (below_drewN (below_row (enc := (fun (b : UInt8) => Value.int .u8 (b.toNat : Int))) (off := 0) (d := dk) B0 (Nat.le_refl w.heap.size)) k)
  clear B0
  go_wp2
  go_ret
  exact ⟨by rw [dec_digs]; rfl, HB.out⟩
theorem fu_int (b u : Nat) (hb2 : 2 ≤ b) (hb36 : b ≤ 36) (hu : u < 18446744073709551616) (w : World) (hT : FmtW w) : Calls Tryd.prog 87 #[.int .u64 (u : Int), .int .i64 (b : Int)] w (FmtPost (digs b u) w) := by
  by_cases h10 : b = 10
  · subst h10
    by_cases h100 : u < 100
    · have H := Lib.hid (Tryd.internal_strconv_small u h100 w)
      have h100' : (u : Int) < 100 := by omega
      have hw : wrap64 (u : Int) = (u : Int) := IntWalk.wrap64_in _ ⟨by omega, by omega⟩
      have hw' : IntKind.i64.wrap (u : Int) = (u : Int) := IntWalk.i64_in _ ⟨by omega, by omega⟩
      clear hT
      show Calls Tryd.prog 87 #[.int .u64 (u : Int), .int .i64 10] w _
      go_enter Tryd.func87, Tryd.ntmps87
      go_wp2_with (go_at_call 89; refine H.out.mono ?_; rintro e w' ⟨rfl, rfl⟩)
      go_ret
      exact ⟨by rw [dec_digs]; rfl, Below.refl _ _⟩
    · exact fu10 u h100 hu w hT
  · have H := Lib.hid (fb_any b u hb2 hb36 h10 hu w hT.1)
    have h10' : ((b : Int) == 10) = false := by simp; omega
    clear hT
    go_enter Tryd.func87, Tryd.ntmps87
    go_wp2_with (go_at_call 92; refine H.out.mono ?_; rintro e w' ⟨rfl, hb⟩)
    go_ret
    exact ⟨rfl, hb⟩
set_option maxHeartbeats 2000000 in
theorem fi_int (b : Nat) (n : Int) (hb2 : 2 ≤ b) (hb36 : b ≤ 36) (h1 : -9223372036854775808 ≤ n) (h2 : n ≤ 9223372036854775807) (w : World) (hT : FmtW w) : Calls Tryd.prog 88 #[.int .i64 n, .int .i64 (b : Int)] w (FmtPost (itoaB b n) w) := by
  by_cases h10 : b = 10
  · subst h10
    refine (Tryd.internal_strconv_FormatInt_10 n h1 h2 w (hT.2 w (Below.refl _ _))).mono ?_
    rintro e w' ⟨rfl, k, os, rfl⟩
    exact ⟨by rw [itoa_dec], below_grow w k os⟩
  · have h10' : ((b : Int) == 10) = false := by simp; omega
    by_cases hn : n < 0
    · obtain ⟨u, rfl⟩ : ∃ u : Nat, n = -(u : Int) := ⟨n.natAbs, by omega⟩
      have hw2 : IntKind.u64.wrap (-IntKind.u64.wrap (-(u : Int))) = (u : Int) := by rw [IntKind.wrap_u64, IntKind.wrap_u64]; omega
      have H := Lib.hid (fb_minus b u hb2 hb36 h10 (by omega) (IntKind.u64.wrap (-(u : Int))) hw2 w hT.1)
      have hu0 : 0 < u := by omega
      have HI := Lib.hid (show itoaB b (-(u : Int)) = 45 :: digs b u by unfold itoaB; rw [if_pos hn]; simp)
      clear hT hw2
      go_enter Tryd.func88, Tryd.ntmps88
      go_wp2_with (go_at_call 92; (with_reducible refine H.out.mono ?_); rintro e w' ⟨rfl, hb⟩)
      go_ret
      exact ⟨by rw [HI.out]; rfl, hb⟩
    · obtain ⟨u, rfl⟩ : ∃ u : Nat, n = (u : Int) := ⟨n.natAbs, by omega⟩
      have hw : IntKind.u64.wrap (u : Int) = (u : Int) := IntWalk.u64_in _ ⟨by omega, by omega⟩
      have H := Lib.hid (fb_any b u hb2 hb36 h10 (by omega) w hT.1)
      have HI := Lib.hid (show itoaB b (u : Int) = digs b u by unfold itoaB; rw [if_neg hn]; simp)
      clear hT
      go_enter Tryd.func88, Tryd.ntmps88
      go_wp2_with (go_at_call 92; refine H.out.mono ?_; rintro e w' ⟨rfl, hb⟩)
      go_ret
      exact ⟨by rw [HI.out]; rfl, hb⟩
theorem fu_pub (b u : Nat) (hb2 : 2 ≤ b) (hb36 : b ≤ 36) (hu : u < 18446744073709551616) (w : World) (hT : FmtW w) : Calls Tryd.prog 82 #[.int .u64 (u : Int), .int .i64 (b : Int)] w (FmtPost (digs b u) w) := by
  have H := Lib.hid (fu_int b u hb2 hb36 hu w hT)
  clear hT
  go_enter Tryd.func82, Tryd.ntmps82
  go_wp2_with (go_at_call 87; refine H.out.mono ?_; rintro e w' ⟨rfl, hb⟩)
  go_ret
  exact ⟨rfl, hb⟩
theorem fi_pub (b : Nat) (n : Int) (hb2 : 2 ≤ b) (hb36 : b ≤ 36) (h1 : -9223372036854775808 ≤ n) (h2 : n ≤ 9223372036854775807) (w : World) (hT : FmtW w) : Calls Tryd.prog 83 #[.int .i64 n, .int .i64 (b : Int)] w (FmtPost (itoaB b n) w) := by
  have H := Lib.hid (fi_int b n hb2 hb36 h1 h2 w hT)
  clear hT
  go_enter Tryd.func83, Tryd.ntmps83
  go_wp2_with (go_at_call 88; refine H.out.mono ?_; rintro e w' ⟨rfl, hb⟩)
  go_ret
  exact ⟨rfl, hb⟩
end Go.Proofs.YtpkgngpmnapdoaaDoor
