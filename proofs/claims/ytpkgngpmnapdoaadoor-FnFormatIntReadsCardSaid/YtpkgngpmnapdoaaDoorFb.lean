/- internal/strconv.formatBits: the digits of a number in a base that is not 10. -/
import Derived.Test.YtpkgngpmnapdoaaDoorDigs
import Derived.WalkKit
import Derived.WalkSpells
import Derived.WalkLawsBesides
import Derived.Handy
import Derived.Lib.Hide
import Derived.Laws.IdiomStrings
import Derived.Laws.Bits64b
namespace Go.Proofs.YtpkgngpmnapdoaaDoor
open Go.RowKit
set_option linter.unusedVariables false
set_option linter.unusedSimpArgs false
set_option maxRecDepth 100000

theorem dig_byte_fin : ∀ d : Fin 36, ((⟨#[48, 49, 50, 51, 52, 53, 54, 55, 56, 57, 97, 98, 99, 100, 101, 102, 103, 104, 105, 106, 107, 108, 109, 110, 111, 112, 113, 114, 115, 116, 117, 118, 119, 120, 121, 122]⟩ : ByteArray)[d.val]'(by have := d.isLt; exact this)) = dig d.val := by decide +kernel
theorem dig_byte {d : Nat} (h : d < 36) {q : Nat} (hq : q = d) (hl : q < (⟨#[48, 49, 50, 51, 52, 53, 54, 55, 56, 57, 97, 98, 99, 100, 101, 102, 103, 104, 105, 106, 107, 108, 109, 110, 111, 112, 113, 114, 115, 116, 117, 118, 119, 120, 121, 122]⟩ : ByteArray).size) : ((⟨#[48, 49, 50, 51, 52, 53, 54, 55, 56, 57, 97, 98, 99, 100, 101, 102, 103, 104, 105, 106, 107, 108, 109, 110, 111, 112, 113, 114, 115, 116, 117, 118, 119, 120, 121, 122]⟩ : ByteArray)[q]'hl) = dig d := by
  subst hq
  exact dig_byte_fin ⟨q, h⟩
theorem run_dig (k : IntKind) (d : Nat) (h : d < 36) (w : World) : (Instr.index 9 (.string ⟨#[48, 49, 50, 51, 52, 53, 54, 55, 56, 57, 97, 98, 99, 100, 101, 102, 103, 104, 105, 106, 107, 108, 109, 110, 111, 112, 113, 114, 115, 116, 117, 118, 119, 120, 121, 122]⟩) (.int k (d : Int))).run Tryd.prog w = .ok (.int .u8 ((dig d).toNat : Int)) w := by
  have hs : (⟨#[48, 49, 50, 51, 52, 53, 54, 55, 56, 57, 97, 98, 99, 100, 101, 102, 103, 104, 105, 106, 107, 108, 109, 110, 111, 112, 113, 114, 115, 116, 117, 118, 119, 120, 121, 122]⟩ : ByteArray).size = 36 := rfl
  rw [run_index_string w 9 _ k (d : Int) Tryd.underlying9]
  rw [dif_pos ⟨by omega, by rw [hs]; omega⟩]
  exact congrArg (fun c : UInt8 => Result.ok (Value.int .u8 (c.toNat : Int)) w) (dig_byte h (by simp) _)
/-- The row of digits: from place m on it holds ds. -/
structure Row (A : Nat) (w0 : World) (m : Nat) (ds : List UInt8) (W : World) : Prop where
  cells : ∀ j, j < 65 → ∃ v, W.cell? ⟨A, j, none⟩ = some v
  free : ∀ j, W.frozen? ⟨A, j, none⟩ = false
  vals : ∀ t (h : t < ds.length), W.cell? ⟨A, m + t, none⟩ = some (.int .u8 (ds[t].toNat : Int))
  below : Below A w0 W
theorem Row.step {A : Nat} {w0 W : World} {q : Nat} {ds : List UInt8} (h : Row A w0 (q + 1) ds W) (hq : q < 65) (c : UInt8) : Row A w0 q (c :: ds) (W.setCell ⟨A, q, none⟩ (.int .u8 (c.toNat : Int))) := by
  refine ⟨fun j hj => ?_, fun j => (World.frozen?_setCell _ _ _ _).trans (h.free j), fun t ht => ?_, h.below.setCell (Nat.le_refl _) _⟩
  · obtain ⟨v, hv⟩ := h.cells j hj
    exact cell?_setCell_some hv
  · obtain ⟨v, hv⟩ := h.cells q hq
    match t, ht with
    | 0, _ =>
      rw [Nat.add_zero, World.cell?_setCell_same _ _ _ hv]
      rfl
    | t + 1, ht =>
      have hne : (⟨A, q, none⟩ : Addr) ≠ ⟨A, q + (t + 1), none⟩ := by
        intro e
        injection e with _ e2 _
        omega
      rw [World.cell?_setCell_other _ _ _ _ hne, show q + (t + 1) = q + 1 + t from by omega]
      simp only [List.length_cons] at ht
      exact h.vals t (by omega)
theorem zeros_len : Tryd.zeroCells117.size = 65 := by kernel_rfl
theorem Row.start (w : World) : Row w.heap.size w 65 [] (w.alloc (.cells Tryd.zeroCells117 117)) := by
  have e : (w.alloc (.cells Tryd.zeroCells117 117)).heap[w.heap.size]? = some (.cells Tryd.zeroCells117 117 (0, 0)) := by
    show (w.heap.push _)[w.heap.size]? = _
    simp
  refine ⟨fun j hj => ?_, fun j => ?_, fun t ht => absurd ht (Nat.not_lt_zero t), (Below.refl _ _).alloc (Nat.le_refl _) _⟩
  · rw [cell_of_row _ _ j _ _ _ e]
    have hz := zeros_len
    exact ⟨_, Array.getElem?_eq_getElem (by rw [hz]; exact hj)⟩
  · simp [go_sem]
theorem div_in {v b : Nat} (hv : v < 18446744073709551616) (hb : 0 < b) : 0 ≤ (v : Int) / (b : Int) ∧ (v : Int) / (b : Int) ≤ 18446744073709551615 := by
  have := Nat.div_le_self v b
  exact ⟨Int.ediv_nonneg (by omega) (by omega), by rw [← Int.natCast_ediv]; omega⟩
theorem mul_in {v b : Nat} (hv : v < 18446744073709551616) (hb : 0 < b) : 0 ≤ (v : Int) / (b : Int) * (b : Int) ∧ (v : Int) / (b : Int) * (b : Int) ≤ 18446744073709551615 := by
  have h1 := Nat.div_mul_le_self v b
  rw [← Int.natCast_ediv, ← Int.natCast_mul]
  omega
theorem sub_mod {v b : Nat} (hv : v < 18446744073709551616) (hb : 0 < b) : IntKind.u64.wrap ((v : Int) - (v : Int) / (b : Int) * (b : Int)) = (v : Int) % (b : Int) := by
  have h1 := Nat.div_add_mod v b
  have h2 := Nat.mod_lt v hb
  have h3 := Nat.mod_le v b
  rw [← Int.natCast_ediv, ← Int.natCast_mul, ← Int.natCast_emod, Nat.mul_comm]
  rw [show ((v : Int) - ((b * (v / b) : Nat) : Int)) = ((v % b : Nat) : Int) from by omega]
  exact IntWalk.u64_in _ ⟨by omega, by omega⟩
theorem run_dig_int (k : IntKind) {v b : Nat} (h : v % b < 36) (w : World) : (Instr.index 9 (.string ⟨#[48, 49, 50, 51, 52, 53, 54, 55, 56, 57, 97, 98, 99, 100, 101, 102, 103, 104, 105, 106, 107, 108, 109, 110, 111, 112, 113, 114, 115, 116, 117, 118, 119, 120, 121, 122]⟩) (.int k ((v : Int) % (b : Int)))).run Tryd.prog w = .ok (.int .u8 ((dig (v % b)).toNat : Int)) w := by
  rw [← Int.natCast_emod]
  exact run_dig k (v % b) h w
theorem run_dig_lit (k : IntKind) {v : Nat} (b : Nat) (h : v % b < 36) (w : World) : (Instr.index 9 (.string ⟨#[48, 49, 50, 51, 52, 53, 54, 55, 56, 57, 97, 98, 99, 100, 101, 102, 103, 104, 105, 106, 107, 108, 109, 110, 111, 112, 113, 114, 115, 116, 117, 118, 119, 120, 121, 122]⟩) (.int k ((v : Int) % (b : Int)))).run Tryd.prog w = .ok (.int .u8 ((dig (v % b)).toNat : Int)) w := run_dig_int k h w
theorem by_mod {v : Nat} {m b : Nat} (hv : v < 18446744073709551616) (hm : m < 18446744073709551616) (hb : (List.range 6).any (fun q => b == 2 ^ q && m == 2 ^ q - 1) = true) : bits .and .u64 (v : Int) (m : Int) = (v : Int) % (b : Int) := by
  obtain ⟨q, _, hq⟩ := List.any_eq_true.1 hb
  simp only [Bool.and_eq_true, beq_iff_eq] at hq
  obtain ⟨rfl, rfl⟩ := hq
  rw [bits_and_u64_nat v _ hv hm, Nat.and_two_pow_sub_one_eq_mod, Int.natCast_emod]
def FbPost (b u : Nat) (neg : Bool) (w : World) (e : Ending) (w' : World) : Prop :=
  e = .returned (.tuple #[.slice none 0 0, .string ⟨((if neg then [45] else []) ++ digs b u).toArray⟩]) ∧ Below w.heap.size w w'
theorem len_lt {v u : Nat} {ds : List UInt8} (h0 : v = 0 → ds = []) (hv : v * 2 ^ ds.length ≤ u) (hu : u < 18446744073709551616) : ds.length < 64 := by
  by_cases h : v = 0
  · rw [h0 h]
    decide
  · have h1 : 2 ^ ds.length ≤ v * 2 ^ ds.length := Nat.le_mul_of_pos_left _ (by omega)
    have h2 : 2 ^ ds.length < 2 ^ 64 := by
      have : (2 : Nat) ^ 64 = 18446744073709551616 := by decide
      omega
    exact (Nat.pow_lt_pow_iff_right (by decide)).1 h2
theorem v_lt {v u : Nat} {ds : List UInt8} (hv : v * 2 ^ ds.length ≤ u) (hu : u < 18446744073709551616) : v < 18446744073709551616 := by
  have := Nat.le_mul_of_pos_right v (show 0 < 2 ^ ds.length from Nat.two_pow_pos _)
  omega
theorem step_le {v u b n : Nat} (hb : 2 ≤ b) (hv : v * 2 ^ n ≤ u) : v / b * 2 ^ (n + 1) ≤ u := by
  have h1 : v / b * 2 ≤ v := Nat.le_trans (Nat.mul_le_mul_left _ hb) (Nat.div_mul_le_self v b)
  calc v / b * 2 ^ (n + 1) = v / b * 2 * 2 ^ n := by rw [Nat.pow_succ, Nat.mul_assoc, Nat.mul_comm 2]
    _ ≤ v * 2 ^ n := Nat.mul_le_mul_right _ h1
    _ ≤ u := hv
theorem arr65 : Tryd.prog.arrayLen 117 = 65 := by kernel_rfl
theorem run_tail (A q L : Nat) (h : q + L = 65) (h1 : 1 ≤ L) (W : World) : (Instr.sliceAt 117 (.pointer (some ⟨A, 0, none⟩)) (some (.int .i64 (q : Int))) none none).run Tryd.prog W = .ok (.slice (some ⟨A, q, none⟩) L L) W := by
  rw [run_sliceAt_array_l W 117 ⟨A, 0, none⟩ Tryd.underlying117 .i64 (q : Int) (by omega) (by rw [arr65]; omega)]
  go_simp
  omega
theorem run_text {A q : Nat} {w0 W : World} {ds : List UInt8} (h : Row A w0 q ds W) (c : Nat) : (convert 78 9 (.slice (some ⟨A, q, none⟩) ds.length c)).run Tryd.prog W = .ok (.string ⟨ds.toArray⟩) W := by
  refine run_convert_bytes_back (P := Tryd.prog) W 78 9 5 ⟨A, q, none⟩ c ds rfl rfl rfl (fun j hj => ?_)
  have := h.vals j hj
  rw [show (Addr.add ⟨A, q, none⟩ j) = ⟨A, q + j, none⟩ from by simp [Addr.add]]
  exact this
set_option maxHeartbeats 2000000 in
theorem fb_plain (b u : Nat) (hb2 : 2 ≤ b) (hb36 : b ≤ 36) (hb10 : b ≠ 10) (hp : ((bits .and .i64 (b : Int) ((b : Int) - 1)) == 0) = false) (hu : u < 18446744073709551616) (w : World) :
    Calls Tryd.prog 92 #[.slice none 0 0, .int .u64 (u : Int), .int .i64 (b : Int), .bool false, .bool false] w (FbPost b u false w) := by
  have hb10' : ((b : Int) == 10) = false := by simp; omega
  have hw1 : IntKind.u64.wrap (b : Int) = (b : Int) := IntWalk.u64_in _ ⟨by omega, by omega⟩
  have hw2 : IntKind.i64.wrap ((b : Int) - 1) = (b : Int) - 1 := IntWalk.i64_in _ ⟨by omega, by omega⟩
  go_enter Tryd.func92, Tryd.ntmps92
  go_wp2_with (go_at_call 96; go_in)
  go_loopw [1, 13] (fun a i wr => ∃ (v m : Nat) (ds : List UInt8), a = .int .u64 (v : Int) ∧ i = .int .i64 (m : Int) ∧ m + ds.length = 65 ∧ digs b u = digs b v ++ ds ∧ (v * 2 ^ ds.length ≤ u ∧ (v = 0 → ds = [])) ∧ Row w.heap.size w m ds wr) (fun a _ _ => (intOf a).toNat)
  case atStart => exact ⟨u, 65, [], rfl, rfl, rfl, by simp, ⟨by simp, fun _ => rfl⟩, Row.start w⟩
  case round =>
    obtain ⟨v, m, ds, rfl, rfl, hm, hd, ⟨hv, hv0⟩, hR⟩ := hrel
    have HD := Lib.hid hd
    have HV := Lib.hid hv
    have HM := Lib.hid hm
    have HR := Lib.hid hR
    have hv64 := v_lt hv hu
    have hlen := len_lt hv0 hv hu
    clear hd hv hR hv0
    obtain ⟨q, rfl⟩ : ∃ q, m = q + 1 := ⟨m - 1, by omega⟩
    obtain ⟨vv, hc⟩ := HR.out.cells q (by omega)
    have hf := HR.out.free q
    have hq64 : wrap64 (q : Int) = (q : Int) := IntWalk.wrap64_in _ ⟨by omega, by omega⟩
    have hql : (q : Int) < 65 := by omega
    clear hm
    by_cases hlt : b ≤ v
    · have wq : IntKind.u64.wrap ((v : Int) / (b : Int)) = (v : Int) / (b : Int) := IntWalk.u64_in _ (div_in hv64 (by omega))
      have wm : IntKind.u64.wrap ((v : Int) / (b : Int) * (b : Int)) = (v : Int) / (b : Int) * (b : Int) := IntWalk.u64_in _ (mul_in hv64 (by omega))
      have ws : IntKind.u64.wrap ((v : Int) - (v : Int) / (b : Int) * (b : Int)) = (v : Int) % (b : Int) := sub_mod hv64 (by omega)
      have hd1 := fun W => run_dig_int .u64 (show v % b < 36 from Nat.lt_of_lt_of_le (Nat.mod_lt _ (by omega)) hb36) W
      have HS := Lib.hid (HR.out.step (by omega) (dig (v % b)))
      have HD2 := Lib.hid (show digs b u = digs b (v / b) ++ (dig (v % b) :: ds) by rw [HD.out, digs_big hb2 hlt, List.append_assoc]; rfl)
      have HV2 := Lib.hid (step_le (b := b) hb2 HV.out)
      have HL := Lib.hid (Nat.div_lt_self (show 0 < v by omega) (show 1 < b by omega))
      have HP := Lib.hid (Nat.div_pos hlt (by omega))
      clear hv64 hlen HD HV
      go_wp2
      have e : (v : Int) / (b : Int) = ((v / b : Nat) : Int) := (Int.natCast_ediv v b).symm
      go_roundw
      case rel => exact ⟨v / b, q, dig (v % b) :: ds, by rw [e], rfl, by have := HM.out; simp; omega, HD2.out, ⟨HV2.out, fun h => by have := HP.out; omega⟩, HS.out⟩
      case measure =>
        have hx : (v : Int) / (b : Int) < (v : Int) := by rw [e]; exact Int.ofNat_lt.2 HL.out
        have hy : 0 ≤ (v : Int) / (b : Int) := by rw [e]; exact Int.natCast_nonneg _
        clear e
        simp [intOf]
        omega
    · have hd2 := fun W => run_dig .u64 v (show v < 36 by omega) W
      have HS := Lib.hid (HR.out.step (by omega) (dig v))
      have HD2 := Lib.hid (show digs b u = dig v :: ds by rw [HD.out, digs_small (by omega)]; rfl)
      clear HD HV
      have hsl := fun W => run_tail w.heap.size q (ds.length + 1) (by have := HM.out; omega) (by omega) W
      have hcv : (convert 78 9 (.slice (some ⟨w.heap.size, q, none⟩) (ds.length + 1) (ds.length + 1))).run Tryd.prog _ = _ := run_text HS.out (ds.length + 1)
      clear hv64 hlen
      go_wp2
      go_returns
      exact ⟨by rw [HD2.out]; rfl, HS.out.below⟩
set_option maxHeartbeats 2000000 in
theorem fb_neg (b u : Nat) (hb2 : 2 ≤ b) (hb36 : b ≤ 36) (hb10 : b ≠ 10) (hp : ((bits .and .i64 (b : Int) ((b : Int) - 1)) == 0) = false) (hu : u < 18446744073709551616) (U : Int) (hU : IntKind.u64.wrap (-U) = (u : Int)) (w : World) :
    Calls Tryd.prog 92 #[.slice none 0 0, .int .u64 U, .int .i64 (b : Int), .bool true, .bool false] w (FbPost b u true w) := by
  have hb10' : ((b : Int) == 10) = false := by simp; omega
  have hw1 : IntKind.u64.wrap (b : Int) = (b : Int) := IntWalk.u64_in _ ⟨by omega, by omega⟩
  have hw2 : IntKind.i64.wrap ((b : Int) - 1) = (b : Int) - 1 := IntWalk.i64_in _ ⟨by omega, by omega⟩
  go_enter Tryd.func92, Tryd.ntmps92
  go_wp2_with (go_at_call 96; go_in)
  go_loopw [1, 13] (fun a i wr => ∃ (v m : Nat) (ds : List UInt8), a = .int .u64 (v : Int) ∧ i = .int .i64 (m : Int) ∧ m + ds.length = 65 ∧ digs b u = digs b v ++ ds ∧ (v * 2 ^ ds.length ≤ u ∧ (v = 0 → ds = [])) ∧ Row w.heap.size w m ds wr) (fun a _ _ => (intOf a).toNat)
  case atStart => exact ⟨u, 65, [], rfl, rfl, rfl, by simp, ⟨by simp, fun _ => rfl⟩, Row.start w⟩
  case round =>
    obtain ⟨v, m, ds, rfl, rfl, hm, hd, ⟨hv, hv0⟩, hR⟩ := hrel
    have HD := Lib.hid hd
    have HV := Lib.hid hv
    have HM := Lib.hid hm
    have HR := Lib.hid hR
    have hv64 := v_lt hv hu
    have hlen := len_lt hv0 hv hu
    clear hd hv hR hv0
    obtain ⟨q, rfl⟩ : ∃ q, m = q + 1 := ⟨m - 1, by omega⟩
    obtain ⟨vv, hc⟩ := HR.out.cells q (by omega)
    have hf := HR.out.free q
    have hq64 : wrap64 (q : Int) = (q : Int) := IntWalk.wrap64_in _ ⟨by omega, by omega⟩
    have hql : (q : Int) < 65 := by omega
    clear hm
    by_cases hlt : b ≤ v
    · have wq : IntKind.u64.wrap ((v : Int) / (b : Int)) = (v : Int) / (b : Int) := IntWalk.u64_in _ (div_in hv64 (by omega))
      have wm : IntKind.u64.wrap ((v : Int) / (b : Int) * (b : Int)) = (v : Int) / (b : Int) * (b : Int) := IntWalk.u64_in _ (mul_in hv64 (by omega))
      have ws : IntKind.u64.wrap ((v : Int) - (v : Int) / (b : Int) * (b : Int)) = (v : Int) % (b : Int) := sub_mod hv64 (by omega)
      have hd1 := fun W => run_dig_int .u64 (show v % b < 36 from Nat.lt_of_lt_of_le (Nat.mod_lt _ (by omega)) hb36) W
      have HS := Lib.hid (HR.out.step (by omega) (dig (v % b)))
      have HD2 := Lib.hid (show digs b u = digs b (v / b) ++ (dig (v % b) :: ds) by rw [HD.out, digs_big hb2 hlt, List.append_assoc]; rfl)
      have HV2 := Lib.hid (step_le (b := b) hb2 HV.out)
      have HL := Lib.hid (Nat.div_lt_self (show 0 < v by omega) (show 1 < b by omega))
      have HP := Lib.hid (Nat.div_pos hlt (by omega))
      clear hv64 hlen HD HV
      go_wp2
      have e : (v : Int) / (b : Int) = ((v / b : Nat) : Int) := (Int.natCast_ediv v b).symm
      go_roundw
      case rel => exact ⟨v / b, q, dig (v % b) :: ds, by rw [e], rfl, by have := HM.out; simp; omega, HD2.out, ⟨HV2.out, fun h => by have := HP.out; omega⟩, HS.out⟩
      case measure =>
        have hx : (v : Int) / (b : Int) < (v : Int) := by rw [e]; exact Int.ofNat_lt.2 HL.out
        have hy : 0 ≤ (v : Int) / (b : Int) := by rw [e]; exact Int.natCast_nonneg _
        clear e
        simp [intOf]
        omega
    · have hd2 := fun W => run_dig .u64 v (show v < 36 by omega) W
      have HS := Lib.hid (HR.out.step (by omega) (dig v))
      have HD2 := Lib.hid (show digs b u = dig v :: ds by rw [HD.out, digs_small (by omega)]; rfl)
      clear HD HV
      obtain ⟨p, rfl⟩ : ∃ p, q = p + 1 := ⟨q - 1, by have := HM.out; omega⟩
      have hp64 : wrap64 (p : Int) = (p : Int) := IntWalk.wrap64_in _ ⟨by omega, by omega⟩
      obtain ⟨v2, hc2⟩ := HS.out.cells p (by omega)
      have hf2 := HS.out.free p
      have HS2 : Row w.heap.size w p (45 :: dig v :: ds) ((wr.setCell ⟨w.heap.size, p + 1, none⟩ (.int .u8 ((dig v).toNat : Int))).setCell ⟨w.heap.size, p, none⟩ (.int .u8 45)) := HS.out.step (by omega) 45
      have hpl : (p : Int) < 65 := by omega
      have hsl := fun W => run_tail w.heap.size p (ds.length + 1 + 1) (by have := HM.out; omega) (by omega) W
      have hcv : (convert 78 9 (.slice (some ⟨w.heap.size, p, none⟩) (ds.length + 1 + 1) (ds.length + 1 + 1))).run Tryd.prog _ = _ := run_text HS2 (ds.length + 1 + 1)
      have HQ := Lib.hid HS2
      clear HS2 HS hv64 hlen
      go_wp2
      go_returns
      exact ⟨by rw [HD2.out]; rfl, HQ.out.below⟩
/-- The places of math/bits's table that the powers of two below 36 ask for. -/
def TzW (w : World) : Prop := w.cell? ⟨4, 1, none⟩ = some (.int .u8 1) ∧ w.cell? ⟨4, 3, none⟩ = some (.int .u8 2) ∧ w.cell? ⟨4, 7, none⟩ = some (.int .u8 3) ∧ w.cell? ⟨4, 15, none⟩ = some (.int .u8 4) ∧ w.cell? ⟨4, 31, none⟩ = some (.int .u8 5) ∧ 4 < w.heap.size
theorem TzW.below {w w' : World} (h : TzW w) (hb : Below w.heap.size w w') : TzW w' := by
  obtain ⟨h1, h2, h3, h4, h5, hl⟩ := h
  have e : ∀ j, w'.cell? ⟨4, j, none⟩ = w.cell? ⟨4, j, none⟩ := fun j => hb.cell (p := ⟨4, j, none⟩) hl
  exact ⟨(e _).trans h1, (e _).trans h2, (e _).trans h3, (e _).trans h4, (e _).trans h5, Nat.lt_of_lt_of_le hl hb.size⟩
theorem tz64_2 (w : World) (h : w.cell? ⟨4, 1, none⟩ = some (.int .u8 1)) : Calls Tryd.prog 99 #[.int .u64 2] w fun e w' => e = .returned (.int .i64 1) ∧ w' = w := by
  have h0 : IntKind.u64.wrap (-2) = 18446744073709551614 := by decide +kernel
  have h1 : bits .and .u64 2 18446744073709551614 = 2 := by decide +kernel
  have h2 : IntKind.u64.wrap 571740426102707730 = 571740426102707730 := by decide +kernel
  go_enter Tryd.func99, Tryd.ntmps99
  go_wp2
  go_ret
  exact ⟨rfl, rfl⟩
theorem tz64_4 (w : World) (h : w.cell? ⟨4, 3, none⟩ = some (.int .u8 2)) : Calls Tryd.prog 99 #[.int .u64 4] w fun e w' => e = .returned (.int .i64 2) ∧ w' = w := by
  have h0 : IntKind.u64.wrap (-4) = 18446744073709551612 := by decide +kernel
  have h1 : bits .and .u64 4 18446744073709551612 = 4 := by decide +kernel
  have h2 : IntKind.u64.wrap 1143480852205415460 = 1143480852205415460 := by decide +kernel
  go_enter Tryd.func99, Tryd.ntmps99
  go_wp2
  go_ret
  exact ⟨rfl, rfl⟩
theorem tz64_8 (w : World) (h : w.cell? ⟨4, 7, none⟩ = some (.int .u8 3)) : Calls Tryd.prog 99 #[.int .u64 8] w fun e w' => e = .returned (.int .i64 3) ∧ w' = w := by
  have h0 : IntKind.u64.wrap (-8) = 18446744073709551608 := by decide +kernel
  have h1 : bits .and .u64 8 18446744073709551608 = 8 := by decide +kernel
  have h2 : IntKind.u64.wrap 2286961704410830920 = 2286961704410830920 := by decide +kernel
  go_enter Tryd.func99, Tryd.ntmps99
  go_wp2
  go_ret
  exact ⟨rfl, rfl⟩
theorem tz64_16 (w : World) (h : w.cell? ⟨4, 15, none⟩ = some (.int .u8 4)) : Calls Tryd.prog 99 #[.int .u64 16] w fun e w' => e = .returned (.int .i64 4) ∧ w' = w := by
  have h0 : IntKind.u64.wrap (-16) = 18446744073709551600 := by decide +kernel
  have h1 : bits .and .u64 16 18446744073709551600 = 16 := by decide +kernel
  have h2 : IntKind.u64.wrap 4573923408821661840 = 4573923408821661840 := by decide +kernel
  go_enter Tryd.func99, Tryd.ntmps99
  go_wp2
  go_ret
  exact ⟨rfl, rfl⟩
theorem tz64_32 (w : World) (h : w.cell? ⟨4, 31, none⟩ = some (.int .u8 5)) : Calls Tryd.prog 99 #[.int .u64 32] w fun e w' => e = .returned (.int .i64 5) ∧ w' = w := by
  have h0 : IntKind.u64.wrap (-32) = 18446744073709551584 := by decide +kernel
  have h1 : bits .and .u64 32 18446744073709551584 = 32 := by decide +kernel
  have h2 : IntKind.u64.wrap 9147846817643323680 = 9147846817643323680 := by decide +kernel
  go_enter Tryd.func99, Tryd.ntmps99
  go_wp2
  go_ret
  exact ⟨rfl, rfl⟩
theorem p2_2 (w : World) : Calls Tryd.prog 96 #[.int .i64 2] w fun e w' => e = .returned (.bool true) ∧ w' = w := by
  have hp : bits .and .i64 2 1 = 0 := by decide +kernel
  go_enter Tryd.func96, Tryd.ntmps96
  go_wp2
  go_ret
  exact ⟨rfl, rfl⟩
theorem tz_2 (w : World) (h : w.cell? ⟨4, 1, none⟩ = some (.int .u8 1)) : Calls Tryd.prog 97 #[.int .u64 2] w fun e w' => e = .returned (.int .i64 1) ∧ w' = w := by
  have H := Lib.hid (tz64_2 w h)
  clear h
  go_enter Tryd.func97, Tryd.ntmps97
  go_wp2_with (go_at_call 99; refine H.out.mono ?_; rintro e w' ⟨rfl, rfl⟩)
  go_ret
  exact ⟨rfl, rfl⟩
set_option maxHeartbeats 2000000 in
theorem fb_plain2 (u : Nat) (hu : u < 18446744073709551616) (w : World) (hT : TzW w) :
    Calls Tryd.prog 92 #[.slice none 0 0, .int .u64 (u : Int), .int .i64 2, .bool false, .bool false] w (FbPost 2 u false w) := by
  have HTz := Lib.hid (hT.below ((Below.refl _ _).alloc (Nat.le_refl _) (.cells Tryd.zeroCells117 117)))
  clear hT
  go_enter Tryd.func92, Tryd.ntmps92
  go_wp2_with (first | (go_at_call 96; refine (p2_2 _).mono ?_; rintro e w' ⟨rfl, rfl⟩) | (go_at_call 97; refine (tz_2 _ HTz.out.1).mono ?_; rintro e w' ⟨rfl, rfl⟩))
  go_loopw [1, 13] (fun a i wr => ∃ (v m : Nat) (ds : List UInt8), a = .int .u64 (v : Int) ∧ i = .int .i64 (m : Int) ∧ m + ds.length = 65 ∧ digs 2 u = digs 2 v ++ ds ∧ (v * 2 ^ ds.length ≤ u ∧ (v = 0 → ds = [])) ∧ Row w.heap.size w m ds wr) (fun a _ _ => (intOf a).toNat)
  case atStart => exact ⟨u, 65, [], rfl, rfl, rfl, by simp, ⟨by simp, fun _ => rfl⟩, Row.start w⟩
  case round =>
    obtain ⟨v, m, ds, rfl, rfl, hm, hd, ⟨hv, hv0⟩, hR⟩ := hrel
    have HD := Lib.hid hd
    have HV := Lib.hid hv
    have HM := Lib.hid hm
    have HR := Lib.hid hR
    have hv64 := v_lt hv hu
    have hlen := len_lt hv0 hv hu
    clear hd hv hR hv0
    obtain ⟨q, rfl⟩ : ∃ q, m = q + 1 := ⟨m - 1, by omega⟩
    obtain ⟨vv, hc⟩ := HR.out.cells q (by omega)
    have hf := HR.out.free q
    have hq64 : wrap64 (q : Int) = (q : Int) := IntWalk.wrap64_in _ ⟨by omega, by omega⟩
    have hql : (q : Int) < 65 := by omega
    clear hm
    by_cases hlt : 2 ≤ v
    · have ws : bits .and .u64 (v : Int) 1 = (v : Int) % 2 := by_mod hv64 (by decide) (by decide)
      have hd1 : ∀ W, (Instr.index 9 (.string ⟨#[48, 49, 50, 51, 52, 53, 54, 55, 56, 57, 97, 98, 99, 100, 101, 102, 103, 104, 105, 106, 107, 108, 109, 110, 111, 112, 113, 114, 115, 116, 117, 118, 119, 120, 121, 122]⟩) (.int .u64 ((v : Int) % 2))).run Tryd.prog W = .ok (.int .u8 ((dig (v % 2)).toNat : Int)) W := fun W => run_dig_lit .u64 2 (show v % 2 < 36 from Nat.lt_of_lt_of_le (Nat.mod_lt _ (by omega)) (by decide)) W
      have HS := Lib.hid (HR.out.step (by omega) (dig (v % 2)))
      have HD2 := Lib.hid (show digs 2 u = digs 2 (v / 2) ++ (dig (v % 2) :: ds) by rw [HD.out, digs_big (by decide) hlt, List.append_assoc]; rfl)
      have HV2 := Lib.hid (step_le (b := 2) (by decide) HV.out)
      have HL := Lib.hid (Nat.div_lt_self (show 0 < v by omega) (show 1 < 2 by decide))
      have HP := Lib.hid (Nat.div_pos hlt (by omega))
      clear hv64 hlen HD HV
      go_wp2
      have e : (v : Int) / 2 = ((v / 2 : Nat) : Int) := (Int.natCast_ediv v 2).symm
      refine ⟨⟨v / 2, q, dig (v % 2) :: ds, by rw [e], rfl, by have := HM.out; simp; omega, HD2.out, ⟨HV2.out, fun h => by have := HP.out; omega⟩, HS.out⟩, ?measure⟩
      case measure =>
        have hx : (v : Int) / 2 < (v : Int) := by rw [e]; exact Int.ofNat_lt.2 HL.out
        have hy : 0 ≤ (v : Int) / 2 := by rw [e]; exact Int.natCast_nonneg _
        clear e
        simp [intOf]
        omega
    · have hd2 := fun W => run_dig .u64 v (show v < 36 by omega) W
      have HS := Lib.hid (HR.out.step (by omega) (dig v))
      have HD2 := Lib.hid (show digs 2 u = dig v :: ds by rw [HD.out, digs_small (by omega)]; rfl)
      clear HD HV
      have hsl := fun W => run_tail w.heap.size q (ds.length + 1) (by have := HM.out; omega) (by omega) W
      have hcv : (convert 78 9 (.slice (some ⟨w.heap.size, q, none⟩) (ds.length + 1) (ds.length + 1))).run Tryd.prog _ = _ := run_text HS.out (ds.length + 1)
      clear hv64 hlen
      go_wp2
      go_returns
      exact ⟨by rw [HD2.out]; rfl, HS.out.below⟩
set_option maxHeartbeats 2000000 in
theorem fb_neg2 (u : Nat) (hu : u < 18446744073709551616) (U : Int) (hU : IntKind.u64.wrap (-U) = (u : Int)) (w : World) (hT : TzW w) :
    Calls Tryd.prog 92 #[.slice none 0 0, .int .u64 U, .int .i64 2, .bool true, .bool false] w (FbPost 2 u true w) := by
  have HTz := Lib.hid (hT.below ((Below.refl _ _).alloc (Nat.le_refl _) (.cells Tryd.zeroCells117 117)))
  clear hT
  go_enter Tryd.func92, Tryd.ntmps92
  go_wp2_with (first | (go_at_call 96; refine (p2_2 _).mono ?_; rintro e w' ⟨rfl, rfl⟩) | (go_at_call 97; refine (tz_2 _ HTz.out.1).mono ?_; rintro e w' ⟨rfl, rfl⟩))
  go_loopw [1, 13] (fun a i wr => ∃ (v m : Nat) (ds : List UInt8), a = .int .u64 (v : Int) ∧ i = .int .i64 (m : Int) ∧ m + ds.length = 65 ∧ digs 2 u = digs 2 v ++ ds ∧ (v * 2 ^ ds.length ≤ u ∧ (v = 0 → ds = [])) ∧ Row w.heap.size w m ds wr) (fun a _ _ => (intOf a).toNat)
  case atStart => exact ⟨u, 65, [], rfl, rfl, rfl, by simp, ⟨by simp, fun _ => rfl⟩, Row.start w⟩
  case round =>
    obtain ⟨v, m, ds, rfl, rfl, hm, hd, ⟨hv, hv0⟩, hR⟩ := hrel
    have HD := Lib.hid hd
    have HV := Lib.hid hv
    have HM := Lib.hid hm
    have HR := Lib.hid hR
    have hv64 := v_lt hv hu
    have hlen := len_lt hv0 hv hu
    clear hd hv hR hv0
    obtain ⟨q, rfl⟩ : ∃ q, m = q + 1 := ⟨m - 1, by omega⟩
    obtain ⟨vv, hc⟩ := HR.out.cells q (by omega)
    have hf := HR.out.free q
    have hq64 : wrap64 (q : Int) = (q : Int) := IntWalk.wrap64_in _ ⟨by omega, by omega⟩
    have hql : (q : Int) < 65 := by omega
    clear hm
    by_cases hlt : 2 ≤ v
    · have ws : bits .and .u64 (v : Int) 1 = (v : Int) % 2 := by_mod hv64 (by decide) (by decide)
      have hd1 : ∀ W, (Instr.index 9 (.string ⟨#[48, 49, 50, 51, 52, 53, 54, 55, 56, 57, 97, 98, 99, 100, 101, 102, 103, 104, 105, 106, 107, 108, 109, 110, 111, 112, 113, 114, 115, 116, 117, 118, 119, 120, 121, 122]⟩) (.int .u64 ((v : Int) % 2))).run Tryd.prog W = .ok (.int .u8 ((dig (v % 2)).toNat : Int)) W := fun W => run_dig_lit .u64 2 (show v % 2 < 36 from Nat.lt_of_lt_of_le (Nat.mod_lt _ (by omega)) (by decide)) W
      have HS := Lib.hid (HR.out.step (by omega) (dig (v % 2)))
      have HD2 := Lib.hid (show digs 2 u = digs 2 (v / 2) ++ (dig (v % 2) :: ds) by rw [HD.out, digs_big (by decide) hlt, List.append_assoc]; rfl)
      have HV2 := Lib.hid (step_le (b := 2) (by decide) HV.out)
      have HL := Lib.hid (Nat.div_lt_self (show 0 < v by omega) (show 1 < 2 by decide))
      have HP := Lib.hid (Nat.div_pos hlt (by omega))
      clear hv64 hlen HD HV
      go_wp2
      have e : (v : Int) / 2 = ((v / 2 : Nat) : Int) := (Int.natCast_ediv v 2).symm
      refine ⟨⟨v / 2, q, dig (v % 2) :: ds, by rw [e], rfl, by have := HM.out; simp; omega, HD2.out, ⟨HV2.out, fun h => by have := HP.out; omega⟩, HS.out⟩, ?measure⟩
      case measure =>
        have hx : (v : Int) / 2 < (v : Int) := by rw [e]; exact Int.ofNat_lt.2 HL.out
        have hy : 0 ≤ (v : Int) / 2 := by rw [e]; exact Int.natCast_nonneg _
        clear e
        simp [intOf]
        omega
    · have hd2 := fun W => run_dig .u64 v (show v < 36 by omega) W
      have HS := Lib.hid (HR.out.step (by omega) (dig v))
      have HD2 := Lib.hid (show digs 2 u = dig v :: ds by rw [HD.out, digs_small (by omega)]; rfl)
      clear HD HV
      obtain ⟨p, rfl⟩ : ∃ p, q = p + 1 := ⟨q - 1, by have := HM.out; omega⟩
      have hp64 : wrap64 (p : Int) = (p : Int) := IntWalk.wrap64_in _ ⟨by omega, by omega⟩
      obtain ⟨v2, hc2⟩ := HS.out.cells p (by omega)
      have hf2 := HS.out.free p
      have HS2 : Row w.heap.size w p (45 :: dig v :: ds) ((wr.setCell ⟨w.heap.size, p + 1, none⟩ (.int .u8 ((dig v).toNat : Int))).setCell ⟨w.heap.size, p, none⟩ (.int .u8 45)) := HS.out.step (by omega) 45
      have hpl : (p : Int) < 65 := by omega
      have hsl := fun W => run_tail w.heap.size p (ds.length + 1 + 1) (by have := HM.out; omega) (by omega) W
      have hcv : (convert 78 9 (.slice (some ⟨w.heap.size, p, none⟩) (ds.length + 1 + 1) (ds.length + 1 + 1))).run Tryd.prog _ = _ := run_text HS2 (ds.length + 1 + 1)
      have HQ := Lib.hid HS2
      clear HS2 HS hv64 hlen
      go_wp2
      go_returns
      exact ⟨by rw [HD2.out]; rfl, HQ.out.below⟩
theorem p2_4 (w : World) : Calls Tryd.prog 96 #[.int .i64 4] w fun e w' => e = .returned (.bool true) ∧ w' = w := by
  have hp : bits .and .i64 4 3 = 0 := by decide +kernel
  go_enter Tryd.func96, Tryd.ntmps96
  go_wp2
  go_ret
  exact ⟨rfl, rfl⟩
theorem tz_4 (w : World) (h : w.cell? ⟨4, 3, none⟩ = some (.int .u8 2)) : Calls Tryd.prog 97 #[.int .u64 4] w fun e w' => e = .returned (.int .i64 2) ∧ w' = w := by
  have H := Lib.hid (tz64_4 w h)
  clear h
  go_enter Tryd.func97, Tryd.ntmps97
  go_wp2_with (go_at_call 99; refine H.out.mono ?_; rintro e w' ⟨rfl, rfl⟩)
  go_ret
  exact ⟨rfl, rfl⟩
set_option maxHeartbeats 2000000 in
theorem fb_plain4 (u : Nat) (hu : u < 18446744073709551616) (w : World) (hT : TzW w) :
    Calls Tryd.prog 92 #[.slice none 0 0, .int .u64 (u : Int), .int .i64 4, .bool false, .bool false] w (FbPost 4 u false w) := by
  have HTz := Lib.hid (hT.below ((Below.refl _ _).alloc (Nat.le_refl _) (.cells Tryd.zeroCells117 117)))
  clear hT
  go_enter Tryd.func92, Tryd.ntmps92
  go_wp2_with (first | (go_at_call 96; refine (p2_4 _).mono ?_; rintro e w' ⟨rfl, rfl⟩) | (go_at_call 97; refine (tz_4 _ HTz.out.2.1).mono ?_; rintro e w' ⟨rfl, rfl⟩))
  go_loopw [1, 13] (fun a i wr => ∃ (v m : Nat) (ds : List UInt8), a = .int .u64 (v : Int) ∧ i = .int .i64 (m : Int) ∧ m + ds.length = 65 ∧ digs 4 u = digs 4 v ++ ds ∧ (v * 2 ^ ds.length ≤ u ∧ (v = 0 → ds = [])) ∧ Row w.heap.size w m ds wr) (fun a _ _ => (intOf a).toNat)
  case atStart => exact ⟨u, 65, [], rfl, rfl, rfl, by simp, ⟨by simp, fun _ => rfl⟩, Row.start w⟩
  case round =>
    obtain ⟨v, m, ds, rfl, rfl, hm, hd, ⟨hv, hv0⟩, hR⟩ := hrel
    have HD := Lib.hid hd
    have HV := Lib.hid hv
    have HM := Lib.hid hm
    have HR := Lib.hid hR
    have hv64 := v_lt hv hu
    have hlen := len_lt hv0 hv hu
    clear hd hv hR hv0
    obtain ⟨q, rfl⟩ : ∃ q, m = q + 1 := ⟨m - 1, by omega⟩
    obtain ⟨vv, hc⟩ := HR.out.cells q (by omega)
    have hf := HR.out.free q
    have hq64 : wrap64 (q : Int) = (q : Int) := IntWalk.wrap64_in _ ⟨by omega, by omega⟩
    have hql : (q : Int) < 65 := by omega
    clear hm
    by_cases hlt : 4 ≤ v
    · have ws : bits .and .u64 (v : Int) 3 = (v : Int) % 4 := by_mod hv64 (by decide) (by decide)
      have hd1 : ∀ W, (Instr.index 9 (.string ⟨#[48, 49, 50, 51, 52, 53, 54, 55, 56, 57, 97, 98, 99, 100, 101, 102, 103, 104, 105, 106, 107, 108, 109, 110, 111, 112, 113, 114, 115, 116, 117, 118, 119, 120, 121, 122]⟩) (.int .u64 ((v : Int) % 4))).run Tryd.prog W = .ok (.int .u8 ((dig (v % 4)).toNat : Int)) W := fun W => run_dig_lit .u64 4 (show v % 4 < 36 from Nat.lt_of_lt_of_le (Nat.mod_lt _ (by omega)) (by decide)) W
      have HS := Lib.hid (HR.out.step (by omega) (dig (v % 4)))
      have HD2 := Lib.hid (show digs 4 u = digs 4 (v / 4) ++ (dig (v % 4) :: ds) by rw [HD.out, digs_big (by decide) hlt, List.append_assoc]; rfl)
      have HV2 := Lib.hid (step_le (b := 4) (by decide) HV.out)
      have HL := Lib.hid (Nat.div_lt_self (show 0 < v by omega) (show 1 < 4 by decide))
      have HP := Lib.hid (Nat.div_pos hlt (by omega))
      clear hv64 hlen HD HV
      go_wp2
      have e : (v : Int) / 4 = ((v / 4 : Nat) : Int) := (Int.natCast_ediv v 4).symm
      refine ⟨⟨v / 4, q, dig (v % 4) :: ds, by rw [e], rfl, by have := HM.out; simp; omega, HD2.out, ⟨HV2.out, fun h => by have := HP.out; omega⟩, HS.out⟩, ?measure⟩
      case measure =>
        have hx : (v : Int) / 4 < (v : Int) := by rw [e]; exact Int.ofNat_lt.2 HL.out
        have hy : 0 ≤ (v : Int) / 4 := by rw [e]; exact Int.natCast_nonneg _
        clear e
        simp [intOf]
        omega
    · have hd2 := fun W => run_dig .u64 v (show v < 36 by omega) W
      have HS := Lib.hid (HR.out.step (by omega) (dig v))
      have HD2 := Lib.hid (show digs 4 u = dig v :: ds by rw [HD.out, digs_small (by omega)]; rfl)
      clear HD HV
      have hsl := fun W => run_tail w.heap.size q (ds.length + 1) (by have := HM.out; omega) (by omega) W
      have hcv : (convert 78 9 (.slice (some ⟨w.heap.size, q, none⟩) (ds.length + 1) (ds.length + 1))).run Tryd.prog _ = _ := run_text HS.out (ds.length + 1)
      clear hv64 hlen
      go_wp2
      go_returns
      exact ⟨by rw [HD2.out]; rfl, HS.out.below⟩
set_option maxHeartbeats 2000000 in
theorem fb_neg4 (u : Nat) (hu : u < 18446744073709551616) (U : Int) (hU : IntKind.u64.wrap (-U) = (u : Int)) (w : World) (hT : TzW w) :
    Calls Tryd.prog 92 #[.slice none 0 0, .int .u64 U, .int .i64 4, .bool true, .bool false] w (FbPost 4 u true w) := by
  have HTz := Lib.hid (hT.below ((Below.refl _ _).alloc (Nat.le_refl _) (.cells Tryd.zeroCells117 117)))
  clear hT
  go_enter Tryd.func92, Tryd.ntmps92
  go_wp2_with (first | (go_at_call 96; refine (p2_4 _).mono ?_; rintro e w' ⟨rfl, rfl⟩) | (go_at_call 97; refine (tz_4 _ HTz.out.2.1).mono ?_; rintro e w' ⟨rfl, rfl⟩))
  go_loopw [1, 13] (fun a i wr => ∃ (v m : Nat) (ds : List UInt8), a = .int .u64 (v : Int) ∧ i = .int .i64 (m : Int) ∧ m + ds.length = 65 ∧ digs 4 u = digs 4 v ++ ds ∧ (v * 2 ^ ds.length ≤ u ∧ (v = 0 → ds = [])) ∧ Row w.heap.size w m ds wr) (fun a _ _ => (intOf a).toNat)
  case atStart => exact ⟨u, 65, [], rfl, rfl, rfl, by simp, ⟨by simp, fun _ => rfl⟩, Row.start w⟩
  case round =>
    obtain ⟨v, m, ds, rfl, rfl, hm, hd, ⟨hv, hv0⟩, hR⟩ := hrel
    have HD := Lib.hid hd
    have HV := Lib.hid hv
    have HM := Lib.hid hm
    have HR := Lib.hid hR
    have hv64 := v_lt hv hu
    have hlen := len_lt hv0 hv hu
    clear hd hv hR hv0
    obtain ⟨q, rfl⟩ : ∃ q, m = q + 1 := ⟨m - 1, by omega⟩
    obtain ⟨vv, hc⟩ := HR.out.cells q (by omega)
    have hf := HR.out.free q
    have hq64 : wrap64 (q : Int) = (q : Int) := IntWalk.wrap64_in _ ⟨by omega, by omega⟩
    have hql : (q : Int) < 65 := by omega
    clear hm
    by_cases hlt : 4 ≤ v
    · have ws : bits .and .u64 (v : Int) 3 = (v : Int) % 4 := by_mod hv64 (by decide) (by decide)
      have hd1 : ∀ W, (Instr.index 9 (.string ⟨#[48, 49, 50, 51, 52, 53, 54, 55, 56, 57, 97, 98, 99, 100, 101, 102, 103, 104, 105, 106, 107, 108, 109, 110, 111, 112, 113, 114, 115, 116, 117, 118, 119, 120, 121, 122]⟩) (.int .u64 ((v : Int) % 4))).run Tryd.prog W = .ok (.int .u8 ((dig (v % 4)).toNat : Int)) W := fun W => run_dig_lit .u64 4 (show v % 4 < 36 from Nat.lt_of_lt_of_le (Nat.mod_lt _ (by omega)) (by decide)) W
      have HS := Lib.hid (HR.out.step (by omega) (dig (v % 4)))
      have HD2 := Lib.hid (show digs 4 u = digs 4 (v / 4) ++ (dig (v % 4) :: ds) by rw [HD.out, digs_big (by decide) hlt, List.append_assoc]; rfl)
      have HV2 := Lib.hid (step_le (b := 4) (by decide) HV.out)
      have HL := Lib.hid (Nat.div_lt_self (show 0 < v by omega) (show 1 < 4 by decide))
      have HP := Lib.hid (Nat.div_pos hlt (by omega))
      clear hv64 hlen HD HV
      go_wp2
      have e : (v : Int) / 4 = ((v / 4 : Nat) : Int) := (Int.natCast_ediv v 4).symm
      refine ⟨⟨v / 4, q, dig (v % 4) :: ds, by rw [e], rfl, by have := HM.out; simp; omega, HD2.out, ⟨HV2.out, fun h => by have := HP.out; omega⟩, HS.out⟩, ?measure⟩
      case measure =>
        have hx : (v : Int) / 4 < (v : Int) := by rw [e]; exact Int.ofNat_lt.2 HL.out
        have hy : 0 ≤ (v : Int) / 4 := by rw [e]; exact Int.natCast_nonneg _
        clear e
        simp [intOf]
        omega
    · have hd2 := fun W => run_dig .u64 v (show v < 36 by omega) W
      have HS := Lib.hid (HR.out.step (by omega) (dig v))
      have HD2 := Lib.hid (show digs 4 u = dig v :: ds by rw [HD.out, digs_small (by omega)]; rfl)
      clear HD HV
      obtain ⟨p, rfl⟩ : ∃ p, q = p + 1 := ⟨q - 1, by have := HM.out; omega⟩
      have hp64 : wrap64 (p : Int) = (p : Int) := IntWalk.wrap64_in _ ⟨by omega, by omega⟩
      obtain ⟨v2, hc2⟩ := HS.out.cells p (by omega)
      have hf2 := HS.out.free p
      have HS2 : Row w.heap.size w p (45 :: dig v :: ds) ((wr.setCell ⟨w.heap.size, p + 1, none⟩ (.int .u8 ((dig v).toNat : Int))).setCell ⟨w.heap.size, p, none⟩ (.int .u8 45)) := HS.out.step (by omega) 45
      have hpl : (p : Int) < 65 := by omega
      have hsl := fun W => run_tail w.heap.size p (ds.length + 1 + 1) (by have := HM.out; omega) (by omega) W
      have hcv : (convert 78 9 (.slice (some ⟨w.heap.size, p, none⟩) (ds.length + 1 + 1) (ds.length + 1 + 1))).run Tryd.prog _ = _ := run_text HS2 (ds.length + 1 + 1)
      have HQ := Lib.hid HS2
      clear HS2 HS hv64 hlen
      go_wp2
      go_returns
      exact ⟨by rw [HD2.out]; rfl, HQ.out.below⟩
theorem p2_8 (w : World) : Calls Tryd.prog 96 #[.int .i64 8] w fun e w' => e = .returned (.bool true) ∧ w' = w := by
  have hp : bits .and .i64 8 7 = 0 := by decide +kernel
  go_enter Tryd.func96, Tryd.ntmps96
  go_wp2
  go_ret
  exact ⟨rfl, rfl⟩
theorem tz_8 (w : World) (h : w.cell? ⟨4, 7, none⟩ = some (.int .u8 3)) : Calls Tryd.prog 97 #[.int .u64 8] w fun e w' => e = .returned (.int .i64 3) ∧ w' = w := by
  have H := Lib.hid (tz64_8 w h)
  clear h
  go_enter Tryd.func97, Tryd.ntmps97
  go_wp2_with (go_at_call 99; refine H.out.mono ?_; rintro e w' ⟨rfl, rfl⟩)
  go_ret
  exact ⟨rfl, rfl⟩
set_option maxHeartbeats 2000000 in
theorem fb_plain8 (u : Nat) (hu : u < 18446744073709551616) (w : World) (hT : TzW w) :
    Calls Tryd.prog 92 #[.slice none 0 0, .int .u64 (u : Int), .int .i64 8, .bool false, .bool false] w (FbPost 8 u false w) := by
  have HTz := Lib.hid (hT.below ((Below.refl _ _).alloc (Nat.le_refl _) (.cells Tryd.zeroCells117 117)))
  clear hT
  go_enter Tryd.func92, Tryd.ntmps92
  go_wp2_with (first | (go_at_call 96; refine (p2_8 _).mono ?_; rintro e w' ⟨rfl, rfl⟩) | (go_at_call 97; refine (tz_8 _ HTz.out.2.2.1).mono ?_; rintro e w' ⟨rfl, rfl⟩))
  go_loopw [1, 13] (fun a i wr => ∃ (v m : Nat) (ds : List UInt8), a = .int .u64 (v : Int) ∧ i = .int .i64 (m : Int) ∧ m + ds.length = 65 ∧ digs 8 u = digs 8 v ++ ds ∧ (v * 2 ^ ds.length ≤ u ∧ (v = 0 → ds = [])) ∧ Row w.heap.size w m ds wr) (fun a _ _ => (intOf a).toNat)
  case atStart => exact ⟨u, 65, [], rfl, rfl, rfl, by simp, ⟨by simp, fun _ => rfl⟩, Row.start w⟩
  case round =>
    obtain ⟨v, m, ds, rfl, rfl, hm, hd, ⟨hv, hv0⟩, hR⟩ := hrel
    have HD := Lib.hid hd
    have HV := Lib.hid hv
    have HM := Lib.hid hm
    have HR := Lib.hid hR
    have hv64 := v_lt hv hu
    have hlen := len_lt hv0 hv hu
    clear hd hv hR hv0
    obtain ⟨q, rfl⟩ : ∃ q, m = q + 1 := ⟨m - 1, by omega⟩
    obtain ⟨vv, hc⟩ := HR.out.cells q (by omega)
    have hf := HR.out.free q
    have hq64 : wrap64 (q : Int) = (q : Int) := IntWalk.wrap64_in _ ⟨by omega, by omega⟩
    have hql : (q : Int) < 65 := by omega
    clear hm
    by_cases hlt : 8 ≤ v
    · have ws : bits .and .u64 (v : Int) 7 = (v : Int) % 8 := by_mod hv64 (by decide) (by decide)
      have hd1 : ∀ W, (Instr.index 9 (.string ⟨#[48, 49, 50, 51, 52, 53, 54, 55, 56, 57, 97, 98, 99, 100, 101, 102, 103, 104, 105, 106, 107, 108, 109, 110, 111, 112, 113, 114, 115, 116, 117, 118, 119, 120, 121, 122]⟩) (.int .u64 ((v : Int) % 8))).run Tryd.prog W = .ok (.int .u8 ((dig (v % 8)).toNat : Int)) W := fun W => run_dig_lit .u64 8 (show v % 8 < 36 from Nat.lt_of_lt_of_le (Nat.mod_lt _ (by omega)) (by decide)) W
      have HS := Lib.hid (HR.out.step (by omega) (dig (v % 8)))
      have HD2 := Lib.hid (show digs 8 u = digs 8 (v / 8) ++ (dig (v % 8) :: ds) by rw [HD.out, digs_big (by decide) hlt, List.append_assoc]; rfl)
      have HV2 := Lib.hid (step_le (b := 8) (by decide) HV.out)
      have HL := Lib.hid (Nat.div_lt_self (show 0 < v by omega) (show 1 < 8 by decide))
      have HP := Lib.hid (Nat.div_pos hlt (by omega))
      clear hv64 hlen HD HV
      go_wp2
      have e : (v : Int) / 8 = ((v / 8 : Nat) : Int) := (Int.natCast_ediv v 8).symm
      refine ⟨⟨v / 8, q, dig (v % 8) :: ds, by rw [e], rfl, by have := HM.out; simp; omega, HD2.out, ⟨HV2.out, fun h => by have := HP.out; omega⟩, HS.out⟩, ?measure⟩
      case measure =>
        have hx : (v : Int) / 8 < (v : Int) := by rw [e]; exact Int.ofNat_lt.2 HL.out
        have hy : 0 ≤ (v : Int) / 8 := by rw [e]; exact Int.natCast_nonneg _
        clear e
        simp [intOf]
        omega
    · have hd2 := fun W => run_dig .u64 v (show v < 36 by omega) W
      have HS := Lib.hid (HR.out.step (by omega) (dig v))
      have HD2 := Lib.hid (show digs 8 u = dig v :: ds by rw [HD.out, digs_small (by omega)]; rfl)
      clear HD HV
      have hsl := fun W => run_tail w.heap.size q (ds.length + 1) (by have := HM.out; omega) (by omega) W
      have hcv : (convert 78 9 (.slice (some ⟨w.heap.size, q, none⟩) (ds.length + 1) (ds.length + 1))).run Tryd.prog _ = _ := run_text HS.out (ds.length + 1)
      clear hv64 hlen
      go_wp2
      go_returns
      exact ⟨by rw [HD2.out]; rfl, HS.out.below⟩
set_option maxHeartbeats 2000000 in
theorem fb_neg8 (u : Nat) (hu : u < 18446744073709551616) (U : Int) (hU : IntKind.u64.wrap (-U) = (u : Int)) (w : World) (hT : TzW w) :
    Calls Tryd.prog 92 #[.slice none 0 0, .int .u64 U, .int .i64 8, .bool true, .bool false] w (FbPost 8 u true w) := by
  have HTz := Lib.hid (hT.below ((Below.refl _ _).alloc (Nat.le_refl _) (.cells Tryd.zeroCells117 117)))
  clear hT
  go_enter Tryd.func92, Tryd.ntmps92
  go_wp2_with (first | (go_at_call 96; refine (p2_8 _).mono ?_; rintro e w' ⟨rfl, rfl⟩) | (go_at_call 97; refine (tz_8 _ HTz.out.2.2.1).mono ?_; rintro e w' ⟨rfl, rfl⟩))
  go_loopw [1, 13] (fun a i wr => ∃ (v m : Nat) (ds : List UInt8), a = .int .u64 (v : Int) ∧ i = .int .i64 (m : Int) ∧ m + ds.length = 65 ∧ digs 8 u = digs 8 v ++ ds ∧ (v * 2 ^ ds.length ≤ u ∧ (v = 0 → ds = [])) ∧ Row w.heap.size w m ds wr) (fun a _ _ => (intOf a).toNat)
  case atStart => exact ⟨u, 65, [], rfl, rfl, rfl, by simp, ⟨by simp, fun _ => rfl⟩, Row.start w⟩
  case round =>
    obtain ⟨v, m, ds, rfl, rfl, hm, hd, ⟨hv, hv0⟩, hR⟩ := hrel
    have HD := Lib.hid hd
    have HV := Lib.hid hv
    have HM := Lib.hid hm
    have HR := Lib.hid hR
    have hv64 := v_lt hv hu
    have hlen := len_lt hv0 hv hu
    clear hd hv hR hv0
    obtain ⟨q, rfl⟩ : ∃ q, m = q + 1 := ⟨m - 1, by omega⟩
    obtain ⟨vv, hc⟩ := HR.out.cells q (by omega)
    have hf := HR.out.free q
    have hq64 : wrap64 (q : Int) = (q : Int) := IntWalk.wrap64_in _ ⟨by omega, by omega⟩
    have hql : (q : Int) < 65 := by omega
    clear hm
    by_cases hlt : 8 ≤ v
    · have ws : bits .and .u64 (v : Int) 7 = (v : Int) % 8 := by_mod hv64 (by decide) (by decide)
      have hd1 : ∀ W, (Instr.index 9 (.string ⟨#[48, 49, 50, 51, 52, 53, 54, 55, 56, 57, 97, 98, 99, 100, 101, 102, 103, 104, 105, 106, 107, 108, 109, 110, 111, 112, 113, 114, 115, 116, 117, 118, 119, 120, 121, 122]⟩) (.int .u64 ((v : Int) % 8))).run Tryd.prog W = .ok (.int .u8 ((dig (v % 8)).toNat : Int)) W := fun W => run_dig_lit .u64 8 (show v % 8 < 36 from Nat.lt_of_lt_of_le (Nat.mod_lt _ (by omega)) (by decide)) W
      have HS := Lib.hid (HR.out.step (by omega) (dig (v % 8)))
      have HD2 := Lib.hid (show digs 8 u = digs 8 (v / 8) ++ (dig (v % 8) :: ds) by rw [HD.out, digs_big (by decide) hlt, List.append_assoc]; rfl)
      have HV2 := Lib.hid (step_le (b := 8) (by decide) HV.out)
      have HL := Lib.hid (Nat.div_lt_self (show 0 < v by omega) (show 1 < 8 by decide))
      have HP := Lib.hid (Nat.div_pos hlt (by omega))
      clear hv64 hlen HD HV
      go_wp2
      have e : (v : Int) / 8 = ((v / 8 : Nat) : Int) := (Int.natCast_ediv v 8).symm
      refine ⟨⟨v / 8, q, dig (v % 8) :: ds, by rw [e], rfl, by have := HM.out; simp; omega, HD2.out, ⟨HV2.out, fun h => by have := HP.out; omega⟩, HS.out⟩, ?measure⟩
      case measure =>
        have hx : (v : Int) / 8 < (v : Int) := by rw [e]; exact Int.ofNat_lt.2 HL.out
        have hy : 0 ≤ (v : Int) / 8 := by rw [e]; exact Int.natCast_nonneg _
        clear e
        simp [intOf]
        omega
    · have hd2 := fun W => run_dig .u64 v (show v < 36 by omega) W
      have HS := Lib.hid (HR.out.step (by omega) (dig v))
      have HD2 := Lib.hid (show digs 8 u = dig v :: ds by rw [HD.out, digs_small (by omega)]; rfl)
      clear HD HV
      obtain ⟨p, rfl⟩ : ∃ p, q = p + 1 := ⟨q - 1, by have := HM.out; omega⟩
      have hp64 : wrap64 (p : Int) = (p : Int) := IntWalk.wrap64_in _ ⟨by omega, by omega⟩
      obtain ⟨v2, hc2⟩ := HS.out.cells p (by omega)
      have hf2 := HS.out.free p
      have HS2 : Row w.heap.size w p (45 :: dig v :: ds) ((wr.setCell ⟨w.heap.size, p + 1, none⟩ (.int .u8 ((dig v).toNat : Int))).setCell ⟨w.heap.size, p, none⟩ (.int .u8 45)) := HS.out.step (by omega) 45
      have hpl : (p : Int) < 65 := by omega
      have hsl := fun W => run_tail w.heap.size p (ds.length + 1 + 1) (by have := HM.out; omega) (by omega) W
      have hcv : (convert 78 9 (.slice (some ⟨w.heap.size, p, none⟩) (ds.length + 1 + 1) (ds.length + 1 + 1))).run Tryd.prog _ = _ := run_text HS2 (ds.length + 1 + 1)
      have HQ := Lib.hid HS2
      clear HS2 HS hv64 hlen
      go_wp2
      go_returns
      exact ⟨by rw [HD2.out]; rfl, HQ.out.below⟩
theorem p2_16 (w : World) : Calls Tryd.prog 96 #[.int .i64 16] w fun e w' => e = .returned (.bool true) ∧ w' = w := by
  have hp : bits .and .i64 16 15 = 0 := by decide +kernel
  go_enter Tryd.func96, Tryd.ntmps96
  go_wp2
  go_ret
  exact ⟨rfl, rfl⟩
theorem tz_16 (w : World) (h : w.cell? ⟨4, 15, none⟩ = some (.int .u8 4)) : Calls Tryd.prog 97 #[.int .u64 16] w fun e w' => e = .returned (.int .i64 4) ∧ w' = w := by
  have H := Lib.hid (tz64_16 w h)
  clear h
  go_enter Tryd.func97, Tryd.ntmps97
  go_wp2_with (go_at_call 99; refine H.out.mono ?_; rintro e w' ⟨rfl, rfl⟩)
  go_ret
  exact ⟨rfl, rfl⟩
set_option maxHeartbeats 2000000 in
theorem fb_plain16 (u : Nat) (hu : u < 18446744073709551616) (w : World) (hT : TzW w) :
    Calls Tryd.prog 92 #[.slice none 0 0, .int .u64 (u : Int), .int .i64 16, .bool false, .bool false] w (FbPost 16 u false w) := by
  have HTz := Lib.hid (hT.below ((Below.refl _ _).alloc (Nat.le_refl _) (.cells Tryd.zeroCells117 117)))
  clear hT
  go_enter Tryd.func92, Tryd.ntmps92
  go_wp2_with (first | (go_at_call 96; refine (p2_16 _).mono ?_; rintro e w' ⟨rfl, rfl⟩) | (go_at_call 97; refine (tz_16 _ HTz.out.2.2.2.1).mono ?_; rintro e w' ⟨rfl, rfl⟩))
  go_loopw [1, 13] (fun a i wr => ∃ (v m : Nat) (ds : List UInt8), a = .int .u64 (v : Int) ∧ i = .int .i64 (m : Int) ∧ m + ds.length = 65 ∧ digs 16 u = digs 16 v ++ ds ∧ (v * 2 ^ ds.length ≤ u ∧ (v = 0 → ds = [])) ∧ Row w.heap.size w m ds wr) (fun a _ _ => (intOf a).toNat)
  case atStart => exact ⟨u, 65, [], rfl, rfl, rfl, by simp, ⟨by simp, fun _ => rfl⟩, Row.start w⟩
  case round =>
    obtain ⟨v, m, ds, rfl, rfl, hm, hd, ⟨hv, hv0⟩, hR⟩ := hrel
    have HD := Lib.hid hd
    have HV := Lib.hid hv
    have HM := Lib.hid hm
    have HR := Lib.hid hR
    have hv64 := v_lt hv hu
    have hlen := len_lt hv0 hv hu
    clear hd hv hR hv0
    obtain ⟨q, rfl⟩ : ∃ q, m = q + 1 := ⟨m - 1, by omega⟩
    obtain ⟨vv, hc⟩ := HR.out.cells q (by omega)
    have hf := HR.out.free q
    have hq64 : wrap64 (q : Int) = (q : Int) := IntWalk.wrap64_in _ ⟨by omega, by omega⟩
    have hql : (q : Int) < 65 := by omega
    clear hm
    by_cases hlt : 16 ≤ v
    · have ws : bits .and .u64 (v : Int) 15 = (v : Int) % 16 := by_mod hv64 (by decide) (by decide)
      have hd1 : ∀ W, (Instr.index 9 (.string ⟨#[48, 49, 50, 51, 52, 53, 54, 55, 56, 57, 97, 98, 99, 100, 101, 102, 103, 104, 105, 106, 107, 108, 109, 110, 111, 112, 113, 114, 115, 116, 117, 118, 119, 120, 121, 122]⟩) (.int .u64 ((v : Int) % 16))).run Tryd.prog W = .ok (.int .u8 ((dig (v % 16)).toNat : Int)) W := fun W => run_dig_lit .u64 16 (show v % 16 < 36 from Nat.lt_of_lt_of_le (Nat.mod_lt _ (by omega)) (by decide)) W
      have HS := Lib.hid (HR.out.step (by omega) (dig (v % 16)))
      have HD2 := Lib.hid (show digs 16 u = digs 16 (v / 16) ++ (dig (v % 16) :: ds) by rw [HD.out, digs_big (by decide) hlt, List.append_assoc]; rfl)
      have HV2 := Lib.hid (step_le (b := 16) (by decide) HV.out)
      have HL := Lib.hid (Nat.div_lt_self (show 0 < v by omega) (show 1 < 16 by decide))
      have HP := Lib.hid (Nat.div_pos hlt (by omega))
      clear hv64 hlen HD HV
      go_wp2
      have e : (v : Int) / 16 = ((v / 16 : Nat) : Int) := (Int.natCast_ediv v 16).symm
      refine ⟨⟨v / 16, q, dig (v % 16) :: ds, by rw [e], rfl, by have := HM.out; simp; omega, HD2.out, ⟨HV2.out, fun h => by have := HP.out; omega⟩, HS.out⟩, ?measure⟩
      case measure =>
        have hx : (v : Int) / 16 < (v : Int) := by rw [e]; exact Int.ofNat_lt.2 HL.out
        have hy : 0 ≤ (v : Int) / 16 := by rw [e]; exact Int.natCast_nonneg _
        clear e
        simp [intOf]
        omega
    · have hd2 := fun W => run_dig .u64 v (show v < 36 by omega) W
      have HS := Lib.hid (HR.out.step (by omega) (dig v))
      have HD2 := Lib.hid (show digs 16 u = dig v :: ds by rw [HD.out, digs_small (by omega)]; rfl)
      clear HD HV
      have hsl := fun W => run_tail w.heap.size q (ds.length + 1) (by have := HM.out; omega) (by omega) W
      have hcv : (convert 78 9 (.slice (some ⟨w.heap.size, q, none⟩) (ds.length + 1) (ds.length + 1))).run Tryd.prog _ = _ := run_text HS.out (ds.length + 1)
      clear hv64 hlen
      go_wp2
      go_returns
      exact ⟨by rw [HD2.out]; rfl, HS.out.below⟩
set_option maxHeartbeats 2000000 in
theorem fb_neg16 (u : Nat) (hu : u < 18446744073709551616) (U : Int) (hU : IntKind.u64.wrap (-U) = (u : Int)) (w : World) (hT : TzW w) :
    Calls Tryd.prog 92 #[.slice none 0 0, .int .u64 U, .int .i64 16, .bool true, .bool false] w (FbPost 16 u true w) := by
  have HTz := Lib.hid (hT.below ((Below.refl _ _).alloc (Nat.le_refl _) (.cells Tryd.zeroCells117 117)))
  clear hT
  go_enter Tryd.func92, Tryd.ntmps92
  go_wp2_with (first | (go_at_call 96; refine (p2_16 _).mono ?_; rintro e w' ⟨rfl, rfl⟩) | (go_at_call 97; refine (tz_16 _ HTz.out.2.2.2.1).mono ?_; rintro e w' ⟨rfl, rfl⟩))
  go_loopw [1, 13] (fun a i wr => ∃ (v m : Nat) (ds : List UInt8), a = .int .u64 (v : Int) ∧ i = .int .i64 (m : Int) ∧ m + ds.length = 65 ∧ digs 16 u = digs 16 v ++ ds ∧ (v * 2 ^ ds.length ≤ u ∧ (v = 0 → ds = [])) ∧ Row w.heap.size w m ds wr) (fun a _ _ => (intOf a).toNat)
  case atStart => exact ⟨u, 65, [], rfl, rfl, rfl, by simp, ⟨by simp, fun _ => rfl⟩, Row.start w⟩
  case round =>
    obtain ⟨v, m, ds, rfl, rfl, hm, hd, ⟨hv, hv0⟩, hR⟩ := hrel
    have HD := Lib.hid hd
    have HV := Lib.hid hv
    have HM := Lib.hid hm
    have HR := Lib.hid hR
    have hv64 := v_lt hv hu
    have hlen := len_lt hv0 hv hu
    clear hd hv hR hv0
    obtain ⟨q, rfl⟩ : ∃ q, m = q + 1 := ⟨m - 1, by omega⟩
    obtain ⟨vv, hc⟩ := HR.out.cells q (by omega)
    have hf := HR.out.free q
    have hq64 : wrap64 (q : Int) = (q : Int) := IntWalk.wrap64_in _ ⟨by omega, by omega⟩
    have hql : (q : Int) < 65 := by omega
    clear hm
    by_cases hlt : 16 ≤ v
    · have ws : bits .and .u64 (v : Int) 15 = (v : Int) % 16 := by_mod hv64 (by decide) (by decide)
      have hd1 : ∀ W, (Instr.index 9 (.string ⟨#[48, 49, 50, 51, 52, 53, 54, 55, 56, 57, 97, 98, 99, 100, 101, 102, 103, 104, 105, 106, 107, 108, 109, 110, 111, 112, 113, 114, 115, 116, 117, 118, 119, 120, 121, 122]⟩) (.int .u64 ((v : Int) % 16))).run Tryd.prog W = .ok (.int .u8 ((dig (v % 16)).toNat : Int)) W := fun W => run_dig_lit .u64 16 (show v % 16 < 36 from Nat.lt_of_lt_of_le (Nat.mod_lt _ (by omega)) (by decide)) W
      have HS := Lib.hid (HR.out.step (by omega) (dig (v % 16)))
      have HD2 := Lib.hid (show digs 16 u = digs 16 (v / 16) ++ (dig (v % 16) :: ds) by rw [HD.out, digs_big (by decide) hlt, List.append_assoc]; rfl)
      have HV2 := Lib.hid (step_le (b := 16) (by decide) HV.out)
      have HL := Lib.hid (Nat.div_lt_self (show 0 < v by omega) (show 1 < 16 by decide))
      have HP := Lib.hid (Nat.div_pos hlt (by omega))
      clear hv64 hlen HD HV
      go_wp2
      have e : (v : Int) / 16 = ((v / 16 : Nat) : Int) := (Int.natCast_ediv v 16).symm
      refine ⟨⟨v / 16, q, dig (v % 16) :: ds, by rw [e], rfl, by have := HM.out; simp; omega, HD2.out, ⟨HV2.out, fun h => by have := HP.out; omega⟩, HS.out⟩, ?measure⟩
      case measure =>
        have hx : (v : Int) / 16 < (v : Int) := by rw [e]; exact Int.ofNat_lt.2 HL.out
        have hy : 0 ≤ (v : Int) / 16 := by rw [e]; exact Int.natCast_nonneg _
        clear e
        simp [intOf]
        omega
    · have hd2 := fun W => run_dig .u64 v (show v < 36 by omega) W
      have HS := Lib.hid (HR.out.step (by omega) (dig v))
      have HD2 := Lib.hid (show digs 16 u = dig v :: ds by rw [HD.out, digs_small (by omega)]; rfl)
      clear HD HV
      obtain ⟨p, rfl⟩ : ∃ p, q = p + 1 := ⟨q - 1, by have := HM.out; omega⟩
      have hp64 : wrap64 (p : Int) = (p : Int) := IntWalk.wrap64_in _ ⟨by omega, by omega⟩
      obtain ⟨v2, hc2⟩ := HS.out.cells p (by omega)
      have hf2 := HS.out.free p
      have HS2 : Row w.heap.size w p (45 :: dig v :: ds) ((wr.setCell ⟨w.heap.size, p + 1, none⟩ (.int .u8 ((dig v).toNat : Int))).setCell ⟨w.heap.size, p, none⟩ (.int .u8 45)) := HS.out.step (by omega) 45
      have hpl : (p : Int) < 65 := by omega
      have hsl := fun W => run_tail w.heap.size p (ds.length + 1 + 1) (by have := HM.out; omega) (by omega) W
      have hcv : (convert 78 9 (.slice (some ⟨w.heap.size, p, none⟩) (ds.length + 1 + 1) (ds.length + 1 + 1))).run Tryd.prog _ = _ := run_text HS2 (ds.length + 1 + 1)
      have HQ := Lib.hid HS2
      clear HS2 HS hv64 hlen
      go_wp2
      go_returns
      exact ⟨by rw [HD2.out]; rfl, HQ.out.below⟩
theorem p2_32 (w : World) : Calls Tryd.prog 96 #[.int .i64 32] w fun e w' => e = .returned (.bool true) ∧ w' = w := by
  have hp : bits .and .i64 32 31 = 0 := by decide +kernel
  go_enter Tryd.func96, Tryd.ntmps96
  go_wp2
  go_ret
  exact ⟨rfl, rfl⟩
theorem tz_32 (w : World) (h : w.cell? ⟨4, 31, none⟩ = some (.int .u8 5)) : Calls Tryd.prog 97 #[.int .u64 32] w fun e w' => e = .returned (.int .i64 5) ∧ w' = w := by
  have H := Lib.hid (tz64_32 w h)
  clear h
  go_enter Tryd.func97, Tryd.ntmps97
  go_wp2_with (go_at_call 99; refine H.out.mono ?_; rintro e w' ⟨rfl, rfl⟩)
  go_ret
  exact ⟨rfl, rfl⟩
set_option maxHeartbeats 2000000 in
theorem fb_plain32 (u : Nat) (hu : u < 18446744073709551616) (w : World) (hT : TzW w) :
    Calls Tryd.prog 92 #[.slice none 0 0, .int .u64 (u : Int), .int .i64 32, .bool false, .bool false] w (FbPost 32 u false w) := by
  have HTz := Lib.hid (hT.below ((Below.refl _ _).alloc (Nat.le_refl _) (.cells Tryd.zeroCells117 117)))
  clear hT
  go_enter Tryd.func92, Tryd.ntmps92
  go_wp2_with (first | (go_at_call 96; refine (p2_32 _).mono ?_; rintro e w' ⟨rfl, rfl⟩) | (go_at_call 97; refine (tz_32 _ HTz.out.2.2.2.2.1).mono ?_; rintro e w' ⟨rfl, rfl⟩))
  go_loopw [1, 13] (fun a i wr => ∃ (v m : Nat) (ds : List UInt8), a = .int .u64 (v : Int) ∧ i = .int .i64 (m : Int) ∧ m + ds.length = 65 ∧ digs 32 u = digs 32 v ++ ds ∧ (v * 2 ^ ds.length ≤ u ∧ (v = 0 → ds = [])) ∧ Row w.heap.size w m ds wr) (fun a _ _ => (intOf a).toNat)
  case atStart => exact ⟨u, 65, [], rfl, rfl, rfl, by simp, ⟨by simp, fun _ => rfl⟩, Row.start w⟩
  case round =>
    obtain ⟨v, m, ds, rfl, rfl, hm, hd, ⟨hv, hv0⟩, hR⟩ := hrel
    have HD := Lib.hid hd
    have HV := Lib.hid hv
    have HM := Lib.hid hm
    have HR := Lib.hid hR
    have hv64 := v_lt hv hu
    have hlen := len_lt hv0 hv hu
    clear hd hv hR hv0
    obtain ⟨q, rfl⟩ : ∃ q, m = q + 1 := ⟨m - 1, by omega⟩
    obtain ⟨vv, hc⟩ := HR.out.cells q (by omega)
    have hf := HR.out.free q
    have hq64 : wrap64 (q : Int) = (q : Int) := IntWalk.wrap64_in _ ⟨by omega, by omega⟩
    have hql : (q : Int) < 65 := by omega
    clear hm
    by_cases hlt : 32 ≤ v
    · have ws : bits .and .u64 (v : Int) 31 = (v : Int) % 32 := by_mod hv64 (by decide) (by decide)
      have hd1 : ∀ W, (Instr.index 9 (.string ⟨#[48, 49, 50, 51, 52, 53, 54, 55, 56, 57, 97, 98, 99, 100, 101, 102, 103, 104, 105, 106, 107, 108, 109, 110, 111, 112, 113, 114, 115, 116, 117, 118, 119, 120, 121, 122]⟩) (.int .u64 ((v : Int) % 32))).run Tryd.prog W = .ok (.int .u8 ((dig (v % 32)).toNat : Int)) W := fun W => run_dig_lit .u64 32 (show v % 32 < 36 from Nat.lt_of_lt_of_le (Nat.mod_lt _ (by omega)) (by decide)) W
      have HS := Lib.hid (HR.out.step (by omega) (dig (v % 32)))
      have HD2 := Lib.hid (show digs 32 u = digs 32 (v / 32) ++ (dig (v % 32) :: ds) by rw [HD.out, digs_big (by decide) hlt, List.append_assoc]; rfl)
      have HV2 := Lib.hid (step_le (b := 32) (by decide) HV.out)
      have HL := Lib.hid (Nat.div_lt_self (show 0 < v by omega) (show 1 < 32 by decide))
      have HP := Lib.hid (Nat.div_pos hlt (by omega))
      clear hv64 hlen HD HV
      go_wp2
      have e : (v : Int) / 32 = ((v / 32 : Nat) : Int) := (Int.natCast_ediv v 32).symm
      refine ⟨⟨v / 32, q, dig (v % 32) :: ds, by rw [e], rfl, by have := HM.out; simp; omega, HD2.out, ⟨HV2.out, fun h => by have := HP.out; omega⟩, HS.out⟩, ?measure⟩
      case measure =>
        have hx : (v : Int) / 32 < (v : Int) := by rw [e]; exact Int.ofNat_lt.2 HL.out
        have hy : 0 ≤ (v : Int) / 32 := by rw [e]; exact Int.natCast_nonneg _
        clear e
        simp [intOf]
        omega
    · have hd2 := fun W => run_dig .u64 v (show v < 36 by omega) W
      have HS := Lib.hid (HR.out.step (by omega) (dig v))
      have HD2 := Lib.hid (show digs 32 u = dig v :: ds by rw [HD.out, digs_small (by omega)]; rfl)
      clear HD HV
      have hsl := fun W => run_tail w.heap.size q (ds.length + 1) (by have := HM.out; omega) (by omega) W
      have hcv : (convert 78 9 (.slice (some ⟨w.heap.size, q, none⟩) (ds.length + 1) (ds.length + 1))).run Tryd.prog _ = _ := run_text HS.out (ds.length + 1)
      clear hv64 hlen
      go_wp2
      go_returns
      exact ⟨by rw [HD2.out]; rfl, HS.out.below⟩
set_option maxHeartbeats 2000000 in
theorem fb_neg32 (u : Nat) (hu : u < 18446744073709551616) (U : Int) (hU : IntKind.u64.wrap (-U) = (u : Int)) (w : World) (hT : TzW w) :
    Calls Tryd.prog 92 #[.slice none 0 0, .int .u64 U, .int .i64 32, .bool true, .bool false] w (FbPost 32 u true w) := by
  have HTz := Lib.hid (hT.below ((Below.refl _ _).alloc (Nat.le_refl _) (.cells Tryd.zeroCells117 117)))
  clear hT
  go_enter Tryd.func92, Tryd.ntmps92
  go_wp2_with (first | (go_at_call 96; refine (p2_32 _).mono ?_; rintro e w' ⟨rfl, rfl⟩) | (go_at_call 97; refine (tz_32 _ HTz.out.2.2.2.2.1).mono ?_; rintro e w' ⟨rfl, rfl⟩))
  go_loopw [1, 13] (fun a i wr => ∃ (v m : Nat) (ds : List UInt8), a = .int .u64 (v : Int) ∧ i = .int .i64 (m : Int) ∧ m + ds.length = 65 ∧ digs 32 u = digs 32 v ++ ds ∧ (v * 2 ^ ds.length ≤ u ∧ (v = 0 → ds = [])) ∧ Row w.heap.size w m ds wr) (fun a _ _ => (intOf a).toNat)
  case atStart => exact ⟨u, 65, [], rfl, rfl, rfl, by simp, ⟨by simp, fun _ => rfl⟩, Row.start w⟩
  case round =>
    obtain ⟨v, m, ds, rfl, rfl, hm, hd, ⟨hv, hv0⟩, hR⟩ := hrel
    have HD := Lib.hid hd
    have HV := Lib.hid hv
    have HM := Lib.hid hm
    have HR := Lib.hid hR
    have hv64 := v_lt hv hu
    have hlen := len_lt hv0 hv hu
    clear hd hv hR hv0
    obtain ⟨q, rfl⟩ : ∃ q, m = q + 1 := ⟨m - 1, by omega⟩
    obtain ⟨vv, hc⟩ := HR.out.cells q (by omega)
    have hf := HR.out.free q
    have hq64 : wrap64 (q : Int) = (q : Int) := IntWalk.wrap64_in _ ⟨by omega, by omega⟩
    have hql : (q : Int) < 65 := by omega
    clear hm
    by_cases hlt : 32 ≤ v
    · have ws : bits .and .u64 (v : Int) 31 = (v : Int) % 32 := by_mod hv64 (by decide) (by decide)
      have hd1 : ∀ W, (Instr.index 9 (.string ⟨#[48, 49, 50, 51, 52, 53, 54, 55, 56, 57, 97, 98, 99, 100, 101, 102, 103, 104, 105, 106, 107, 108, 109, 110, 111, 112, 113, 114, 115, 116, 117, 118, 119, 120, 121, 122]⟩) (.int .u64 ((v : Int) % 32))).run Tryd.prog W = .ok (.int .u8 ((dig (v % 32)).toNat : Int)) W := fun W => run_dig_lit .u64 32 (show v % 32 < 36 from Nat.lt_of_lt_of_le (Nat.mod_lt _ (by omega)) (by decide)) W
      have HS := Lib.hid (HR.out.step (by omega) (dig (v % 32)))
      have HD2 := Lib.hid (show digs 32 u = digs 32 (v / 32) ++ (dig (v % 32) :: ds) by rw [HD.out, digs_big (by decide) hlt, List.append_assoc]; rfl)
      have HV2 := Lib.hid (step_le (b := 32) (by decide) HV.out)
      have HL := Lib.hid (Nat.div_lt_self (show 0 < v by omega) (show 1 < 32 by decide))
      have HP := Lib.hid (Nat.div_pos hlt (by omega))
      clear hv64 hlen HD HV
      go_wp2
      have e : (v : Int) / 32 = ((v / 32 : Nat) : Int) := (Int.natCast_ediv v 32).symm
      refine ⟨⟨v / 32, q, dig (v % 32) :: ds, by rw [e], rfl, by have := HM.out; simp; omega, HD2.out, ⟨HV2.out, fun h => by have := HP.out; omega⟩, HS.out⟩, ?measure⟩
      case measure =>
        have hx : (v : Int) / 32 < (v : Int) := by rw [e]; exact Int.ofNat_lt.2 HL.out
        have hy : 0 ≤ (v : Int) / 32 := by rw [e]; exact Int.natCast_nonneg _
        clear e
        simp [intOf]
        omega
    · have hd2 := fun W => run_dig .u64 v (show v < 36 by omega) W
      have HS := Lib.hid (HR.out.step (by omega) (dig v))
      have HD2 := Lib.hid (show digs 32 u = dig v :: ds by rw [HD.out, digs_small (by omega)]; rfl)
      clear HD HV
      obtain ⟨p, rfl⟩ : ∃ p, q = p + 1 := ⟨q - 1, by have := HM.out; omega⟩
      have hp64 : wrap64 (p : Int) = (p : Int) := IntWalk.wrap64_in _ ⟨by omega, by omega⟩
      obtain ⟨v2, hc2⟩ := HS.out.cells p (by omega)
      have hf2 := HS.out.free p
      have HS2 : Row w.heap.size w p (45 :: dig v :: ds) ((wr.setCell ⟨w.heap.size, p + 1, none⟩ (.int .u8 ((dig v).toNat : Int))).setCell ⟨w.heap.size, p, none⟩ (.int .u8 45)) := HS.out.step (by omega) 45
      have hpl : (p : Int) < 65 := by omega
      have hsl := fun W => run_tail w.heap.size p (ds.length + 1 + 1) (by have := HM.out; omega) (by omega) W
      have hcv : (convert 78 9 (.slice (some ⟨w.heap.size, p, none⟩) (ds.length + 1 + 1) (ds.length + 1 + 1))).run Tryd.prog _ = _ := run_text HS2 (ds.length + 1 + 1)
      have HQ := Lib.hid HS2
      clear HS2 HS hv64 hlen
      go_wp2
      go_returns
      exact ⟨by rw [HD2.out]; rfl, HQ.out.below⟩
end Go.Proofs.YtpkgngpmnapdoaaDoor
