/- typeCheck of every value in a column of every type; ZZTypeCheck. -/
import Derived.Test.YtdhnhgcdajlpjaaDoorTy
import Derived.Test.YtdhnhgcdajlpjaaDoorTcOwn
import Derived.Test.YtdhnhgcdajlpjaaDoorTcInt
import Derived.Test.YtdhnhgcdajlpjaaDoorTcRune
import Derived.Test.YtdhnhgcdajlpjaaDoorTcUint
import Derived.Test.YtdhnhgcdajlpjaaDoorTcFlt
namespace Go.Proofs.YtdhnhgcdajlpjaaDoor
open Go.RowKit
set_option linter.unusedVariables false
set_option linter.unusedSimpArgs false
set_option maxRecDepth 100000
attribute [local go_sem] store_flt

/-- What the column takes the value as. -/
def Takes (v : V) (T : Ty) (u : V) : Prop := u.ok ∧ ((v.isOf T = true ∧ u = v) ∨ (v.ideal = true ∧ u.K = T.name)) ∧ ¬ v.bad T
def TcAll (v : V) (T : Ty) (rb : Nat) (w : World) (e : Ending) (w' : World) : Prop :=
  Below rb w w' ∧ ∃ x' y, e = .returned y ∧ w'.cell? ⟨rb, 0, none⟩ = some x' ∧ ((y = .nilIface ∧ ∃ u : V, Takes v T u ∧ u.box w' x') ∨ (v.isOf T = false ∧ IsErr w' y))
theorem all_own {v : V} {T : Ty} {rb : Nat} {x : Value} {w w' : World} {e : Ending} (hv : v.ok) (hi : v.isOf T = true) (hb : ¬ v.bad T) (hx : v.box w x) (hc : w.cell? ⟨rb, 0, none⟩ = some x) (h : e = .returned .nilIface ∧ w' = w) : TcAll v T rb w e w' := by
  obtain ⟨rfl, rfl⟩ := h
  exact ⟨Below.refl _ _, x, _, rfl, hc, .inl ⟨rfl, v, ⟨hv, .inl ⟨hi, rfl⟩, hb⟩, hx⟩⟩
theorem all_no {v : V} {T : Ty} {rb : Nat} {x : Value} {w w' : World} {e : Ending} (hi : v.isOf T = false) (hr : rb < w.heap.size) (hc : w.cell? ⟨rb, 0, none⟩ = some x) (h : NewPost w e w') : TcAll v T rb w e w' := by
  obtain ⟨y, rfl, hy, hb⟩ := h
  exact ⟨low_below hb (Nat.le_of_lt hr), x, y, rfl, (hb.cell (p := ⟨rb, 0, none⟩) hr).trans hc, .inr ⟨hi, hy⟩⟩
theorem all_ideal {v : V} {T : Ty} {rb : Nat} {w w' : World} {e : Ending} (hi : v.isOf T = false) (hd : v.ideal = true) (hb : ¬ v.bad T) (h : TcPost T.name rb w e w') : TcAll v T rb w e w' := by
  obtain ⟨hbl, ⟨rfl, u, x, hu, hk, hc, hx⟩ | ⟨y, x, rfl, hy, hc⟩⟩ := h
  · exact ⟨hbl, x, _, rfl, hc, .inl ⟨rfl, u, ⟨hu, .inr ⟨hd, hk⟩, hb⟩, hx⟩⟩
  · exact ⟨hbl, x, y, rfl, hc, .inr ⟨hi, hy⟩⟩
theorem all_300 {rb : Nat} {w w' : World} {e : Ending} (h : Below rb w w' ∧ ∃ y x, e = .returned y ∧ IsErr w' y ∧ w'.cell? ⟨rb, 0, none⟩ = some x) : TcAll (.iInt 300) (.int .i8) rb w e w' := by
  obtain ⟨hbl, y, x, rfl, hy, hc⟩ := h
  exact ⟨hbl, x, y, rfl, hc, .inr ⟨not_idealInt _ _, hy⟩⟩
theorem ta_bool (b : Bool) (hv : (.bool b : V).ok) (T : Ty) (x : Value) (rb cb kb : Nat) (w : World) (hrb : rb < w.heap.size) (hrc : w.cell? ⟨rb, 0, none⟩ = some x) (hrf : w.frozen? ⟨rb, 0, none⟩ = false) (hcc : w.cell? ⟨cb, 0, none⟩ = some (.pointer (some ⟨kb, 0, none⟩))) (hki : w.cell? ⟨kb, 0, none⟩ = some (.int .i64 0)) (hkt : w.cell? ⟨kb, 2, none⟩ = some (.int .i64 T.code)) (hx : (.bool b : V).box w x) : Calls Tryd.prog 34 #[.slice (some ⟨rb, 0, none⟩) 1 1, .slice (some ⟨cb, 0, none⟩) 1 1] w (TcAll (.bool b) T rb w) := by
  have hx' := hx
  obtain rfl := hx
  cases ht : (T.code == 98) with
  | true =>
    obtain rfl := of_bool T ht
    exact (tcy_bool b rb cb kb w hrb hrc hrf hcc hki hkt).mono fun e w' h => all_own hv (yes_bool _) (fun h => by cases h.1) hx' hrc h
  | false => exact (tcn_bool b T.code ht rb cb kb w hrb hrc hrf hcc hki hkt).mono fun e w' h => all_no (no_bool _ T ht) hrb hrc h
theorem ta_int8 (n : Int) (hv : (.int .i8 n : V).ok) (T : Ty) (x : Value) (rb cb kb : Nat) (w : World) (hrb : rb < w.heap.size) (hrc : w.cell? ⟨rb, 0, none⟩ = some x) (hrf : w.frozen? ⟨rb, 0, none⟩ = false) (hcc : w.cell? ⟨cb, 0, none⟩ = some (.pointer (some ⟨kb, 0, none⟩))) (hki : w.cell? ⟨kb, 0, none⟩ = some (.int .i64 0)) (hkt : w.cell? ⟨kb, 2, none⟩ = some (.int .i64 T.code)) (hx : (.int .i8 n : V).box w x) : Calls Tryd.prog 34 #[.slice (some ⟨rb, 0, none⟩) 1 1, .slice (some ⟨cb, 0, none⟩) 1 1] w (TcAll (.int .i8 n) T rb w) := by
  have hx' := hx
  obtain rfl := hx
  cases ht : (T.code == 105) with
  | true =>
    obtain rfl := of_int8 T ht
    exact (tcy_int8 n rb cb kb w hrb hrc hrf hcc hki hkt).mono fun e w' h => all_own hv (yes_int8 _) (fun h => by cases h.1) hx' hrc h
  | false => exact (tcn_int8 n T.code ht rb cb kb w hrb hrc hrf hcc hki hkt).mono fun e w' h => all_no (no_int8 _ T ht) hrb hrc h
theorem ta_int16 (n : Int) (hv : (.int .i16 n : V).ok) (T : Ty) (x : Value) (rb cb kb : Nat) (w : World) (hrb : rb < w.heap.size) (hrc : w.cell? ⟨rb, 0, none⟩ = some x) (hrf : w.frozen? ⟨rb, 0, none⟩ = false) (hcc : w.cell? ⟨cb, 0, none⟩ = some (.pointer (some ⟨kb, 0, none⟩))) (hki : w.cell? ⟨kb, 0, none⟩ = some (.int .i64 0)) (hkt : w.cell? ⟨kb, 2, none⟩ = some (.int .i64 T.code)) (hx : (.int .i16 n : V).box w x) : Calls Tryd.prog 34 #[.slice (some ⟨rb, 0, none⟩) 1 1, .slice (some ⟨cb, 0, none⟩) 1 1] w (TcAll (.int .i16 n) T rb w) := by
  have hx' := hx
  obtain rfl := hx
  cases ht : (T.code == 106) with
  | true =>
    obtain rfl := of_int16 T ht
    exact (tcy_int16 n rb cb kb w hrb hrc hrf hcc hki hkt).mono fun e w' h => all_own hv (yes_int16 _) (fun h => by cases h.1) hx' hrc h
  | false => exact (tcn_int16 n T.code ht rb cb kb w hrb hrc hrf hcc hki hkt).mono fun e w' h => all_no (no_int16 _ T ht) hrb hrc h
theorem ta_int32 (n : Int) (hv : (.int .i32 n : V).ok) (T : Ty) (x : Value) (rb cb kb : Nat) (w : World) (hrb : rb < w.heap.size) (hrc : w.cell? ⟨rb, 0, none⟩ = some x) (hrf : w.frozen? ⟨rb, 0, none⟩ = false) (hcc : w.cell? ⟨cb, 0, none⟩ = some (.pointer (some ⟨kb, 0, none⟩))) (hki : w.cell? ⟨kb, 0, none⟩ = some (.int .i64 0)) (hkt : w.cell? ⟨kb, 2, none⟩ = some (.int .i64 T.code)) (hx : (.int .i32 n : V).box w x) : Calls Tryd.prog 34 #[.slice (some ⟨rb, 0, none⟩) 1 1, .slice (some ⟨cb, 0, none⟩) 1 1] w (TcAll (.int .i32 n) T rb w) := by
  have hx' := hx
  obtain rfl := hx
  cases ht : (T.code == 107) with
  | true =>
    obtain rfl := of_int32 T ht
    exact (tcy_int32 n rb cb kb w hrb hrc hrf hcc hki hkt).mono fun e w' h => all_own hv (yes_int32 _) (fun h => by cases h.1) hx' hrc h
  | false => exact (tcn_int32 n T.code ht rb cb kb w hrb hrc hrf hcc hki hkt).mono fun e w' h => all_no (no_int32 _ T ht) hrb hrc h
theorem ta_int64 (n : Int) (hv : (.int .i64 n : V).ok) (T : Ty) (x : Value) (rb cb kb : Nat) (w : World) (hrb : rb < w.heap.size) (hrc : w.cell? ⟨rb, 0, none⟩ = some x) (hrf : w.frozen? ⟨rb, 0, none⟩ = false) (hcc : w.cell? ⟨cb, 0, none⟩ = some (.pointer (some ⟨kb, 0, none⟩))) (hki : w.cell? ⟨kb, 0, none⟩ = some (.int .i64 0)) (hkt : w.cell? ⟨kb, 2, none⟩ = some (.int .i64 T.code)) (hx : (.int .i64 n : V).box w x) : Calls Tryd.prog 34 #[.slice (some ⟨rb, 0, none⟩) 1 1, .slice (some ⟨cb, 0, none⟩) 1 1] w (TcAll (.int .i64 n) T rb w) := by
  have hx' := hx
  obtain rfl := hx
  cases ht : (T.code == 108) with
  | true =>
    obtain rfl := of_int64 T ht
    exact (tcy_int64 n rb cb kb w hrb hrc hrf hcc hki hkt).mono fun e w' h => all_own hv (yes_int64 _) (fun h => by cases h.1) hx' hrc h
  | false => exact (tcn_int64 n T.code ht rb cb kb w hrb hrc hrf hcc hki hkt).mono fun e w' h => all_no (no_int64 _ T ht) hrb hrc h
theorem ta_uint8 (n : Int) (hv : (.int .u8 n : V).ok) (T : Ty) (x : Value) (rb cb kb : Nat) (w : World) (hrb : rb < w.heap.size) (hrc : w.cell? ⟨rb, 0, none⟩ = some x) (hrf : w.frozen? ⟨rb, 0, none⟩ = false) (hcc : w.cell? ⟨cb, 0, none⟩ = some (.pointer (some ⟨kb, 0, none⟩))) (hki : w.cell? ⟨kb, 0, none⟩ = some (.int .i64 0)) (hkt : w.cell? ⟨kb, 2, none⟩ = some (.int .i64 T.code)) (hx : (.int .u8 n : V).box w x) : Calls Tryd.prog 34 #[.slice (some ⟨rb, 0, none⟩) 1 1, .slice (some ⟨cb, 0, none⟩) 1 1] w (TcAll (.int .u8 n) T rb w) := by
  have hx' := hx
  obtain rfl := hx
  cases ht : (T.code == 117) with
  | true =>
    obtain rfl := of_uint8 T ht
    exact (tcy_uint8 n rb cb kb w hrb hrc hrf hcc hki hkt).mono fun e w' h => all_own hv (yes_uint8 _) (fun h => by cases h.1) hx' hrc h
  | false => exact (tcn_uint8 n T.code ht rb cb kb w hrb hrc hrf hcc hki hkt).mono fun e w' h => all_no (no_uint8 _ T ht) hrb hrc h
theorem ta_uint16 (n : Int) (hv : (.int .u16 n : V).ok) (T : Ty) (x : Value) (rb cb kb : Nat) (w : World) (hrb : rb < w.heap.size) (hrc : w.cell? ⟨rb, 0, none⟩ = some x) (hrf : w.frozen? ⟨rb, 0, none⟩ = false) (hcc : w.cell? ⟨cb, 0, none⟩ = some (.pointer (some ⟨kb, 0, none⟩))) (hki : w.cell? ⟨kb, 0, none⟩ = some (.int .i64 0)) (hkt : w.cell? ⟨kb, 2, none⟩ = some (.int .i64 T.code)) (hx : (.int .u16 n : V).box w x) : Calls Tryd.prog 34 #[.slice (some ⟨rb, 0, none⟩) 1 1, .slice (some ⟨cb, 0, none⟩) 1 1] w (TcAll (.int .u16 n) T rb w) := by
  have hx' := hx
  obtain rfl := hx
  cases ht : (T.code == 118) with
  | true =>
    obtain rfl := of_uint16 T ht
    exact (tcy_uint16 n rb cb kb w hrb hrc hrf hcc hki hkt).mono fun e w' h => all_own hv (yes_uint16 _) (fun h => by cases h.1) hx' hrc h
  | false => exact (tcn_uint16 n T.code ht rb cb kb w hrb hrc hrf hcc hki hkt).mono fun e w' h => all_no (no_uint16 _ T ht) hrb hrc h
theorem ta_uint32 (n : Int) (hv : (.int .u32 n : V).ok) (T : Ty) (x : Value) (rb cb kb : Nat) (w : World) (hrb : rb < w.heap.size) (hrc : w.cell? ⟨rb, 0, none⟩ = some x) (hrf : w.frozen? ⟨rb, 0, none⟩ = false) (hcc : w.cell? ⟨cb, 0, none⟩ = some (.pointer (some ⟨kb, 0, none⟩))) (hki : w.cell? ⟨kb, 0, none⟩ = some (.int .i64 0)) (hkt : w.cell? ⟨kb, 2, none⟩ = some (.int .i64 T.code)) (hx : (.int .u32 n : V).box w x) : Calls Tryd.prog 34 #[.slice (some ⟨rb, 0, none⟩) 1 1, .slice (some ⟨cb, 0, none⟩) 1 1] w (TcAll (.int .u32 n) T rb w) := by
  have hx' := hx
  obtain rfl := hx
  cases ht : (T.code == 119) with
  | true =>
    obtain rfl := of_uint32 T ht
    exact (tcy_uint32 n rb cb kb w hrb hrc hrf hcc hki hkt).mono fun e w' h => all_own hv (yes_uint32 _) (fun h => by cases h.1) hx' hrc h
  | false => exact (tcn_uint32 n T.code ht rb cb kb w hrb hrc hrf hcc hki hkt).mono fun e w' h => all_no (no_uint32 _ T ht) hrb hrc h
theorem ta_uint64 (n : Int) (hv : (.int .u64 n : V).ok) (T : Ty) (x : Value) (rb cb kb : Nat) (w : World) (hrb : rb < w.heap.size) (hrc : w.cell? ⟨rb, 0, none⟩ = some x) (hrf : w.frozen? ⟨rb, 0, none⟩ = false) (hcc : w.cell? ⟨cb, 0, none⟩ = some (.pointer (some ⟨kb, 0, none⟩))) (hki : w.cell? ⟨kb, 0, none⟩ = some (.int .i64 0)) (hkt : w.cell? ⟨kb, 2, none⟩ = some (.int .i64 T.code)) (hx : (.int .u64 n : V).box w x) : Calls Tryd.prog 34 #[.slice (some ⟨rb, 0, none⟩) 1 1, .slice (some ⟨cb, 0, none⟩) 1 1] w (TcAll (.int .u64 n) T rb w) := by
  have hx' := hx
  obtain rfl := hx
  cases ht : (T.code == 120) with
  | true =>
    obtain rfl := of_uint64 T ht
    exact (tcy_uint64 n rb cb kb w hrb hrc hrf hcc hki hkt).mono fun e w' h => all_own hv (yes_uint64 _) (fun h => by cases h.1) hx' hrc h
  | false => exact (tcn_uint64 n T.code ht rb cb kb w hrb hrc hrf hcc hki hkt).mono fun e w' h => all_no (no_uint64 _ T ht) hrb hrc h
theorem ta_float32 (d : Nat) (hv : (.flt .f32 d : V).ok) (T : Ty) (x : Value) (rb cb kb : Nat) (w : World) (hrb : rb < w.heap.size) (hrc : w.cell? ⟨rb, 0, none⟩ = some x) (hrf : w.frozen? ⟨rb, 0, none⟩ = false) (hcc : w.cell? ⟨cb, 0, none⟩ = some (.pointer (some ⟨kb, 0, none⟩))) (hki : w.cell? ⟨kb, 0, none⟩ = some (.int .i64 0)) (hkt : w.cell? ⟨kb, 2, none⟩ = some (.int .i64 T.code)) (hx : (.flt .f32 d : V).box w x) : Calls Tryd.prog 34 #[.slice (some ⟨rb, 0, none⟩) 1 1, .slice (some ⟨cb, 0, none⟩) 1 1] w (TcAll (.flt .f32 d) T rb w) := by
  have hx' := hx
  obtain ⟨r, rfl, _⟩ := hx
  cases ht : (T.code == 102) with
  | true =>
    obtain rfl := of_float32 T ht
    exact (tcy_float32 r rb cb kb w hrb hrc hrf hcc hki hkt).mono fun e w' h => all_own hv (yes_float32 _) (fun h => by cases h.1) hx' hrc h
  | false => exact (tcn_float32 r T.code ht rb cb kb w hrb hrc hrf hcc hki hkt).mono fun e w' h => all_no (no_float32 _ T ht) hrb hrc h
theorem ta_float64 (d : Nat) (hv : (.flt .f64 d : V).ok) (T : Ty) (x : Value) (rb cb kb : Nat) (w : World) (hrb : rb < w.heap.size) (hrc : w.cell? ⟨rb, 0, none⟩ = some x) (hrf : w.frozen? ⟨rb, 0, none⟩ = false) (hcc : w.cell? ⟨cb, 0, none⟩ = some (.pointer (some ⟨kb, 0, none⟩))) (hki : w.cell? ⟨kb, 0, none⟩ = some (.int .i64 0)) (hkt : w.cell? ⟨kb, 2, none⟩ = some (.int .i64 T.code)) (hx : (.flt .f64 d : V).box w x) : Calls Tryd.prog 34 #[.slice (some ⟨rb, 0, none⟩) 1 1, .slice (some ⟨cb, 0, none⟩) 1 1] w (TcAll (.flt .f64 d) T rb w) := by
  have hx' := hx
  obtain rfl := hx
  cases ht : (T.code == 103) with
  | true =>
    obtain rfl := of_float64 T ht
    exact (tcy_float64 d rb cb kb w hrb hrc hrf hcc hki hkt).mono fun e w' h => all_own hv (yes_float64 _) (fun h => by cases h.1) hx' hrc h
  | false => exact (tcn_float64 d T.code ht rb cb kb w hrb hrc hrf hcc hki hkt).mono fun e w' h => all_no (no_float64 _ T ht) hrb hrc h
theorem ta_string (s : ByteArray) (hv : (.str s : V).ok) (T : Ty) (x : Value) (rb cb kb : Nat) (w : World) (hrb : rb < w.heap.size) (hrc : w.cell? ⟨rb, 0, none⟩ = some x) (hrf : w.frozen? ⟨rb, 0, none⟩ = false) (hcc : w.cell? ⟨cb, 0, none⟩ = some (.pointer (some ⟨kb, 0, none⟩))) (hki : w.cell? ⟨kb, 0, none⟩ = some (.int .i64 0)) (hkt : w.cell? ⟨kb, 2, none⟩ = some (.int .i64 T.code)) (hx : (.str s : V).box w x) : Calls Tryd.prog 34 #[.slice (some ⟨rb, 0, none⟩) 1 1, .slice (some ⟨cb, 0, none⟩) 1 1] w (TcAll (.str s) T rb w) := by
  have hx' := hx
  obtain rfl := hx
  cases ht : (T.code == 115) with
  | true =>
    obtain rfl := of_string T ht
    exact (tcy_string s rb cb kb w hrb hrc hrf hcc hki hkt).mono fun e w' h => all_own hv (yes_string _) (fun h => by cases h.1) hx' hrc h
  | false => exact (tcn_string s T.code ht rb cb kb w hrb hrc hrf hcc hki hkt).mono fun e w' h => all_no (no_string _ T ht) hrb hrc h
theorem ta_blob (s : ByteArray) (hv : (.blob s : V).ok) (T : Ty) (x : Value) (rb cb kb : Nat) (w : World) (hrb : rb < w.heap.size) (hrc : w.cell? ⟨rb, 0, none⟩ = some x) (hrf : w.frozen? ⟨rb, 0, none⟩ = false) (hcc : w.cell? ⟨cb, 0, none⟩ = some (.pointer (some ⟨kb, 0, none⟩))) (hki : w.cell? ⟨kb, 0, none⟩ = some (.int .i64 0)) (hkt : w.cell? ⟨kb, 2, none⟩ = some (.int .i64 T.code)) (hx : (.blob s : V).box w x) : Calls Tryd.prog 34 #[.slice (some ⟨rb, 0, none⟩) 1 1, .slice (some ⟨cb, 0, none⟩) 1 1] w (TcAll (.blob s) T rb w) := by
  have hx' := hx
  obtain ⟨b, c, rfl, _⟩ := hx
  cases ht : (T.code == 66) with
  | true =>
    obtain rfl := of_blob T ht
    exact (tcy_blob _ _ _ rb cb kb w hrb hrc hrf hcc hki hkt).mono fun e w' h => all_own hv (yes_blob _) (fun h => by cases h.1) hx' hrc h
  | false => exact (tcn_blob _ _ _ T.code ht rb cb kb w hrb hrc hrf hcc hki hkt).mono fun e w' h => all_no (no_blob _ T ht) hrb hrc h
theorem ta_idealInt (n : Int) (hv : (.iInt n : V).ok) (T : Ty) (x : Value) (rb cb kb : Nat) (w : World) (hrb : rb < w.heap.size) (hrc : w.cell? ⟨rb, 0, none⟩ = some x) (hrf : w.frozen? ⟨rb, 0, none⟩ = false) (hcc : w.cell? ⟨cb, 0, none⟩ = some (.pointer (some ⟨kb, 0, none⟩))) (hki : w.cell? ⟨kb, 0, none⟩ = some (.int .i64 0)) (hkt : w.cell? ⟨kb, 2, none⟩ = some (.int .i64 T.code)) (hx : (.iInt n : V).box w x) : Calls Tryd.prog 34 #[.slice (some ⟨rb, 0, none⟩) 1 1, .slice (some ⟨cb, 0, none⟩) 1 1] w (TcAll (.iInt n) T rb w) := by
  obtain rfl := hx
  rcases T with _ | k | k | _ | _
  · exact (tc_idealInt_bool n hv.1 hv.2 rb cb kb w hrb hrc hrf hcc hki hkt).mono fun e w' h => all_ideal (not_idealInt _ _) rfl (fun h => by cases h.2) h
  · cases k
    · by_cases h3 : n = 300
      · subst h3
        exact (tc_300 rb cb kb w hrb hrc hrf hcc hki hkt).mono fun e w' h => all_300 h
      · exact (tc_idealInt_int8 n hv.1 hv.2 rb cb kb w hrb hrc hrf hcc hki hkt).mono fun e w' h => all_ideal (not_idealInt _ _) rfl (fun h => h3 (by have := h.1; injection this)) h
    · exact (tc_idealInt_int16 n hv.1 hv.2 rb cb kb w hrb hrc hrf hcc hki hkt).mono fun e w' h => all_ideal (not_idealInt _ _) rfl (fun h => by cases h.2) h
    · exact (tc_idealInt_int32 n hv.1 hv.2 rb cb kb w hrb hrc hrf hcc hki hkt).mono fun e w' h => all_ideal (not_idealInt _ _) rfl (fun h => by cases h.2) h
    · exact (tc_idealInt_int64 n hv.1 hv.2 rb cb kb w hrb hrc hrf hcc hki hkt).mono fun e w' h => all_ideal (not_idealInt _ _) rfl (fun h => by cases h.2) h
    · exact (tc_idealInt_uint8 n hv.1 hv.2 rb cb kb w hrb hrc hrf hcc hki hkt).mono fun e w' h => all_ideal (not_idealInt _ _) rfl (fun h => by cases h.2) h
    · exact (tc_idealInt_uint16 n hv.1 hv.2 rb cb kb w hrb hrc hrf hcc hki hkt).mono fun e w' h => all_ideal (not_idealInt _ _) rfl (fun h => by cases h.2) h
    · exact (tc_idealInt_uint32 n hv.1 hv.2 rb cb kb w hrb hrc hrf hcc hki hkt).mono fun e w' h => all_ideal (not_idealInt _ _) rfl (fun h => by cases h.2) h
    · exact (tc_idealInt_uint64 n hv.1 hv.2 rb cb kb w hrb hrc hrf hcc hki hkt).mono fun e w' h => all_ideal (not_idealInt _ _) rfl (fun h => by cases h.2) h
  · cases k
    · exact (tc_idealInt_float32 n hv.1 hv.2 rb cb kb w hrb hrc hrf hcc hki hkt).mono fun e w' h => all_ideal (not_idealInt _ _) rfl (fun h => by cases h.2) h
    · exact (tc_idealInt_float64 n hv.1 hv.2 rb cb kb w hrb hrc hrf hcc hki hkt).mono fun e w' h => all_ideal (not_idealInt _ _) rfl (fun h => by cases h.2) h
  · exact (tc_idealInt_string n hv.1 hv.2 rb cb kb w hrb hrc hrf hcc hki hkt).mono fun e w' h => all_ideal (not_idealInt _ _) rfl (fun h => by cases h.2) h
  · exact (tc_idealInt_blob n hv.1 hv.2 rb cb kb w hrb hrc hrf hcc hki hkt).mono fun e w' h => all_ideal (not_idealInt _ _) rfl (fun h => by cases h.2) h
theorem ta_idealRune (n : Int) (hv : (.iRune n : V).ok) (T : Ty) (x : Value) (rb cb kb : Nat) (w : World) (hrb : rb < w.heap.size) (hrc : w.cell? ⟨rb, 0, none⟩ = some x) (hrf : w.frozen? ⟨rb, 0, none⟩ = false) (hcc : w.cell? ⟨cb, 0, none⟩ = some (.pointer (some ⟨kb, 0, none⟩))) (hki : w.cell? ⟨kb, 0, none⟩ = some (.int .i64 0)) (hkt : w.cell? ⟨kb, 2, none⟩ = some (.int .i64 T.code)) (hx : (.iRune n : V).box w x) : Calls Tryd.prog 34 #[.slice (some ⟨rb, 0, none⟩) 1 1, .slice (some ⟨cb, 0, none⟩) 1 1] w (TcAll (.iRune n) T rb w) := by
  obtain rfl := hx
  rcases T with _ | k | k | _ | _
  · exact (tc_idealRune_bool n hv.1 hv.2 rb cb kb w hrb hrc hrf hcc hki hkt).mono fun e w' h => all_ideal (not_idealRune _ _) rfl (fun h => by cases h.1) h
  · cases k
    · exact (tc_idealRune_int8 n hv.1 hv.2 rb cb kb w hrb hrc hrf hcc hki hkt).mono fun e w' h => all_ideal (not_idealRune _ _) rfl (fun h => by cases h.1) h
    · exact (tc_idealRune_int16 n hv.1 hv.2 rb cb kb w hrb hrc hrf hcc hki hkt).mono fun e w' h => all_ideal (not_idealRune _ _) rfl (fun h => by cases h.1) h
    · exact (tc_idealRune_int32 n hv.1 hv.2 rb cb kb w hrb hrc hrf hcc hki hkt).mono fun e w' h => all_ideal (not_idealRune _ _) rfl (fun h => by cases h.1) h
    · exact (tc_idealRune_int64 n hv.1 hv.2 rb cb kb w hrb hrc hrf hcc hki hkt).mono fun e w' h => all_ideal (not_idealRune _ _) rfl (fun h => by cases h.1) h
    · exact (tc_idealRune_uint8 n hv.1 hv.2 rb cb kb w hrb hrc hrf hcc hki hkt).mono fun e w' h => all_ideal (not_idealRune _ _) rfl (fun h => by cases h.1) h
    · exact (tc_idealRune_uint16 n hv.1 hv.2 rb cb kb w hrb hrc hrf hcc hki hkt).mono fun e w' h => all_ideal (not_idealRune _ _) rfl (fun h => by cases h.1) h
    · exact (tc_idealRune_uint32 n hv.1 hv.2 rb cb kb w hrb hrc hrf hcc hki hkt).mono fun e w' h => all_ideal (not_idealRune _ _) rfl (fun h => by cases h.1) h
    · exact (tc_idealRune_uint64 n hv.1 hv.2 rb cb kb w hrb hrc hrf hcc hki hkt).mono fun e w' h => all_ideal (not_idealRune _ _) rfl (fun h => by cases h.1) h
  · cases k
    · exact (tc_idealRune_float32 n hv.1 hv.2 rb cb kb w hrb hrc hrf hcc hki hkt).mono fun e w' h => all_ideal (not_idealRune _ _) rfl (fun h => by cases h.1) h
    · exact (tc_idealRune_float64 n hv.1 hv.2 rb cb kb w hrb hrc hrf hcc hki hkt).mono fun e w' h => all_ideal (not_idealRune _ _) rfl (fun h => by cases h.1) h
  · exact (tc_idealRune_string n hv.1 hv.2 rb cb kb w hrb hrc hrf hcc hki hkt).mono fun e w' h => all_ideal (not_idealRune _ _) rfl (fun h => by cases h.1) h
  · exact (tc_idealRune_blob n hv.1 hv.2 rb cb kb w hrb hrc hrf hcc hki hkt).mono fun e w' h => all_ideal (not_idealRune _ _) rfl (fun h => by cases h.1) h
theorem ta_idealUint (n : Int) (hv : (.iUint n : V).ok) (T : Ty) (x : Value) (rb cb kb : Nat) (w : World) (hrb : rb < w.heap.size) (hrc : w.cell? ⟨rb, 0, none⟩ = some x) (hrf : w.frozen? ⟨rb, 0, none⟩ = false) (hcc : w.cell? ⟨cb, 0, none⟩ = some (.pointer (some ⟨kb, 0, none⟩))) (hki : w.cell? ⟨kb, 0, none⟩ = some (.int .i64 0)) (hkt : w.cell? ⟨kb, 2, none⟩ = some (.int .i64 T.code)) (hx : (.iUint n : V).box w x) : Calls Tryd.prog 34 #[.slice (some ⟨rb, 0, none⟩) 1 1, .slice (some ⟨cb, 0, none⟩) 1 1] w (TcAll (.iUint n) T rb w) := by
  obtain rfl := hx
  rcases T with _ | k | k | _ | _
  · exact (tc_idealUint_bool n hv.1 hv.2 rb cb kb w hrb hrc hrf hcc hki hkt).mono fun e w' h => all_ideal (not_idealUint _ _) rfl (fun h => by cases h.1) h
  · cases k
    · exact (tc_idealUint_int8 n hv.1 hv.2 rb cb kb w hrb hrc hrf hcc hki hkt).mono fun e w' h => all_ideal (not_idealUint _ _) rfl (fun h => by cases h.1) h
    · exact (tc_idealUint_int16 n hv.1 hv.2 rb cb kb w hrb hrc hrf hcc hki hkt).mono fun e w' h => all_ideal (not_idealUint _ _) rfl (fun h => by cases h.1) h
    · exact (tc_idealUint_int32 n hv.1 hv.2 rb cb kb w hrb hrc hrf hcc hki hkt).mono fun e w' h => all_ideal (not_idealUint _ _) rfl (fun h => by cases h.1) h
    · exact (tc_idealUint_int64 n hv.1 hv.2 rb cb kb w hrb hrc hrf hcc hki hkt).mono fun e w' h => all_ideal (not_idealUint _ _) rfl (fun h => by cases h.1) h
    · exact (tc_idealUint_uint8 n hv.1 hv.2 rb cb kb w hrb hrc hrf hcc hki hkt).mono fun e w' h => all_ideal (not_idealUint _ _) rfl (fun h => by cases h.1) h
    · exact (tc_idealUint_uint16 n hv.1 hv.2 rb cb kb w hrb hrc hrf hcc hki hkt).mono fun e w' h => all_ideal (not_idealUint _ _) rfl (fun h => by cases h.1) h
    · exact (tc_idealUint_uint32 n hv.1 hv.2 rb cb kb w hrb hrc hrf hcc hki hkt).mono fun e w' h => all_ideal (not_idealUint _ _) rfl (fun h => by cases h.1) h
    · exact (tc_idealUint_uint64 n hv.1 hv.2 rb cb kb w hrb hrc hrf hcc hki hkt).mono fun e w' h => all_ideal (not_idealUint _ _) rfl (fun h => by cases h.1) h
  · cases k
    · exact (tc_idealUint_float32 n hv.1 hv.2 rb cb kb w hrb hrc hrf hcc hki hkt).mono fun e w' h => all_ideal (not_idealUint _ _) rfl (fun h => by cases h.1) h
    · exact (tc_idealUint_float64 n hv.1 hv.2 rb cb kb w hrb hrc hrf hcc hki hkt).mono fun e w' h => all_ideal (not_idealUint _ _) rfl (fun h => by cases h.1) h
  · exact (tc_idealUint_string n hv.1 hv.2 rb cb kb w hrb hrc hrf hcc hki hkt).mono fun e w' h => all_ideal (not_idealUint _ _) rfl (fun h => by cases h.1) h
  · exact (tc_idealUint_blob n hv.1 hv.2 rb cb kb w hrb hrc hrf hcc hki hkt).mono fun e w' h => all_ideal (not_idealUint _ _) rfl (fun h => by cases h.1) h
theorem ta_idealFloat (d : Nat) (hv : (.iFlt d : V).ok) (T : Ty) (x : Value) (rb cb kb : Nat) (w : World) (hrb : rb < w.heap.size) (hrc : w.cell? ⟨rb, 0, none⟩ = some x) (hrf : w.frozen? ⟨rb, 0, none⟩ = false) (hcc : w.cell? ⟨cb, 0, none⟩ = some (.pointer (some ⟨kb, 0, none⟩))) (hki : w.cell? ⟨kb, 0, none⟩ = some (.int .i64 0)) (hkt : w.cell? ⟨kb, 2, none⟩ = some (.int .i64 T.code)) (hx : (.iFlt d : V).box w x) : Calls Tryd.prog 34 #[.slice (some ⟨rb, 0, none⟩) 1 1, .slice (some ⟨cb, 0, none⟩) 1 1] w (TcAll (.iFlt d) T rb w) := by
  obtain rfl := hx
  rcases T with _ | k | k | _ | _
  · exact (tc_idealFloat_bool d rb cb kb w hrb hrc hrf hcc hki hkt).mono fun e w' h => all_ideal (not_idealFloat _ _) rfl (fun h => by cases h.1) h
  · cases k
    · exact (tc_idealFloat_int8 d rb cb kb w hrb hrc hrf hcc hki hkt).mono fun e w' h => all_ideal (not_idealFloat _ _) rfl (fun h => by cases h.1) h
    · exact (tc_idealFloat_int16 d rb cb kb w hrb hrc hrf hcc hki hkt).mono fun e w' h => all_ideal (not_idealFloat _ _) rfl (fun h => by cases h.1) h
    · exact (tc_idealFloat_int32 d rb cb kb w hrb hrc hrf hcc hki hkt).mono fun e w' h => all_ideal (not_idealFloat _ _) rfl (fun h => by cases h.1) h
    · exact (tc_idealFloat_int64 d rb cb kb w hrb hrc hrf hcc hki hkt).mono fun e w' h => all_ideal (not_idealFloat _ _) rfl (fun h => by cases h.1) h
    · exact (tc_idealFloat_uint8 d rb cb kb w hrb hrc hrf hcc hki hkt).mono fun e w' h => all_ideal (not_idealFloat _ _) rfl (fun h => by cases h.1) h
    · exact (tc_idealFloat_uint16 d rb cb kb w hrb hrc hrf hcc hki hkt).mono fun e w' h => all_ideal (not_idealFloat _ _) rfl (fun h => by cases h.1) h
    · exact (tc_idealFloat_uint32 d rb cb kb w hrb hrc hrf hcc hki hkt).mono fun e w' h => all_ideal (not_idealFloat _ _) rfl (fun h => by cases h.1) h
    · exact (tc_idealFloat_uint64 d rb cb kb w hrb hrc hrf hcc hki hkt).mono fun e w' h => all_ideal (not_idealFloat _ _) rfl (fun h => by cases h.1) h
  · cases k
    · exact (tc_idealFloat_float32 d rb cb kb w hrb hrc hrf hcc hki hkt).mono fun e w' h => all_ideal (not_idealFloat _ _) rfl (fun h => by cases h.1) h
    · exact (tc_idealFloat_float64 d rb cb kb w hrb hrc hrf hcc hki hkt).mono fun e w' h => all_ideal (not_idealFloat _ _) rfl (fun h => by cases h.1) h
  · exact (tc_idealFloat_string d rb cb kb w hrb hrc hrf hcc hki hkt).mono fun e w' h => all_ideal (not_idealFloat _ _) rfl (fun h => by cases h.1) h
  · exact (tc_idealFloat_blob d rb cb kb w hrb hrc hrf hcc hki hkt).mono fun e w' h => all_ideal (not_idealFloat _ _) rfl (fun h => by cases h.1) h
theorem tc_any (v : V) (hv : v.ok) (T : Ty) (x : Value) (rb cb kb : Nat) (w : World) (hrb : rb < w.heap.size) (hrc : w.cell? ⟨rb, 0, none⟩ = some x) (hrf : w.frozen? ⟨rb, 0, none⟩ = false) (hcc : w.cell? ⟨cb, 0, none⟩ = some (.pointer (some ⟨kb, 0, none⟩))) (hki : w.cell? ⟨kb, 0, none⟩ = some (.int .i64 0)) (hkt : w.cell? ⟨kb, 2, none⟩ = some (.int .i64 T.code)) (hx : v.box w x) : Calls Tryd.prog 34 #[.slice (some ⟨rb, 0, none⟩) 1 1, .slice (some ⟨cb, 0, none⟩) 1 1] w (TcAll v T rb w) := by
  rcases v with _ | b | ⟨k, n⟩ | ⟨k, d⟩ | s | s | n | n | n | d
  · obtain rfl := hx
    exact (tcy_null T.code rb cb kb w hrb hrc hrf hcc hki hkt).mono fun e w' h => all_own hv (isOf_null T) (fun h => by cases h.1) rfl hrc h
  · exact ta_bool b hv T x rb cb kb w hrb hrc hrf hcc hki hkt hx
  · cases k
    · exact ta_int8 n hv T x rb cb kb w hrb hrc hrf hcc hki hkt hx
    · exact ta_int16 n hv T x rb cb kb w hrb hrc hrf hcc hki hkt hx
    · exact ta_int32 n hv T x rb cb kb w hrb hrc hrf hcc hki hkt hx
    · exact ta_int64 n hv T x rb cb kb w hrb hrc hrf hcc hki hkt hx
    · exact ta_uint8 n hv T x rb cb kb w hrb hrc hrf hcc hki hkt hx
    · exact ta_uint16 n hv T x rb cb kb w hrb hrc hrf hcc hki hkt hx
    · exact ta_uint32 n hv T x rb cb kb w hrb hrc hrf hcc hki hkt hx
    · exact ta_uint64 n hv T x rb cb kb w hrb hrc hrf hcc hki hkt hx
  · cases k
    · exact ta_float32 d hv T x rb cb kb w hrb hrc hrf hcc hki hkt hx
    · exact ta_float64 d hv T x rb cb kb w hrb hrc hrf hcc hki hkt hx
  · exact ta_string s hv T x rb cb kb w hrb hrc hrf hcc hki hkt hx
  · exact ta_blob s hv T x rb cb kb w hrb hrc hrf hcc hki hkt hx
  · exact ta_idealInt n hv T x rb cb kb w hrb hrc hrf hcc hki hkt hx
  · exact ta_idealRune n hv T x rb cb kb w hrb hrc hrf hcc hki hkt hx
  · exact ta_idealUint n hv T x rb cb kb w hrb hrc hrf hcc hki hkt hx
  · exact ta_idealFloat d hv T x rb cb kb w hrb hrc hrf hcc hki hkt hx
def ZcAll (v : V) (T : Ty) (w : World) (e : Ending) (w' : World) : Prop :=
  ∃ x' y, e = .returned (.tuple #[x', y]) ∧ Below w.heap.size w w' ∧ ((y = .nilIface ∧ ∃ u : V, Takes v T u ∧ u.box w' x') ∨ (v.isOf T = false ∧ IsErr w' y))
set_option maxHeartbeats 2000000 in
theorem zc_nil (v : V) (hv : v.ok) (T : Ty) (w : World) (hx : v.box w (.nilIface)) : Calls Tryd.prog 19 #[.nilIface, .int .i64 T.code] w (ZcAll v T w) := by
  have HV := Lib.hid hv
  have HX := Lib.hid hx
  clear hv hx
  go_enter Tryd.func19, Tryd.ntmps19
  have B1 : Below w.heap.size w (w.alloc (.cells #[.nilIface] 20)) := (Below.refl _ _).alloc (Nat.le_refl _) _
  have B3 : Below w.heap.size w (((w.alloc (.cells #[.nilIface] 20)).alloc (.cells #[.int .i64 0, .string ⟨#[99]⟩, .int .i64 T.code, .pointer none, .nilIface] 61)).alloc (.cells #[.pointer (some ⟨w.heap.size + 1, 0, none⟩)] 56)) := (B1.alloc (by simp) _).alloc (by simp <;> omega) _
  have HB := Lib.hid B3
  have HX3 := Lib.hid (V.box_below HX.out B3)
  clear B1 B3
  go_wp2_with fail
  refine (tc_any v HV.out T (.nilIface) w.heap.size (w.heap.size + 1 + 1) (w.heap.size + 1) _ (by simp <;> omega) (by simp [go_sem]) (by simp [go_sem]) (by simp [go_sem]) (by simp [go_sem]) (by simp [go_sem]) HX3.out).mono ?_
  rintro e w1 ⟨hb, x', y, rfl, hc, hres⟩
  have HR := Lib.hid hres
  have HB1 := Lib.hid (HB.out.trans hb)
  clear hres hb
  go_wp2
  go_returns
  exact ⟨x', y, rfl, HB1.out, HR.out⟩
set_option maxHeartbeats 2000000 in
theorem zc_box (v : V) (hv : v.ok) (T : Ty) (t : TypeId) (z : Value) (w : World) (hx : v.box w (.iface t z)) : Calls Tryd.prog 19 #[.iface t z, .int .i64 T.code] w (ZcAll v T w) := by
  have HV := Lib.hid hv
  have HX := Lib.hid hx
  clear hv hx
  go_enter Tryd.func19, Tryd.ntmps19
  have B1 : Below w.heap.size w (w.alloc (.cells #[.iface t z] 20)) := (Below.refl _ _).alloc (Nat.le_refl _) _
  have B3 : Below w.heap.size w (((w.alloc (.cells #[.iface t z] 20)).alloc (.cells #[.int .i64 0, .string ⟨#[99]⟩, .int .i64 T.code, .pointer none, .nilIface] 61)).alloc (.cells #[.pointer (some ⟨w.heap.size + 1, 0, none⟩)] 56)) := (B1.alloc (by simp) _).alloc (by simp <;> omega) _
  have HB := Lib.hid B3
  have HX3 := Lib.hid (V.box_below HX.out B3)
  clear B1 B3
  go_wp2_with fail
  refine (tc_any v HV.out T (.iface t z) w.heap.size (w.heap.size + 1 + 1) (w.heap.size + 1) _ (by simp <;> omega) (by simp [go_sem]) (by simp [go_sem]) (by simp [go_sem]) (by simp [go_sem]) (by simp [go_sem]) HX3.out).mono ?_
  rintro e w1 ⟨hb, x', y, rfl, hc, hres⟩
  have HR := Lib.hid hres
  have HB1 := Lib.hid (HB.out.trans hb)
  clear hres hb
  go_wp2
  go_returns
  exact ⟨x', y, rfl, HB1.out, HR.out⟩
theorem box_two {v : V} {w : World} {x : Value} (h : v.box w x) : x = .nilIface ∨ ∃ t z, x = .iface t z := by
  rcases v with _ | b | ⟨k, n⟩ | ⟨k, d⟩ | s | s | n | n | n | d <;> (try cases k) <;> first
    | exact .inl h
    | exact .inr ⟨_, _, h⟩
    | (obtain ⟨r, e, _⟩ := h; exact .inr ⟨_, _, e⟩)
    | (obtain ⟨b, c, e, _⟩ := h; exact .inr ⟨_, _, e⟩)
theorem zc_any (v : V) (hv : v.ok) (T : Ty) (x : Value) (w : World) (hx : v.box w x) : Calls Tryd.prog 19 #[x, .int .i64 T.code] w (ZcAll v T w) := by
  rcases box_two hx with rfl | ⟨t, z, rfl⟩
  · exact zc_nil v hv T w hx
  · exact zc_box v hv T t z w hx
end Go.Proofs.YtdhnhgcdajlpjaaDoor
