/- A column is found at the first place of its name: findCol, ZZFindCol, FindCol; zzFits7. -/
import Derived.Test.YtamlkedkmehfcaaRRRRRows
import Derived.WalkKit
import Derived.WalkSpells
import Derived.WalkLawsBesides
import Derived.Handy
import Derived.Lib.Hide
namespace Go.Proofs.YtamlkedkmehfcaaRRRR
open Go.RowKit
set_option linter.unusedVariables false
set_option linter.unusedSimpArgs false

/-- No place below k has the name. -/
def NoneTo (ss : Nat → ByteArray) (nm : ByteArray) (k : Nat) : Prop := ∀ j, j < k → (ss j).toList ≠ nm.toList
/-- r is the first place of the name below n, or n where there is none. -/
def First (ss : Nat → ByteArray) (nm : ByteArray) (n r : Nat) : Prop := r ≤ n ∧ NoneTo ss nm r ∧ (r < n → (ss r).toList = nm.toList)
theorem NoneTo.zero (ss : Nat → ByteArray) (nm : ByteArray) : NoneTo ss nm 0 := fun j h => by omega
theorem NoneTo.succ {ss : Nat → ByteArray} {nm : ByteArray} {k : Nat} (h : NoneTo ss nm k) (hk : ¬ (ss k).toList = nm.toList) : NoneTo ss nm (k + 1) := fun j hj => by
  rcases Nat.lt_succ_iff_lt_or_eq.1 hj with h1 | rfl
  · exact h j h1
  · exact hk
theorem First.unique {ss : Nat → ByteArray} {nm : ByteArray} {n r r' : Nat} (h : First ss nm n r) (h' : First ss nm n r') : r = r' := by
  rcases Nat.lt_trichotomy r r' with h1 | h1 | h1
  · exact absurd (h.2.2 (Nat.lt_of_lt_of_le h1 h'.1)) (h'.2.1 r h1)
  · exact h1
  · exact absurd (h'.2.2 (Nat.lt_of_lt_of_le h1 h.1)) (h.2.1 r' h1)

/-- The columns that ZZFindCol lays: the j-th is a block that holds j and the j-th name. -/
structure Cols (w : World) (bs : List Nat) (ss : Nat → ByteArray) : Prop where
  at0 : ∀ j (h : j < bs.length), w.cell? ⟨bs[j], 0, none⟩ = some (.int .i64 (j : Int))
  at1 : ∀ j (h : j < bs.length), w.cell? ⟨bs[j], 1, none⟩ = some (.string (ss j))

def FoundPost (bs : List Nat) (ss : Nat → ByteArray) (nm : ByteArray) (w : World) (e : Ending) (w' : World) : Prop :=
  ∃ r, First ss nm bs.length r ∧ e = .returned (.pointer (bs[r]?.map fun b => ⟨b, 0, none⟩)) ∧ w' = w
theorem found_post {bs : List Nat} {ss : Nat → ByteArray} {nm : ByteArray} {w w' : World} {e : Ending} {r : Nat} (h : First ss nm bs.length r) (he : e = .returned (.pointer (bs[r]?.map fun b => ⟨b, 0, none⟩))) (hw : w' = w) : FoundPost bs ss nm w e w' := ⟨r, h, he, hw⟩

set_option maxHeartbeats 1000000 in
theorem findCol_any (g c : Nat) (bs : List Nat) (ss : Nat → ByteArray) (nm : ByteArray) (w : World) (hlen : bs.length ≤ 1000) (hC : Cols w bs ss) (hp : ∀ j (h : j < bs.length), w.cell? ⟨g, j, none⟩ = some (.pointer (some ⟨bs[j], 0, none⟩))) :
    Calls Try.prog 27 #[.slice (some ⟨g, 0, none⟩) bs.length c, .string nm] w (FoundPost bs ss nm w) := by
  have HC := Lib.hid hC
  have HP := Lib.hid hp
  clear hC hp
  go_enter Try.func27, Try.ntmps27
  go_wp2
  go_loop [7] (fun i => ∃ k : Nat, k ≤ bs.length ∧ i = .int .i64 k ∧ NoneTo ss nm k) (fun i => bs.length - (intOf i).toNat)
  case atStart => exact ⟨0, Nat.zero_le _, rfl, NoneTo.zero _ _⟩
  case round =>
    obtain ⟨k, hk, rfl, hno⟩ := hrel
    have HN := Lib.hid hno
    clear hno
    by_cases hlt : k < bs.length
    · have c1 := HP.out k hlt
      have c2 := HC.out.at1 k hlt
      by_cases he : (ss k).toList = nm.toList
      · have he' : ((ss k).toList == nm.toList) = true := by simpa using he
        have HF := Lib.hid (show First ss nm bs.length k from ⟨hk, HN.out, fun _ => he⟩)
        have HQ := Lib.hid (show Ending.returned (.pointer (some ⟨bs[k], 0, none⟩)) = .returned (.pointer (bs[k]?.map fun b => ⟨b, 0, none⟩)) by rw [List.getElem?_eq_getElem hlt]; rfl)
        clear he
        go_wp2
        go_ret
        exact found_post HF.out HQ.out rfl
      · have he' : ((ss k).toList == nm.toList) = false := by simpa using he
        have HS := Lib.hid (NoneTo.succ HN.out he)
        clear he HN
        go_wp2
        go_round
        case rel => exact ⟨k + 1, by omega, by go_num, HS.out⟩
        case measure => simp [intOf]; omega
    · have hk' : k = bs.length := by omega
      have HF := Lib.hid (show First ss nm bs.length bs.length from ⟨Nat.le_refl _, hk' ▸ HN.out, fun h => absurd h (Nat.lt_irrefl _)⟩)
      have HQ := Lib.hid (show Ending.returned (.pointer none) = .returned (.pointer (bs[bs.length]?.map fun b => (⟨b, 0, none⟩ : Addr))) by simp)
      clear HN hk'
      go_wp2
      go_ret
      exact found_post HF.out HQ.out rfl
theorem findCol_nil (ss : Nat → ByteArray) (nm : ByteArray) (w : World) : Calls Try.prog 27 #[.slice none 0 0, .string nm] w (FoundPost [] ss nm w) := by
  have HF := Lib.hid (show First ss nm ([] : List Nat).length 0 from ⟨Nat.le_refl _, NoneTo.zero _ _, fun h => absurd h (Nat.lt_irrefl _)⟩)
  go_enter Try.func27, Try.ntmps27
  go_wp2
  go_rounds 1
  go_ret
  exact found_post HF.out rfl rfl

/-- What a new column holds. -/
def colObj (j : Nat) (s : ByteArray) : Obj := .cells #[.int .i64 (j : Int), .string s, .int .i64 0, .pointer none, .nilIface] 53
/-- Behind k rounds: the slice owns the pointers to k columns; nothing that was there has turned. -/
structure Gath (w wr : World) (v : Value) (bs : List Nat) (ss : Nat → ByteArray) : Prop where
  own : wr.ownsRow w.heap.size 48 1 v bs.length (bs.map fun b => .pointer (some ⟨b, 0, none⟩))
  cols : ∀ j (h : j < bs.length), wr.heap[bs[j]]? = some (colObj j (ss j))
  below : Below w.heap.size w wr
theorem cell_obj {wr : World} {b : Nat} {C : Array Value} {t : TypeId} {m : Nat × Nat} (h : wr.heap[b]? = some (.cells C t m)) (j : Nat) : wr.cell? ⟨b, j, none⟩ = C[j]? := cell_of_row wr b j C t m h
theorem Gath.toCols {w wr : World} {v : Value} {bs : List Nat} {ss : Nat → ByteArray} (h : Gath w wr v bs ss) : Cols wr bs ss :=
  ⟨fun j hj => by rw [cell_obj (h.cols j hj)]; rfl, fun j hj => by rw [cell_obj (h.cols j hj)]; rfl⟩
/-- A column's block is not the slice's. -/
theorem Gath.ne {w wr : World} {v : Value} {bs : List Nat} {ss : Nat → ByteArray} (h : Gath w wr v bs ss) {j : Nat} (hj : j < bs.length) : some bs[j] ≠ v.ownBlock := by
  intro e
  rcases h.own.2 with ⟨rfl, _⟩ | ⟨g, cap, cur, rfl, _, hg, _⟩
  · simp [Value.ownBlock] at e
  · simp only [Value.ownBlock, Option.some.injEq] at e
    have := h.cols j hj
    rw [e, hg] at this
    simp [colObj] at this
theorem Gath.step {w wr w1 : World} {v v' : Value} {bs : List Nat} {ss : Nat → ByteArray} (h : Gath w wr v bs ss)
    (hown : w1.ownsRow w.heap.size 48 1 v' (bs.length + 1) ((bs.map fun b => .pointer (some ⟨b, 0, none⟩)) ++ [.pointer (some ⟨wr.heap.size, 0, none⟩)]))
    {Y : Obj} (hg : ((wr.alloc (colObj bs.length (ss bs.length))).alloc Y).grownBy w1 v.ownBlock) : Gath w w1 v' (bs ++ [wr.heap.size]) ss := by
  have hlt := h.own.lt
  have hs := h.below.size
  refine ⟨by simpa using hown, fun j hj => ?_, ?_⟩
  · simp only [List.length_append, List.length_cons, List.length_nil] at hj
    by_cases hj' : j < bs.length
    · have e1 : (bs ++ [wr.heap.size])[j]'(by simp; omega) = bs[j] := List.getElem_append_left hj'
      have hx : bs[j] < wr.heap.size := (Array.getElem?_eq_some_iff.1 (h.cols j hj')).1
      rw [e1, hg.block bs[j] (by simp; omega) (h.ne hj'), Below.heap_alloc _ _ _ (by simp; omega), Below.heap_alloc _ _ _ hx]
      exact h.cols j hj'
    · obtain rfl : j = bs.length := by omega
      have e1 : (bs ++ [wr.heap.size])[bs.length]'(by simp) = wr.heap.size := by simp
      have hne : some wr.heap.size ≠ v.ownBlock := fun e => by
        have := (hlt _ e.symm).2
        omega
      rw [e1, hg.block wr.heap.size (by simp; omega) hne, Below.heap_alloc _ _ _ (by simp)]
      show (wr.heap.push _)[wr.heap.size]? = _
      simp
  · refine ((h.below.alloc hs _).alloc (by simp; omega) _).grown hg (by simp; omega) (fun k hk => (hlt k hk).1)

def ixOf (r n : Nat) : Int := if r < n then (r : Int) else -1
def FindPost (ss : Nat → ByteArray) (nm : ByteArray) (n : Nat) (w : World) (e : Ending) (w' : World) : Prop :=
  ∃ r, First ss nm n r ∧ e = .returned (.int .i64 (ixOf r n)) ∧ Below w.heap.size w w'
theorem find_post {ss : Nat → ByteArray} {nm : ByteArray} {n : Nat} {w w' : World} {e : Ending} {r : Nat} (h : First ss nm n r) (he : e = .returned (.int .i64 (ixOf r n))) (hb : Below w.heap.size w w') : FindPost ss nm n w e w' := ⟨r, h, he, hb⟩

theorem info48 : (Try.prog.info? 48).map (fun i => (i.zero, i.size, i.bytes)) = some (some (.pointer none), 1, 8) := by kernel_rfl
set_option maxRecDepth 100000 in
set_option maxHeartbeats 2000000 in
theorem zzFindCol_any (b off cap len : Nat) (ss : Nat → ByteArray) (nm : ByteArray) (w : World) (hlen : len ≤ 1000) (hb : b < w.heap.size) (hc : ∀ j, j < len → w.cell? ⟨b, off + j, none⟩ = some (.string (ss j))) :
    Calls Try.prog 19 #[.slice (some ⟨b, off, none⟩) len cap, .string nm] w (FindPost ss nm len w) := by
  obtain ⟨i0, hi, hz0, hz1, hz2⟩ := info_parts info48
  have HC := Lib.hid hc
  clear hc
  go_enter Try.func19, Try.ntmps19
  go_wp2
  go_loopw [5, 11] (fun v i wr => ∃ (k : Nat) (bs : List Nat), k ≤ len ∧ i = .int .i64 k ∧ bs.length = k ∧ Gath w wr v bs ss) (fun _ i _ => len - (intOf i).toNat)
  case atStart => exact ⟨0, [], Nat.zero_le _, rfl, rfl, ⟨World.ownsRow_nil _ _ _ _, fun j h => absurd h (Nat.not_lt_zero j), Below.refl _ _⟩⟩
  case round =>
    obtain ⟨k, bs, hk, rfl, hbs, hG⟩ := hrel
    have HG := Lib.hid hG
    have HB := Lib.hid hbs
    have hbl : Below w.heap.size w wr := hG.below
    have hsz := hbl.size
    by_cases hlt : k < len
    · have c1 : wr.cell? ⟨b, off + k, none⟩ = some (.string (ss k)) := (hbl.cell (p := ⟨b, off + k, none⟩) hb).trans (HC.out k hlt)
      have hown := hG.own
      rw [hbs] at hown
      have HO := Lib.hid hown
      clear hG hbs hown hbl
      go_wp2_with (at_builtin; refine wpList_append_own _ rfl _ _ 47 rfl w.heap.size 48 i0 (.pointer none) 1 8 Try.underlying47 hi hz0 hz1 hz2 rfl (by decide) _ _ _ rfl ((HO.out.alloc _).alloc _) ⟨wr.heap.size + 1, 0, none⟩ 1 1 [.pointer (some ⟨wr.heap.size, 0, none⟩)] rfl rfl ?c1 ?c2 ?c3 ?c4 ?c5 ?_)
      case c1 =>
        intro j u hj
        match j, hj with
        | 0, hj => simp at hj; subst hj; simp [Addr.add]
      case c2 => intro u hu; simp at hu; subst hu; rfl
      case c3 => unfold maxLen; omega
      case c4 => omega
      case c5 => simp; omega
      intro v' w1 hown' hgrow _
      have HO' := Lib.hid hown'
      have HGr := Lib.hid hgrow
      clear hown' hgrow
      have hS : Gath w w1 v' (bs ++ [wr.heap.size]) ss := HG.out.step (by rw [HB.out]; exact HO'.out) (by rw [HB.out]; exact HGr.out)
      have HS := Lib.hid hS
      have hL : (bs ++ [wr.heap.size]).length = k + 1 := by simp [HB.out]
      have HL := Lib.hid hL
      clear hS hL HG HB HO HO' HGr
      go_wp2
      go_roundw
      case rel => exact ⟨k + 1, bs ++ [wr.heap.size], by omega, by go_num, HL.out, HS.out⟩
      case measure => simp [intOf]; omega
    · have hk' : bs.length = len := by omega
      rcases hG.own.2 with ⟨hv, hn⟩ | ⟨g, cp, cur, hv, hb1, hg, _⟩
      · have hb0 : bs = [] := List.eq_nil_of_length_eq_zero hn
        have hl0 : len = 0 := by rw [← hk', hb0]; rfl
        have HF := Lib.hid (show First ss nm len 0 from ⟨Nat.zero_le _, NoneTo.zero _ _, fun h => by omega⟩)
        have HQ := Lib.hid (show Ending.returned (.int .i64 (-1)) = .returned (.int .i64 (ixOf 0 len)) by rw [hl0]; rfl)
        have HBl := Lib.hid hbl
        clear hG HG HB hbs hb0 hn hbl
        rw [hv]
        clear hv
        go_wp2_with (go_at_call 27; refine (findCol_nil ss nm _).mono ?_; rintro e w' ⟨r, hf, rfl, rfl⟩)
        go_ret
        exact find_post HF.out HQ.out HBl.out
      · have hp : ∀ j (h : j < bs.length), wr.cell? ⟨g, j, none⟩ = some (.pointer (some ⟨bs[j], 0, none⟩)) := fun j hj => by
          have := hG.own.cells (g := g) (by rw [hv]; rfl) j (.pointer (some ⟨bs[j], 0, none⟩)) (by simp [hj])
          rw [show (Addr.add ⟨g, 0, none⟩ j) = ⟨g, j, none⟩ from by simp [Addr.add]; omega] at this
          exact this
        have hcall := findCol_any g cp bs ss nm wr (by omega) hG.toCols hp
        rw [hk'] at hcall
        have HCall := Lib.hid hcall
        have HCo := Lib.hid hG.toCols
        have HBl := Lib.hid hbl
        have hv' : u5 = .slice (some ⟨g, 0, none⟩) len cp := by rw [hv, hk']
        have HK := Lib.hid hk'
        clear hG HG HB hbs hp hcall hbl hb1 hg hk' hv
        rw [hv']
        clear hv'
        go_wp2_with fail
        refine HCall.out.mono ?_
        rintro e w' ⟨r, hf, rfl, rfl⟩
        have HF := Lib.hid hf
        clear hf
        have hk2 : bs.length = len := HK.out
        have HF2 := Lib.hid (show First ss nm len r from hk2 ▸ HF.out)
        by_cases hr : r < bs.length
        · obtain ⟨x, e1, c0⟩ : ∃ x, (bs[r]?.map fun b => (⟨b, 0, none⟩ : Addr)) = some ⟨x, 0, none⟩ ∧ w'.cell? ⟨x, 0, none⟩ = some (.int .i64 (r : Int)) := ⟨bs[r], by rw [List.getElem?_eq_getElem hr]; rfl, HCo.out.at0 r hr⟩
          have HQ := Lib.hid (show Ending.returned (.int .i64 (r : Int)) = .returned (.int .i64 (ixOf r len)) by unfold ixOf; rw [if_pos (by omega)])
          rw [e1]
          clear e1 hk2 HF HK HC HCo HCall
          go_wp2
          go_ret
          exact find_post HF2.out HQ.out HBl.out
        · have e1 : (bs[r]?.map fun b => (⟨b, 0, none⟩ : Addr)) = none := by rw [List.getElem?_eq_none (by omega)]; rfl
          have HQ := Lib.hid (show Ending.returned (.int .i64 (-1)) = .returned (.int .i64 (ixOf r len)) by unfold ixOf; rw [if_neg (by omega)])
          rw [e1]
          clear e1 hk2 HF HK HC HCo HCall
          go_wp2
          go_ret
          exact find_post HF2.out HQ.out HBl.out
theorem zzFindCol_nil (ss : Nat → ByteArray) (nm : ByteArray) (w : World) : Calls Try.prog 19 #[.slice none 0 0, .string nm] w (FindPost ss nm 0 w) := by
  have HF := Lib.hid (show First ss nm 0 0 from ⟨Nat.le_refl _, NoneTo.zero _ _, fun h => absurd h (Nat.lt_irrefl _)⟩)
  go_enter Try.func19, Try.ntmps19
  go_wp2
  go_rounds 1
  go_rounds 1
  go_ret
  exact find_post HF.out (show Ending.returned (.int .i64 (-1)) = .returned (.int .i64 (ixOf 0 0)) from rfl) (Below.refl _ _)
theorem findCol_slice (b off cap len : Nat) (ss : Nat → ByteArray) (nm : ByteArray) (w : World) (hlen : len ≤ 1000) (hb : b < w.heap.size) (hc : ∀ j, j < len → w.cell? ⟨b, off + j, none⟩ = some (.string (ss j))) :
    Calls Try.prog 7 #[.slice (some ⟨b, off, none⟩) len cap, .string nm] w (FindPost ss nm len w) := by
  have H := Lib.hid (zzFindCol_any b off cap len ss nm w hlen hb hc)
  clear hc
  go_enter Try.func7, Try.ntmps7
  go_wp2_with (go_at_call 19; refine H.out.mono ?_; rintro e w' ⟨r, hf, rfl, hbl⟩; have HF := Lib.hid hf; have HB := Lib.hid hbl; clear hf hbl)
  go_ret
  exact find_post HF.out rfl HB.out
theorem findCol_none (ss : Nat → ByteArray) (nm : ByteArray) (w : World) : Calls Try.prog 7 #[.slice none 0 0, .string nm] w (FindPost ss nm 0 w) := by
  have H := Lib.hid (zzFindCol_nil ss nm w)
  go_enter Try.func7, Try.ntmps7
  go_wp2_with (go_at_call 19; refine H.out.mono ?_; rintro e w' ⟨r, hf, rfl, hbl⟩; have HF := Lib.hid hf; have HB := Lib.hid hbl; clear hf hbl)
  go_ret
  exact find_post HF.out rfl HB.out
end Go.Proofs.YtamlkedkmehfcaaRRRR
