/- Places in a text: what sliceExpr and indexExpr answer (posts), and the small functions beside them. -/
import Derived.Test.YtpkgngpmnapdoaaDoorInt
import Derived.Test.YtpkgngpmnapdoaaDoorSmall
namespace Go.Proofs.YtpkgngpmnapdoaaDoor
open Go.RowKit
set_option linter.unusedVariables false
set_option linter.unusedSimpArgs false
set_option maxRecDepth 100000
attribute [local go_sem] store_flt
attribute [local go_sem] ta4 tn4 ta74 tn74 ta75 tn75 ta21 tn21 ta2 tn2 ta5 tn5 ta76 tn76 ta77 tn77 ta22 tn22 ta3 tn3 ta30 tn30 ta68 tn68 ta23 tn23 ta9 tn9 ta78 tn78 ta88 tn88 ta90 tn90 ta91 tn91 ta93 tn93 ta82 tn82

/-- An integer, of a type or of a literal. -/
def V.whole : V → Bool
  | .int _ _ | .iInt _ | .iRune _ | .iUint _ => true
  | _ => false
/-- Its number. -/
def V.num (v : V) : Int := v.N + v.U
def AtWay (said good : Bool) (n m : Int) (x : Value) (w : World) : Prop := (x = .nilIface ∧ (said = true → good = true ∧ m = n)) ∨ (IsErr w x ∧ (said = true → good = false))
/-- What is answered: where it is said, good and n. -/
def AtPost (said good : Bool) (n : Int) (w : World) (e : Ending) (w' : World) : Prop :=
  ∃ (m : Int) (x : Value), e = .returned (.tuple #[.int .u64 m, x]) ∧ AtWay said good n m x w' ∧ Below w.heap.size w w'
theorem at_good {said good : Bool} {n m : Int} {w w' : World} {e : Ending} (he : e = .returned (.tuple #[.int .u64 m, .nilIface])) (hg : said = true → good = true ∧ m = n) (hb : Below w.heap.size w w') : AtPost said good n w e w' := ⟨m, _, he, .inl ⟨rfl, hg⟩, hb⟩
theorem at_bad {said good : Bool} {n m : Int} {w w' : World} {e : Ending} {x : Value} (he : e = .returned (.tuple #[.int .u64 m, x])) (hx : IsErr w' x) (hg : said = true → good = false) (hb : Below w.heap.size w w') : AtPost said good n w e w' := ⟨m, x, he, .inr ⟨hx, hg⟩, hb⟩
def SaidOk (said good : Bool) (n m c : Int) : Prop := said = true → good = true → m = n ∧ c = 0
def SaidNo (said good : Bool) (c : Int) : Prop := said = true → good = false → (c == 0) = false
/-- .. and with an error's number in its place. -/
def SaidPost (said good : Bool) (n : Int) (w : World) (e : Ending) (w' : World) : Prop :=
  ∃ m c : Int, e = .returned (.tuple #[.int .u64 m, .int .i64 c]) ∧ SaidOk said good n m c ∧ SaidNo said good c ∧ Below w.heap.size w w'
theorem said_post {said good : Bool} {n m c : Int} {w w' : World} {e : Ending} (he : e = .returned (.tuple #[.int .u64 m, .int .i64 c])) (h0 : SaidOk said good n m c) (h1 : SaidNo said good c) (hb : Below w.heap.size w w') : SaidPost said good n w e w' := ⟨m, c, he, h0, h1, hb⟩
theorem negx_any (x : Value) (w : World) : Calls Tryd.prog 74 #[x] w (NewPost w) := by
  go_enter Tryd.func74, Tryd.ntmps74
  go_wp2_with fail
  refine (new_any _ _).mono ?_
  rintro e w1 ⟨x, rfl, hx, hb⟩
  go_wp2
  go_ret
  exact new_post rfl hx hb
theorem slneg_any (x : Value) (w : World) : Calls Tryd.prog 77 #[x] w (NewPost w) := by
  go_enter Tryd.func77, Tryd.ntmps77
  go_wp2_with fail
  refine (new_any _ _).mono ?_
  rintro e w1 ⟨x, rfl, hx, hb⟩
  go_wp2
  go_ret
  exact new_post rfl hx hb
theorem bound_any (s : ByteArray) (n : Int) (w : World) : Calls Tryd.prog 75 #[.string s, .int .u64 n] w (NewPost w) := by
  go_enter Tryd.func75, Tryd.ntmps75
  go_wp2_with fail
  refine (new_any _ _).mono ?_
  rintro e w1 ⟨x, rfl, hx, hb⟩
  go_wp2
  go_ret
  exact new_post rfl hx hb
theorem slbound_any (s : ByteArray) (n : Int) (w : World) : Calls Tryd.prog 78 #[.string s, .int .u64 n] w (NewPost w) := by
  go_enter Tryd.func78, Tryd.ntmps78
  go_wp2_with fail
  refine (new_any _ _).mono ?_
  rintro e w1 ⟨x, rfl, hx, hb⟩
  go_wp2
  go_ret
  exact new_post rfl hx hb
theorem text_none (s : ByteArray) (w : World) : Calls Tryd.prog 38 #[.string s, .bool false] w fun e w' => e = .returned (.pointer none) ∧ Below w.heap.size w w' := by
  go_enter Tryd.func38, Tryd.ntmps38
  go_wp2
  go_ret
  exact ⟨rfl, (by repeat (first | exact Below.refl _ _ | refine below_drewN ?_ _ | refine Below.drew ?_ | refine Below.alloc ?_ (by simp) _ | refine Below.setCell ?_ (by simp) _))⟩
def TextPost (s : ByteArray) (w : World) (e : Ending) (w' : World) : Prop := e = .returned (.pointer (some ⟨w.heap.size, 0, none⟩)) ∧ w'.cell? ⟨w.heap.size, 0, none⟩ = some (.string s) ∧ w.heap.size < w'.heap.size ∧ Below w.heap.size w w'
theorem text_some (s : ByteArray) (w : World) : Calls Tryd.prog 38 #[.string s, .bool true] w (TextPost s w) := by
  go_enter Tryd.func38, Tryd.ntmps38
  go_wp2
  go_ret
  exact ⟨rfl, by simp [go_sem], by simp, (by repeat (first | exact Below.refl _ _ | refine below_drewN ?_ _ | refine Below.drew ?_ | refine Below.alloc ?_ (by simp) _ | refine Below.setCell ?_ (by simp) _))⟩
theorem number_nil (m : Int) (w : World) : Calls Tryd.prog 36 #[.int .u64 m, .nilIface] w fun e w' => e = .returned (.tuple #[.int .u64 m, .int .i64 0]) ∧ w' = w := by
  go_enter Tryd.func36, Tryd.ntmps36
  go_wp2
  go_returns
  exact ⟨rfl, rfl⟩
def BadPost (w : World) (e : Ending) (w' : World) : Prop := ∃ c : Int, e = .returned (.tuple #[.int .u64 0, .int .i64 c]) ∧ (c == 0) = false ∧ w' = w
theorem number_err (m : Int) (x : Value) (w : World) (hE : ErrW w) (hx : IsErr w x) : Calls Tryd.prog 36 #[.int .u64 m, x] w (BadPost w) := by
  have HE := Lib.hid hE
  have HX := Lib.hid hx
  obtain ⟨yb, yc, yt, rfl, _⟩ := hx
  clear hE
  go_enter Tryd.func36, Tryd.ntmps36
  go_wp2_with fail
  refine (zzErr_any _ _ HE.out HX.out).mono ?_
  rintro e w3 ⟨c, rfl, hc0, rfl⟩
  go_wp2
  go_returns
  exact ⟨c, rfl, hc0, rfl⟩
/-- impl.number of an answer. -/
theorem number_any {said good : Bool} {n m : Int} {x : Value} (w0 w : World) (hE : ErrW w) (hx : AtWay said good n m x w) (hb : Below w0.heap.size w0 w) : Calls Tryd.prog 36 #[.int .u64 m, x] w (SaidPost said good n w0) := by
  rcases hx with ⟨rfl, hg⟩ | ⟨hx, hg⟩
  · refine (number_nil m w).mono ?_
    rintro e w' ⟨rfl, rfl⟩
    exact said_post rfl (fun h1 _ => ⟨(hg h1).2, rfl⟩) (fun h1 h2 => by rw [(hg h1).1] at h2; cases h2) hb
  · refine (number_err m x w hE hx).mono ?_
    rintro e w' ⟨c, rfl, hc, rfl⟩
    exact said_post rfl (fun h1 h2 => by rw [hg h1] at h2; cases h2) (fun _ _ => hc) hb
end Go.Proofs.YtpkgngpmnapdoaaDoor
