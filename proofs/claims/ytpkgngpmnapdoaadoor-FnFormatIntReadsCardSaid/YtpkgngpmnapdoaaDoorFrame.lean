/- How a law's row is closed: where the call returns true and turns nothing that was there, the arguments read as before. How a Value that comes in is opened. -/
import Derived.Test.YtpkgngpmnapdoaaDoorRows
import Derived.WalkKit
import Derived.ProofKit
import Derived.Deep.Fields
import Derived.Laws.Cover2
namespace Go.Proofs.YtpkgngpmnapdoaaDoor
open Go.ChangeShapes Go.WideShapes Go.ChangeAt Go.WideElems Go.RowKit Go.Deep
set_option linter.unusedVariables false
set_option linter.unusedSimpArgs false
set_option maxRecDepth 100000

theorem own : ownKnob Tryd.prog.godebug = none := by kernel_rfl
theorem laidOut : laidOutB Tryd.prog = true := by kernel_rfl

section
variable {H : Type} {enc : TypeId × Value → H} {P : Program}

/-- All arguments read as they read before, where no place that their reading met has turned. -/
theorem all_stay (hl : laidOutB P = true) {W W' : World} {sp : Nat → Bool} : ∀ {ts : List TypeId} {vs : List Value} {ds : List (DataW H)} {ps : List MemPlace},
    (∀ t ∈ ts, P.readableRec t = true ∧ t < P.types.size) → DataW.TrodAll enc P W 0 (fun _ => true) true ts vs ds ps → (∀ p ∈ ps, W.sameAt W' p) → (∀ p ∈ ps, sp p.block = true) →
    DataW.TrodAll enc P W' 0 sp true ts vs ds ps
  | [], [], [], ps, _, h, _, _ => h
  | t :: ts, v :: vs, d :: ds, ps, ht, ⟨p, q, h1, h2, e⟩, hs, hp => by
    subst e
    exact ⟨p, q, Trod_stays hl (ht t (List.mem_cons_self ..)).1 (ht t (List.mem_cons_self ..)).2 h1 (fun x hx => hs x (List.mem_append.2 (.inl hx))) (fun x hx => hp x (List.mem_append.2 (.inl hx))),
      all_stay hl (fun t' h' => ht t' (List.mem_cons_of_mem _ h')) h2 (fun x hx => hs x (List.mem_append.2 (.inr hx))) (fun x hx => hp x (List.mem_append.2 (.inr hx))), rfl⟩

/-- The post of a law: it returned true; below the heap's old end nothing has turned. -/
theorem law_post {f : Func} {s : ChangeSpec} {W W' : World} {args : Array Value} {ds gs : List (DataW H)} {before q : List MemPlace} {tb : TypeId}
    (hl : laidOutB P = true) (hts : ∀ t ∈ f.params.toList, P.readableRec t = true ∧ t < P.types.size) (hres : f.resultTypes = #[tb]) (htb : P.underlying tb = some .bool)
    (hfn : s.fn H (ds ++ gs) = { results := [.lit (.bool true)], args := ds, vars := gs })
    (hvars : ∀ sp : Nat → Bool, (∀ p ∈ q, sp p.block = true) → DataW.TrodVars enc P W' sp s.vars gs q)
    {p : List MemPlace} (hA : DataW.TrodAll enc P W 0 (fun _ => true) true f.params.toList args.toList ds p) (hbe : before = p ++ q)
    (hW : DataW.Whole enc P f.params.toList s.vars false W args.toList ds gs before) (hb : Below W.heap.size W W') :
    s.post enc P f false true false false W args (.bool true) W' := by
  have hlt := hW.lt
  have hold : ∀ x ∈ before, (fun b => decide (b < W.heap.size)) x.block = true := fun x hx => by simpa using hlt x hx
  have hargs : ∀ sp : Nat → Bool, (∀ x ∈ before, sp x.block = true) → DataW.TrodAll enc P W' 0 sp true f.params.toList args.toList (s.fn H (ds ++ gs)).args p := fun sp hsp => by
    rw [hfn]
    exact all_stay hl hts hA (fun x hx => hb.same (hlt x (by rw [hbe]; exact List.mem_append.2 (.inl hx)))) (fun x hx => hsp x (by rw [hbe]; exact List.mem_append.2 (.inl hx)))
  have hv : ∀ sp : Nat → Bool, (∀ x ∈ before, sp x.block = true) → DataW.TrodVars enc P W' sp s.vars (s.fn H (ds ++ gs)).vars q := fun sp hsp => by
    rw [hfn]
    exact hvars sp (fun x hx => hsp x (by rw [hbe]; exact List.mem_append.2 (.inr hx)))
  have hr : ∀ (b : Nat) (sp : Nat → Bool) (hd : Bool), DataW.TrodAll enc P W' b sp hd f.resultTypes.toList ((Value.bool true).resultList f.resultTypes.size) (s.fn H (ds ++ gs)).results [] := fun b sp hd => by
    rw [hfn, hres]
    exact trodAll_mk1 (shut_bool htb true)
  have hok : ∀ (j : Nat) (t : TypeId) (r : Value), f.resultTypes[j]? = some t → ((Value.bool true).resultList f.resultTypes.size)[j]? = some r → Value.okWide P W' .any 0 t r := by
    exact ok_one hres rfl (okWide_bool_mk htb true)
  refine ⟨ds, gs, before, [], p, q, hW, hr _ _ _, hargs _ hold, hv _ hold, World.keptBut_mono (fun x hx => ⟨hx, ?_⟩) (hb.frame (· ∈ before)), fun _ => ?_⟩
  · rw [hbe, List.mem_append] at hx
    exact Or.inr hx
  · obtain ⟨_, _, _, _, _, hz, hn⟩ := hW
    refine ⟨hok, _, _, ([] ++ p) ++ q, ⟨[] ++ p, q, trodAll_append (hargs _ (fun _ _ => rfl)) (hr _ _ _), hv _ (fun _ _ => rfl), rfl, ?_, ?_⟩, ?_⟩
    · intro b off hx
      have hx' : MemPlace.cell b off ∈ before := by rw [hbe]; simpa using hx
      rw [hb.frozen (p := ⟨b, off, none⟩) (hlt _ hx')]
      exact hz b off hx'
    · intro ha
      cases ha
    · intro x hx _
      rw [hbe]
      simpa using hx

variable {w : World} {base : Nat} {spare : Nat → Bool} {held : Bool}
theorem trod_float {t : TypeId} {k : FloatKind} {fuel : Nat} {cs : List Value} {x : DataW H × List MemPlace} (ht : P.underlying t = some (.float k)) (h : DataW.trod enc P w base spare held fuel t cs = some x) : ∃ b, cs = [.float k b] ∧ (Lit.float k b).wf = true := by
  cases fuel with
  | zero => simp [DataW.trod] at h
  | succ n =>
    unfold DataW.trod at h
    rw [ht] at h
    split at h <;> simp_all
end

/-- A Value that comes in. -/
structure InVal (v : Value) (k : ByteArray) (n u : Int) (f : Nat) (s : ByteArray) : Prop where
  eq : v = .agg #[.string k, .int .i64 n, .int .u64 u, .float .f64 f, .string s]
  n1 : -9223372036854775808 ≤ n
  n2 : n ≤ 9223372036854775807
  u1 : 0 ≤ u
  u2 : u ≤ 18446744073709551615
  ks : k.size ≤ maxLen
  ss : s.size ≤ maxLen

section
variable {H : Type} {enc : TypeId × Value → H} {w : World} {base : Nat} {spare : Nat → Bool} {held : Bool}
set_option maxRecDepth 100000 in
theorem cells_value {fuel : Nat} {l : List Value} {x : DataW H × List MemPlace} (h : DataW.trod enc Tryd.prog w base spare held fuel 25 l = some x) : ∃ k n u f s, InVal (.agg l.toArray) k n u f s := by
  have hs : Tryd.prog.underlying 25 = some (.struct _) := Tryd.underlying25
  have hC : Tryd.prog.cellsOf 25 = 5 := by kernel_rfl
  obtain ⟨xs, m, _, _, hlen, hxl, hg⟩ := DataW.trod_struct hs h
  rw [hC] at hlen
  match l, hlen with
  | [c0, c1, c2, c3, c4], _ =>
    have h0 := hg 0 _ rfl
    have h1 := hg 1 _ rfl
    have h2 := hg 2 _ rfl
    have h3 := hg 3 _ rfl
    have h4 := hg 4 _ rfl
    match xs, hxl with
    | [x0, x1, x2, x3, x4], _ =>
      have one : ∀ t, t ∈ [9, 2, 22, 23] → Tryd.prog.cellsOf t = 1 := by
        intro t ht
        simp only [List.mem_cons, List.not_mem_nil, or_false] at ht
        rcases ht with rfl | rfl | rfl | rfl <;> kernel_rfl
      have e0 : DataW.trod enc Tryd.prog w base spare held m 9 [c0] = some x0 := by simpa [one 9 (by simp)] using h0
      have e1 : DataW.trod enc Tryd.prog w base spare held m 2 [c1] = some x1 := by simpa [one 2 (by simp)] using h1
      have e2 : DataW.trod enc Tryd.prog w base spare held m 22 [c2] = some x2 := by simpa [one 22 (by simp)] using h2
      have e3 : DataW.trod enc Tryd.prog w base spare held m 23 [c3] = some x3 := by simpa [one 23 (by simp)] using h3
      have e4 : DataW.trod enc Tryd.prog w base spare held m 9 [c4] = some x4 := by simpa [one 9 (by simp)] using h4
      obtain ⟨k, a0, _, hk⟩ := DataW.trod_string Tryd.underlying9 e0
      obtain ⟨n, a1, _, hn⟩ := DataW.trod_int Tryd.underlying2 e1
      obtain ⟨u, a2, _, hu⟩ := DataW.trod_int Tryd.underlying22 e2
      obtain ⟨f, a3, hf⟩ := trod_float Tryd.underlying23 e3
      obtain ⟨s, a4, _, hss⟩ := DataW.trod_string Tryd.underlying9 e4
      simp only [List.cons.injEq, and_true] at a0 a1 a2 a3 a4
      subst a0 a1 a2 a3 a4
      have bn : IntKind.i64.min ≤ n ∧ n ≤ IntKind.i64.max := by simpa [Lit.wf] using hn
      have bu : IntKind.u64.min ≤ u ∧ u ≤ IntKind.u64.max := by simpa [Lit.wf] using hu
      exact ⟨k, n, u, f, s, rfl, bn.1, bn.2, bu.1, bu.2, hk, hss⟩

set_option maxRecDepth 100000 in
theorem open_value {r : Reach} {b0 : Nat} {v : Value} {d : DataW H} {p : List MemPlace} (hv : Value.okWide Tryd.prog w r b0 25 v)
    (h : DataW.Trod enc Tryd.prog w base spare held 25 v d p) : ∃ k n u f s, InVal v k n u f s := by
  obtain ⟨cs, rfl, hsz⟩ := okWide_struct Tryd.underlying25 hv
  obtain ⟨fuel, hf⟩ := h
  obtain ⟨k, n, u, f, s, hi⟩ := cells_value hf
  exact ⟨k, n, u, f, s, hi⟩
end
end Go.Proofs.YtpkgngpmnapdoaaDoor
