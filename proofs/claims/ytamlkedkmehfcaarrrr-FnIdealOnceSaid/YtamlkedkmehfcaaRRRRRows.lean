/-
  No cell of these rows narrows 'for every input' (looked for: loops, veiled, ifaces, maps, wideKeys, modest, calm, conditions, laid).
  DERIVED. THE GIVEN ROWS OF THIS SEAT. 3 by the template 'for every input the law returns true; each argument reads behind the call as it read before'; 0 by the template 'total and deterministic' (their statements: YtamlkedkmehfcaaRRRRTotals.lean).
  GIVEN WITH THE SEED: the statements are not yours to turn. If you find one false, say at which input.
  Laid BY PROGRAM, IN A SANDBOX (cutbox-rows.mjs): the forced cells as the released guide's own fill.sh prints them over the translation e2d27c4cd5148cf9… (all of the seat's roots in one cut). By AI agents, Wed Nov 11 2026. No macro, syntax, notation, axiom, sorry.
-/
import Derived.Test.YtamlkedkmehfcaaRRRRChecked
import GoSem.Claim
import GoSem.ClaimJoined
import GoSem.ClaimMapViews
import Derived.JoinedTies
import Derived.KernelRfl
namespace Go.Proofs.YtamlkedkmehfcaaRRRR
/- THE CELL 'sum', in the pinned program and in every row, IS THE sha256 OF THE DUMP (.gsa) THAT YtamlkedkmehfcaaRRRRProg.lean LOADS. Nothing in Lean hashes anything: it is a label: what it is worth is what the hold of that sum in a sandbox is worth. -/
noncomputable def Try.pinned : Pinned := { name := "ytamlkedkmehfcaarrrr", sum := "e2d27c4cd5148cf936a324abe9476e2cd43df9fb9ce774a2d8d04f060816f424", checked := Try.checked }
namespace Rows
def none {H : Type} : Left H := { results := [], args := [] }

/-- 'laws.FnFindColFirst': WHATEVER THE INPUT: true; the input reads as it did. -/
def fnFindColFirstSpec : ChangeSpec := { name := "fnFindColFirst", fn := fun _ => fun
  | [d1, d2] => { results := [.lit (.bool true)], args := [d1, d2] }
  | _ => none }
def fnFindColFirstRow : OpenClaim := { program := "ytamlkedkmehfcaarrrr", sum := "e2d27c4cd5148cf936a324abe9476e2cd43df9fb9ce774a2d8d04f060816f424", func := "pub-quern/laws.FnFindColFirst", spec := "fnFindColFirst", apart := false }
def FnFindColFirstSaid : Prop := fnFindColFirstRow.holds Try.pinned (OpenSpec.ofChange fnFindColFirstSpec)

/-- ITS FALSE NEIGHBOUR: 'it returns false'. Refute it at one input. -/
def fnFindColFirstWrong : ChangeSpec := { name := "fnFindColFirst", fn := fun _ => fun
  | [d1, d2] => { results := [.lit (.bool false)], args := [d1, d2] }
  | _ => none }
def FnFindColFirstWrongFalsely : Prop := fnFindColFirstRow.holds Try.pinned (OpenSpec.ofChange fnFindColFirstWrong)

/-- 'laws.FnRankTypes': WHATEVER THE INPUT: true; the input reads as it did. -/
def fnRankTypesSpec : ChangeSpec := { name := "fnRankTypes", fn := fun _ => fun
  | [d1, d2] => { results := [.lit (.bool true)], args := [d1, d2] }
  | _ => none }
def fnRankTypesRow : OpenClaim := { program := "ytamlkedkmehfcaarrrr", sum := "e2d27c4cd5148cf936a324abe9476e2cd43df9fb9ce774a2d8d04f060816f424", func := "pub-quern/laws.FnRankTypes", spec := "fnRankTypes", inPlace := ["math.Float64bits"], apart := false }
def FnRankTypesSaid : Prop := fnRankTypesRow.holds Try.pinned (OpenSpec.ofChange fnRankTypesSpec)

/-- ITS FALSE NEIGHBOUR: 'it returns false'. Refute it at one input. -/
def fnRankTypesWrong : ChangeSpec := { name := "fnRankTypes", fn := fun _ => fun
  | [d1, d2] => { results := [.lit (.bool false)], args := [d1, d2] }
  | _ => none }
def FnRankTypesWrongFalsely : Prop := fnRankTypesRow.holds Try.pinned (OpenSpec.ofChange fnRankTypesWrong)

/-- 'laws.FnIdealOnce': WHATEVER THE INPUT: true; the input reads as it did. -/
def fnIdealOnceSpec : ChangeSpec := { name := "fnIdealOnce", fn := fun _ => fun
  | [d] => { results := [.lit (.bool true)], args := [d] }
  | _ => none }
def fnIdealOnceRow : OpenClaim := { program := "ytamlkedkmehfcaarrrr", sum := "e2d27c4cd5148cf936a324abe9476e2cd43df9fb9ce774a2d8d04f060816f424", func := "pub-quern/laws.FnIdealOnce", spec := "fnIdealOnce", inPlace := ["math.Float64bits"], apart := false }
def FnIdealOnceSaid : Prop := fnIdealOnceRow.holds Try.pinned (OpenSpec.ofChange fnIdealOnceSpec)

/-- ITS FALSE NEIGHBOUR: 'it returns false'. Refute it at one input. -/
def fnIdealOnceWrong : ChangeSpec := { name := "fnIdealOnce", fn := fun _ => fun
  | [d] => { results := [.lit (.bool false)], args := [d] }
  | _ => none }
def FnIdealOnceWrongFalsely : Prop := fnIdealOnceRow.holds Try.pinned (OpenSpec.ofChange fnIdealOnceWrong)

/- THE SECOND FORM. 'bulk': how many values and letters a reading holds, each counted each time it is reached (what is shared counts as often as it is met; a slice's spare places count too). A statement '..UptoSaid' is the law's where the arguments, and the package variables that the reading takes, are together of bulk at most 1048576: NARROWER than '..Said'. Prove '..Said' where nothing that the law and all that it calls make is longer than what came in: it says more and counts as full. Else prove '..UptoSaid'. A law counts once. -/
mutual
def uptoBulk {H : Type} : DataW H → Nat
  | .lit (.string bytes) => bytes.length + 1
  | .lit _ => 1
  | .nil => 1
  | .ptr d => uptoBulk d + 1
  | .slice elems spare => uptoBulkAll elems + uptoBulkAll spare + 1
  | .agg parts => uptoBulkAll parts + 1
  | .iface _ d => uptoBulk d + 1
  | .map entries => uptoBulkEntries entries + 1
  | .held _ => 1
def uptoBulkAll {H : Type} : List (DataW H) → Nat
  | [] => 0
  | d :: r => uptoBulk d + uptoBulkAll r
def uptoBulkEntries {H : Type} : List (Lit × DataW H) → Nat
  | [] => 0
  | x :: r => uptoBulkEntry x + uptoBulkEntries r
def uptoBulkEntry {H : Type} : Lit × DataW H → Nat
  | (.string bytes, d) => bytes.length + uptoBulk d + 1
  | (_, d) => uptoBulk d + 1
 end
def uptoSmall : (H : Type) → List (DataW H) → Bool := fun _ ds => decide (uptoBulkAll ds ≤ 1048576)
def OpenSpec.upto (s : _root_.Go.ChangeSpec) : _root_.Go.OpenSpec := { _root_.Go.OpenSpec.ofChange s with cond := some uptoSmall }

/-- 'laws.FnFindColFirst', WHERE WHAT IT READS IS OF BULK AT MOST 1048576: true; the input reads as it did. -/
def fnFindColFirstUptoRow : OpenClaim := { program := "ytamlkedkmehfcaarrrr", sum := "e2d27c4cd5148cf936a324abe9476e2cd43df9fb9ce774a2d8d04f060816f424", func := "pub-quern/laws.FnFindColFirst", spec := "fnFindColFirst", apart := false, narrowed := true }
def FnFindColFirstUptoSaid : Prop := fnFindColFirstUptoRow.holds Try.pinned (OpenSpec.upto fnFindColFirstSpec)

/-- 'laws.FnRankTypes', WHERE WHAT IT READS IS OF BULK AT MOST 1048576: true; the input reads as it did. -/
def fnRankTypesUptoRow : OpenClaim := { program := "ytamlkedkmehfcaarrrr", sum := "e2d27c4cd5148cf936a324abe9476e2cd43df9fb9ce774a2d8d04f060816f424", func := "pub-quern/laws.FnRankTypes", spec := "fnRankTypes", inPlace := ["math.Float64bits"], apart := false, narrowed := true }
def FnRankTypesUptoSaid : Prop := fnRankTypesUptoRow.holds Try.pinned (OpenSpec.upto fnRankTypesSpec)

/-- 'laws.FnIdealOnce', WHERE WHAT IT READS IS OF BULK AT MOST 1048576: true; the input reads as it did. -/
def fnIdealOnceUptoRow : OpenClaim := { program := "ytamlkedkmehfcaarrrr", sum := "e2d27c4cd5148cf936a324abe9476e2cd43df9fb9ce774a2d8d04f060816f424", func := "pub-quern/laws.FnIdealOnce", spec := "fnIdealOnce", inPlace := ["math.Float64bits"], apart := false, narrowed := true }
def FnIdealOnceUptoSaid : Prop := fnIdealOnceUptoRow.holds Try.pinned (OpenSpec.upto fnIdealOnceSpec)

end Rows
end Go.Proofs.YtamlkedkmehfcaaRRRR
