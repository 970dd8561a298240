/-
  DERIVED. GIVEN WITH THE SEED: THE CARDS: each row of YtdhnhgcdajlpjaaDoorRows.lean that lists a variable, with what it lists TIED to the program's text (the seventh form; the later family's looks); each row that meets fmt, with fmt's text TOLD by the authors' own Lean function (tested against real Go, not proved from fmt's source: count such statements apart). THE CARD IS WHAT COUNTS. Prove the row's statement (the work); the ties are given (YtdhnhgcdajlpjaaDoorTie.lean); close each card by the builder's one call (the guide's Derived/Test/ToyasCard.lean, 'card_holds'). Laid BY PROGRAM, IN A SANDBOX (cutbox-door.mjs). By AI agents, Wed Nov 11 2026. No macro, syntax, notation, axiom, sorry.
-/
import Derived.Test.YtdhnhgcdajlpjaaDoorRows
import GoSem.ClaimSeven
namespace Go.Proofs.YtdhnhgcdajlpjaaDoor
namespace Rows

/-- THE TIED CARD OF 'laws.FnExactTypeCheck'. -/
def fnExactTypeCheckCard : Claim7 := { stood := { row := fnExactTypeCheckRow, standIns := [], harness := (true, "9a8b2ee83a21bd7bc66fccd2f868aaa41cc23234c648ac4bd09c38e215df19fa"), looks := true }, kinds := [], alts := [], laidByText := true, laidKinds := [.sentinel], laidTests := true, laidLooks := .later }
def FnExactTypeCheckCardSaid : Prop := Claim7.holds Tryd.pinned (.plain (OpenSpec.ofChange fnExactTypeCheckSpec)) fnExactTypeCheckCard

/-- THE TIED CARD OF 'laws.FnTypeCheckKinds'. -/
def fnTypeCheckKindsCard : Claim7 := { stood := { row := fnTypeCheckKindsRow, standIns := [], harness := (true, "9a8b2ee83a21bd7bc66fccd2f868aaa41cc23234c648ac4bd09c38e215df19fa"), looks := true }, kinds := [], alts := [], laidByText := true, laidKinds := [.sentinel], laidTests := true, laidLooks := .later }
def FnTypeCheckKindsCardSaid : Prop := Claim7.holds Tryd.pinned (.plain (OpenSpec.ofChange fnTypeCheckKindsSpec)) fnTypeCheckKindsCard

/-- THE SECOND FORM's CARD OF 'laws.FnExactTypeCheck'. -/
def fnExactTypeCheckUptoCard : Claim7 := { stood := { row := fnExactTypeCheckUptoRow, standIns := [], harness := (true, "9a8b2ee83a21bd7bc66fccd2f868aaa41cc23234c648ac4bd09c38e215df19fa"), looks := true }, kinds := [], alts := [], laidByText := true, laidKinds := [.sentinel], laidTests := true, laidLooks := .later }
def FnExactTypeCheckUptoCardSaid : Prop := Claim7.holds Tryd.pinned (.plain (OpenSpec.upto fnExactTypeCheckSpec)) fnExactTypeCheckUptoCard

/-- THE SECOND FORM's CARD OF 'laws.FnTypeCheckKinds'. -/
def fnTypeCheckKindsUptoCard : Claim7 := { stood := { row := fnTypeCheckKindsUptoRow, standIns := [], harness := (true, "9a8b2ee83a21bd7bc66fccd2f868aaa41cc23234c648ac4bd09c38e215df19fa"), looks := true }, kinds := [], alts := [], laidByText := true, laidKinds := [.sentinel], laidTests := true, laidLooks := .later }
def FnTypeCheckKindsUptoCardSaid : Prop := Claim7.holds Tryd.pinned (.plain (OpenSpec.upto fnTypeCheckKindsSpec)) fnTypeCheckKindsUptoCard
end Rows
end Go.Proofs.YtdhnhgcdajlpjaaDoor
