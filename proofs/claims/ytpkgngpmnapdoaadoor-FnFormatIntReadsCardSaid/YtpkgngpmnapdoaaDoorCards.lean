/-
  DERIVED. GIVEN WITH THE SEED: THE CARDS: each row of YtpkgngpmnapdoaaDoorRows.lean that lists a variable, with what it lists TIED to the program's text (the seventh form; the later family's looks); each row that meets fmt, with fmt's text TOLD by the authors' own Lean function (tested against real Go, not proved from fmt's source: count such statements apart). THE CARD IS WHAT COUNTS. Prove the row's statement (the work); the ties are given (YtpkgngpmnapdoaaDoorTie.lean); close each card by the builder's one call (the guide's Derived/Test/ToyasCard.lean, 'card_holds'). Laid BY PROGRAM, IN A SANDBOX (cutbox-door.mjs). By AI agents, Wed Nov 11 2026. No macro, syntax, notation, axiom, sorry.
-/
import Derived.Test.YtpkgngpmnapdoaaDoorRows
import GoSem.ClaimSeven
namespace Go.Proofs.YtpkgngpmnapdoaaDoor
namespace Rows

/-- THE TIED CARD OF 'laws.FnIntExprNumbers'. -/
def fnIntExprNumbersCard : Claim7 := { stood := { row := fnIntExprNumbersRow, standIns := [], harness := (true, "e3828eda2b9025dd42f836d4f9fea8c0f6010bfd8c9a4fa2457e4ee6c9eb7c46"), looks := true }, kinds := [], alts := [], laidByText := true, laidKinds := [.sentinel], laidTests := true, laidLooks := .later }
def FnIntExprNumbersCardSaid : Prop := Claim7.holds Tryd.pinned (.plain (OpenSpec.ofChange fnIntExprNumbersSpec)) fnIntExprNumbersCard

/-- THE TIED CARD OF 'laws.FnContainsPlaces'. -/
def fnContainsPlacesCard : Claim7 := { stood := { row := fnContainsPlacesRow, standIns := [], harness := (true, "e3828eda2b9025dd42f836d4f9fea8c0f6010bfd8c9a4fa2457e4ee6c9eb7c46"), looks := true }, kinds := [], alts := [], laidByText := true, laidKinds := [.sentinel], laidTests := true, laidLooks := .later }
def FnContainsPlacesCardSaid : Prop := Claim7.holds Tryd.pinned (.plain (OpenSpec.ofChange fnContainsPlacesSpec)) fnContainsPlacesCard

/-- THE TIED CARD OF 'laws.FnExactIndexAt'. -/
def fnExactIndexAtCard : Claim7 := { stood := { row := fnExactIndexAtRow, standIns := [], harness := (true, "e3828eda2b9025dd42f836d4f9fea8c0f6010bfd8c9a4fa2457e4ee6c9eb7c46"), looks := true }, kinds := [], alts := [], laidByText := true, laidKinds := [.sentinel], laidTests := true, laidLooks := .later }
def FnExactIndexAtCardSaid : Prop := Claim7.holds Tryd.pinned (.plain (OpenSpec.ofChange fnExactIndexAtSpec)) fnExactIndexAtCard

/-- THE TIED CARD OF 'laws.FnSliceAtNumbers'. -/
def fnSliceAtNumbersCard : Claim7 := { stood := { row := fnSliceAtNumbersRow, standIns := [], harness := (true, "e3828eda2b9025dd42f836d4f9fea8c0f6010bfd8c9a4fa2457e4ee6c9eb7c46"), looks := true }, kinds := [], alts := [], laidByText := true, laidKinds := [.sentinel], laidTests := true, laidLooks := .later }
def FnSliceAtNumbersCardSaid : Prop := Claim7.holds Tryd.pinned (.plain (OpenSpec.ofChange fnSliceAtNumbersSpec)) fnSliceAtNumbersCard

/-- THE TIED CARD OF 'laws.FnStringsNull'. -/
def fnStringsNullCard : Claim7 := { stood := { row := fnStringsNullRow, standIns := [], harness := (true, "e3828eda2b9025dd42f836d4f9fea8c0f6010bfd8c9a4fa2457e4ee6c9eb7c46"), looks := true }, kinds := [], alts := [], laidByText := true, laidKinds := [.sentinel], laidTests := true, laidLooks := .later }
def FnStringsNullCardSaid : Prop := Claim7.holds Tryd.pinned (.plain (OpenSpec.ofChange fnStringsNullSpec)) fnStringsNullCard

/-- THE TIED CARD OF 'laws.FnFormatIntReads'. -/
def fnFormatIntReadsCard : Claim7 := { stood := { row := fnFormatIntReadsRow, standIns := [], harness := (true, "e3828eda2b9025dd42f836d4f9fea8c0f6010bfd8c9a4fa2457e4ee6c9eb7c46"), looks := true }, kinds := [], alts := [], laidByText := true, laidKinds := [.data, .data, .data, .sentinel], laidTests := true, laidLooks := .later }
def FnFormatIntReadsCardSaid : Prop := Claim7.holds Tryd.pinned (.plain (OpenSpec.ofChange fnFormatIntReadsSpec)) fnFormatIntReadsCard

/-- THE SECOND FORM's CARD OF 'laws.FnIntExprNumbers'. -/
def fnIntExprNumbersUptoCard : Claim7 := { stood := { row := fnIntExprNumbersUptoRow, standIns := [], harness := (true, "e3828eda2b9025dd42f836d4f9fea8c0f6010bfd8c9a4fa2457e4ee6c9eb7c46"), looks := true }, kinds := [], alts := [], laidByText := true, laidKinds := [.sentinel], laidTests := true, laidLooks := .later }
def FnIntExprNumbersUptoCardSaid : Prop := Claim7.holds Tryd.pinned (.plain (OpenSpec.upto fnIntExprNumbersSpec)) fnIntExprNumbersUptoCard

/-- THE SECOND FORM's CARD OF 'laws.FnContainsPlaces'. -/
def fnContainsPlacesUptoCard : Claim7 := { stood := { row := fnContainsPlacesUptoRow, standIns := [], harness := (true, "e3828eda2b9025dd42f836d4f9fea8c0f6010bfd8c9a4fa2457e4ee6c9eb7c46"), looks := true }, kinds := [], alts := [], laidByText := true, laidKinds := [.sentinel], laidTests := true, laidLooks := .later }
def FnContainsPlacesUptoCardSaid : Prop := Claim7.holds Tryd.pinned (.plain (OpenSpec.upto fnContainsPlacesSpec)) fnContainsPlacesUptoCard

/-- THE SECOND FORM's CARD OF 'laws.FnExactIndexAt'. -/
def fnExactIndexAtUptoCard : Claim7 := { stood := { row := fnExactIndexAtUptoRow, standIns := [], harness := (true, "e3828eda2b9025dd42f836d4f9fea8c0f6010bfd8c9a4fa2457e4ee6c9eb7c46"), looks := true }, kinds := [], alts := [], laidByText := true, laidKinds := [.sentinel], laidTests := true, laidLooks := .later }
def FnExactIndexAtUptoCardSaid : Prop := Claim7.holds Tryd.pinned (.plain (OpenSpec.upto fnExactIndexAtSpec)) fnExactIndexAtUptoCard

/-- THE SECOND FORM's CARD OF 'laws.FnSliceAtNumbers'. -/
def fnSliceAtNumbersUptoCard : Claim7 := { stood := { row := fnSliceAtNumbersUptoRow, standIns := [], harness := (true, "e3828eda2b9025dd42f836d4f9fea8c0f6010bfd8c9a4fa2457e4ee6c9eb7c46"), looks := true }, kinds := [], alts := [], laidByText := true, laidKinds := [.sentinel], laidTests := true, laidLooks := .later }
def FnSliceAtNumbersUptoCardSaid : Prop := Claim7.holds Tryd.pinned (.plain (OpenSpec.upto fnSliceAtNumbersSpec)) fnSliceAtNumbersUptoCard

/-- THE SECOND FORM's CARD OF 'laws.FnStringsNull'. -/
def fnStringsNullUptoCard : Claim7 := { stood := { row := fnStringsNullUptoRow, standIns := [], harness := (true, "e3828eda2b9025dd42f836d4f9fea8c0f6010bfd8c9a4fa2457e4ee6c9eb7c46"), looks := true }, kinds := [], alts := [], laidByText := true, laidKinds := [.sentinel], laidTests := true, laidLooks := .later }
def FnStringsNullUptoCardSaid : Prop := Claim7.holds Tryd.pinned (.plain (OpenSpec.upto fnStringsNullSpec)) fnStringsNullUptoCard

/-- THE SECOND FORM's CARD OF 'laws.FnFormatIntReads'. -/
def fnFormatIntReadsUptoCard : Claim7 := { stood := { row := fnFormatIntReadsUptoRow, standIns := [], harness := (true, "e3828eda2b9025dd42f836d4f9fea8c0f6010bfd8c9a4fa2457e4ee6c9eb7c46"), looks := true }, kinds := [], alts := [], laidByText := true, laidKinds := [.data, .data, .data, .sentinel], laidTests := true, laidLooks := .later }
def FnFormatIntReadsUptoCardSaid : Prop := Claim7.holds Tryd.pinned (.plain (OpenSpec.upto fnFormatIntReadsSpec)) fnFormatIntReadsUptoCard
end Rows
end Go.Proofs.YtpkgngpmnapdoaaDoor
