/-
  DERIVED. GIVEN WITH THE SEED: THE CARDS: each row of Qxb6615192aDoorRows.lean that lists a variable, with what it lists TIED to the program's text (the seventh form; the later family's looks); each row that meets fmt, with fmt's text TOLD by the authors' own Lean function (tested against real Go, not proved from fmt's source: count such statements apart). THE CARD IS WHAT COUNTS. Prove the row's statement (the work); the ties are given (Qxb6615192aDoorTie.lean); close each card by the builder's one call (the guide's Derived/Test/ToyasCard.lean, 'card_holds'). Laid BY PROGRAM, IN A SANDBOX (cutbox-door.mjs). By AI agents, Wed Nov 11 2026. No macro, syntax, notation, axiom, sorry.
-/
import Derived.Test.Qxb6615192aDoorRows
import GoSem.ClaimSeven
namespace Go.Proofs.Qxb6615192aDoor
namespace Rows

/-- THE TIED CARD OF 'zzlaws_root_b1.FnIsPlainDecimalAcceptsExactlyCanonicalDecimals'. -/
def fnIsPlainDecimalAcceptsExactlyCanonicalDecimalsCard : Claim7 := { stood := { row := fnIsPlainDecimalAcceptsExactlyCanonicalDecimalsRow, standIns := [], harness := (true, "dd946e1f86960b29856a7412a1d2e560cf6c6ebbe5213a106fb657397d827c9b"), looks := true }, kinds := [], alts := [], laidByText := true, laidKinds := [.data, .data, .data, .sentinel, .sentinel], laidTests := true, laidLooks := .later }
def FnIsPlainDecimalAcceptsExactlyCanonicalDecimalsCardSaid : Prop := Claim7.holds Tryd.pinned (.plain (OpenSpec.ofChange fnIsPlainDecimalAcceptsExactlyCanonicalDecimalsSpec)) fnIsPlainDecimalAcceptsExactlyCanonicalDecimalsCard

/-- THE TIED CARD OF 'zzlaws_root_b1.FnIsPlainDecimalPrefixesStayPlain'. -/
def fnIsPlainDecimalPrefixesStayPlainCard : Claim7 := { stood := { row := fnIsPlainDecimalPrefixesStayPlainRow, standIns := [], harness := (true, "dd946e1f86960b29856a7412a1d2e560cf6c6ebbe5213a106fb657397d827c9b"), looks := true }, kinds := [], alts := [], laidByText := true, laidKinds := [.data, .data, .data, .sentinel, .sentinel], laidTests := true, laidLooks := .later }
def FnIsPlainDecimalPrefixesStayPlainCardSaid : Prop := Claim7.holds Tryd.pinned (.plain (OpenSpec.ofChange fnIsPlainDecimalPrefixesStayPlainSpec)) fnIsPlainDecimalPrefixesStayPlainCard
end Rows
end Go.Proofs.Qxb6615192aDoor
