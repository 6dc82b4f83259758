/-
  DERIVED. GIVEN WITH THE SEED: THE CARDS: each row of Qxb6616485aDoorRows.lean that lists a variable, with what it lists TIED to the program's text (the seventh form; the later family's looks); each row that meets fmt, with fmt's text TOLD by the authors' own Lean function (tested against real Go, not proved from fmt's source: count such statements apart). THE CARD IS WHAT COUNTS. Prove the row's statement (the work); the ties are given (Qxb6616485aDoorTie.lean); close each card by the builder's one call (the guide's Derived/Test/ToyasCard.lean, 'card_holds'). Laid BY PROGRAM, IN A SANDBOX (cutbox-door.mjs). By AI agents, Wed Nov 11 2026. No macro, syntax, notation, axiom, sorry.
-/
import Derived.Test.Qxb6616485aDoorRows
import GoSem.ClaimSeven
namespace Go.Proofs.Qxb6616485aDoor
namespace Rows

/-- THE TIED CARD OF 'zzlaws_root_b1.FnRecordOfJoinsAtAnyCut'. -/
def fnRecordOfJoinsAtAnyCutCard : Claim7 := { stood := { row := fnRecordOfJoinsAtAnyCutRow, standIns := [], harness := (true, "44f5e674349d0269d1554cc352392825286b2273e1378dc49119e50cf59efd58"), looks := false }, kinds := [], alts := [], laidByText := true, laidKinds := [.data, .data, .data], laidTests := true, laidLooks := .later }
def FnRecordOfJoinsAtAnyCutCardSaid : Prop := Claim7.holds Tryd.pinned (.plain (OpenSpec.ofChange fnRecordOfJoinsAtAnyCutSpec)) fnRecordOfJoinsAtAnyCutCard

/-- THE TIED CARD OF 'zzlaws_root_b1.FnRecordOfDecodesDocumentedRow'. -/
def fnRecordOfDecodesDocumentedRowCard : Claim7 := { stood := { row := fnRecordOfDecodesDocumentedRowRow, standIns := [], harness := (true, "44f5e674349d0269d1554cc352392825286b2273e1378dc49119e50cf59efd58"), looks := false }, kinds := [], alts := [], laidByText := true, laidKinds := [.data, .data, .data], laidTests := true, laidLooks := .later }
def FnRecordOfDecodesDocumentedRowCardSaid : Prop := Claim7.holds Tryd.pinned (.plain (OpenSpec.ofChange fnRecordOfDecodesDocumentedRowSpec)) fnRecordOfDecodesDocumentedRowCard
end Rows
end Go.Proofs.Qxb6616485aDoor
