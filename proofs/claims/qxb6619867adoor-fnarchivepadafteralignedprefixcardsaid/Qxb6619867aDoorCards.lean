/-
  DERIVED. GIVEN WITH THE SEED: THE CARDS: each row of Qxb6619867aDoorRows.lean that lists a variable, with what it lists TIED to the program's text (the seventh form; the later family's looks); each row that meets fmt, with fmt's text TOLD by the authors' own Lean function (tested against real Go, not proved from fmt's source: count such statements apart). THE CARD IS WHAT COUNTS. Prove the row's statement (the work); the ties are given (Qxb6619867aDoorTie.lean); close each card by the builder's one call (the guide's Derived/Test/ToyasCard.lean, 'card_holds'). Laid BY PROGRAM, IN A SANDBOX (cutbox-door.mjs). By AI agents, Wed Nov 11 2026. No macro, syntax, notation, axiom, sorry.
-/
import Derived.Test.Qxb6619867aDoorRows
import GoSem.ClaimSeven
namespace Go.Proofs.Qxb6619867aDoor
namespace Rows

/-- THE TIED CARD OF 'zzlaws_internal_vmtest_b1.FnArchivePadIsLeastAlignedAndIdempotent'. -/
def fnArchivePadIsLeastAlignedAndIdempotentCard : Claim7 := { stood := { row := fnArchivePadIsLeastAlignedAndIdempotentRow, standIns := [], harness := (true, "d0d5350d60c9029a80053539886b9de81fde74015753a348dbfd260dbdc62aa4"), looks := false }, kinds := [], alts := [], laidByText := true, laidKinds := [.sentinel], laidTests := true, laidLooks := .later }
def FnArchivePadIsLeastAlignedAndIdempotentCardSaid : Prop := Claim7.holds Tryd.pinned (.plain (OpenSpec.ofChange fnArchivePadIsLeastAlignedAndIdempotentSpec)) fnArchivePadIsLeastAlignedAndIdempotentCard

/-- THE TIED CARD OF 'zzlaws_internal_vmtest_b1.FnArchivePadAfterAlignedPrefix'. -/
def fnArchivePadAfterAlignedPrefixCard : Claim7 := { stood := { row := fnArchivePadAfterAlignedPrefixRow, standIns := [], harness := (true, "d0d5350d60c9029a80053539886b9de81fde74015753a348dbfd260dbdc62aa4"), looks := false }, kinds := [], alts := [], laidByText := true, laidKinds := [.sentinel], laidTests := true, laidLooks := .later }
def FnArchivePadAfterAlignedPrefixCardSaid : Prop := Claim7.holds Tryd.pinned (.plain (OpenSpec.ofChange fnArchivePadAfterAlignedPrefixSpec)) fnArchivePadAfterAlignedPrefixCard
end Rows
end Go.Proofs.Qxb6619867aDoor
