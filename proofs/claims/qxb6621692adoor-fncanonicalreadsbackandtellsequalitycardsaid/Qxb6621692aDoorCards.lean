/-
  DERIVED. GIVEN WITH THE SEED: THE CARDS: each row of Qxb6621692aDoorRows.lean that lists a variable, with what it lists TIED to the program's text (the seventh form; the later family's looks); each row that meets fmt, with fmt's text TOLD by the authors' own Lean function (tested against real Go, not proved from fmt's source: count such statements apart). THE CARD IS WHAT COUNTS. Prove the row's statement (the work); the ties are given (Qxb6621692aDoorTie.lean); close each card by the builder's one call (the guide's Derived/Test/ToyasCard.lean, 'card_holds'). Laid BY PROGRAM, IN A SANDBOX (cutbox-door.mjs). By AI agents, Wed Nov 11 2026. No macro, syntax, notation, axiom, sorry.
-/
import Derived.Test.Qxb6621692aDoorRows
import GoSem.ClaimSeven
namespace Go.Proofs.Qxb6621692aDoor
namespace Rows

/-- THE TIED CARD OF 'zzlaws_internal_jsonschema_b1.FnCanonicalReadsBackAndTellsEquality'. -/
def fnCanonicalReadsBackAndTellsEqualityCard : Claim7 := { stood := { row := fnCanonicalReadsBackAndTellsEqualityRow, standIns := [], harness := (true, "498ec89a4878cd1cf21502987fe5269007e4bc67713168148e81b4c82ac5f9b2"), looks := false }, kinds := [], alts := [], laidByText := true, laidKinds := [.data, .data, .data], laidTests := true, laidLooks := .later }
def FnCanonicalReadsBackAndTellsEqualityCardSaid : Prop := Claim7.holds Tryd.pinned (.plain (OpenSpec.ofChange fnCanonicalReadsBackAndTellsEqualitySpec)) fnCanonicalReadsBackAndTellsEqualityCard
end Rows
end Go.Proofs.Qxb6621692aDoor
