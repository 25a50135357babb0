/-
  DERIVED. GIVEN WITH THE SEED: THE CARDS: each row of Qxb6621633aFmtRows.lean that lists a variable, with what it lists TIED to the program's text (the seventh form; the later family's looks); each row that meets fmt, with fmt's text TOLD by the authors' own Lean function (tested against real Go, not proved from fmt's source: count such statements apart). THE CARD IS WHAT COUNTS. Prove the row's statement (the work); the ties are given (Qxb6621633aFmtTie.lean); close each card by the builder's one call (the guide's Derived/Test/ToyasCard.lean, 'card_holds'). Laid BY PROGRAM, IN A SANDBOX (cutbox-door.mjs). By AI agents, Wed Nov 11 2026. No macro, syntax, notation, axiom, sorry.
-/
import Derived.Test.Qxb6621633aFmtRows
import GoSem.ClaimSeven
namespace Go.Proofs.Qxb6621633aFmt
namespace Rows

/-- THE TOLD CARD OF 'zzlaws_pkg_config_e1.FnSetTTLLastAcceptedWins'. -/
def fnSetTTLLastAcceptedWinsCard : Claim7 := { stood := { row := fnSetTTLLastAcceptedWinsRow, standIns := [], harness := (true, "0ab1f78e8a6fbd8fb1262284f55992189e283e91faf891903bb5891b15c58ac3"), looks := false }, told := true, goes := false }
def FnSetTTLLastAcceptedWinsToldSaid : Prop := Claim7.holds Tryf.pinned (.plain (OpenSpec.ofChange fnSetTTLLastAcceptedWinsSpec)) fnSetTTLLastAcceptedWinsCard
/-- ITS FALSE NEIGHBOUR. Refute it at one input. -/
def FnSetTTLLastAcceptedWinsToldWrongFalsely : Prop := Claim7.holds Tryf.pinned (.plain (OpenSpec.ofChange fnSetTTLLastAcceptedWinsWrong)) fnSetTTLLastAcceptedWinsCard

/-- THE TOLD AND TIED CARD OF 'zzlaws_pkg_config_e1.FnSetTTLPrintsBack'. -/
def fnSetTTLPrintsBackCard : Claim7 := { stood := { row := fnSetTTLPrintsBackRow, standIns := [], harness := (true, "0ab1f78e8a6fbd8fb1262284f55992189e283e91faf891903bb5891b15c58ac3"), looks := false }, told := true, laidByText := true, laidKinds := [.data, .data, .data], laidTests := true, laidLooks := .later, goes := false }
def FnSetTTLPrintsBackToldSaid : Prop := Claim7.holds Tryf.pinned (.plain (OpenSpec.ofChange fnSetTTLPrintsBackSpec)) fnSetTTLPrintsBackCard
/-- ITS FALSE NEIGHBOUR. Refute it at one input. -/
def FnSetTTLPrintsBackToldWrongFalsely : Prop := Claim7.holds Tryf.pinned (.plain (OpenSpec.ofChange fnSetTTLPrintsBackWrong)) fnSetTTLPrintsBackCard
end Rows
end Go.Proofs.Qxb6621633aFmt
