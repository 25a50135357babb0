/-
  No cell of these rows narrows 'for every input' (looked for: loops, veiled, ifaces, maps, wideKeys, modest, calm, conditions, laid).
  DERIVED. THE GIVEN ROWS OF THIS SEAT. 4 by the template 'for every input the law returns true; each argument reads behind the call as it read before'; 0 by the template 'total and deterministic' (their statements: Qxb6619657aTotals.lean).
  GIVEN WITH THE SEED: the statements are not yours to turn. If you find one false, say at which input.
  Laid BY PROGRAM, IN A SANDBOX (cutbox-rows.mjs): the forced cells as the released guide's own fill.sh prints them over the translation 0b38c3e2e1512149… (all of the seat's roots in one cut). By AI agents, Wed Nov 11 2026. No macro, syntax, notation, axiom, sorry.
-/
import Derived.Test.Qxb6619657aChecked
import GoSem.Claim
import GoSem.ClaimJoined
import GoSem.ClaimMapViews
import Derived.JoinedTies
import Derived.KernelRfl
namespace Go.Proofs.Qxb6619657a
/- THE CELL 'sum', in the pinned program and in every row, IS THE sha256 OF THE DUMP (.gsa) THAT Qxb6619657aProg.lean LOADS. Nothing in Lean hashes anything: it is a label: what it is worth is what the hold of that sum in a sandbox is worth. -/
noncomputable def Try.pinned : Pinned := { name := "qxb6619657a", sum := "0b38c3e2e1512149655a5fd64a35c4e81bd644b8b4f1f4ea3e56d7b28794b916", checked := Try.checked }
namespace Rows
def none {H : Type} : Left H := { results := [], args := [] }

/-- 'zzlaws_root_b1.FnByPositionSplitsAtAnyCut': WHATEVER THE INPUT: true; the input reads as it did. -/
def fnByPositionSplitsAtAnyCutSpec : ChangeSpec := { name := "fnByPositionSplitsAtAnyCut", fn := fun _ => fun
  | [d1, d2, d3] => { results := [.lit (.bool true)], args := [d1, d2, d3] }
  | _ => none }
def fnByPositionSplitsAtAnyCutRow : OpenClaim := { program := "qxb6619657a", sum := "0b38c3e2e1512149655a5fd64a35c4e81bd644b8b4f1f4ea3e56d7b28794b916", func := "example.com/regather/regather/zzlaws_root_b1.FnByPositionSplitsAtAnyCut", spec := "fnByPositionSplitsAtAnyCut", apart := false }
def FnByPositionSplitsAtAnyCutSaid : Prop := fnByPositionSplitsAtAnyCutRow.holds Try.pinned (OpenSpec.ofChange fnByPositionSplitsAtAnyCutSpec)

/-- ITS FALSE NEIGHBOUR: 'it returns false'. Refute it at one input. -/
def fnByPositionSplitsAtAnyCutWrong : ChangeSpec := { name := "fnByPositionSplitsAtAnyCut", fn := fun _ => fun
  | [d1, d2, d3] => { results := [.lit (.bool false)], args := [d1, d2, d3] }
  | _ => none }
def FnByPositionSplitsAtAnyCutWrongFalsely : Prop := fnByPositionSplitsAtAnyCutRow.holds Try.pinned (OpenSpec.ofChange fnByPositionSplitsAtAnyCutWrong)

/-- 'zzlaws_root_b1.FnTileHeldFromItsLeastSize': WHATEVER THE INPUT: true; the input reads as it did. -/
def fnTileHeldFromItsLeastSizeSpec : ChangeSpec := { name := "fnTileHeldFromItsLeastSize", fn := fun _ => fun
  | [d1, d2, d3, d4] => { results := [.lit (.bool true)], args := [d1, d2, d3, d4] }
  | _ => none }
def fnTileHeldFromItsLeastSizeRow : OpenClaim := { program := "qxb6619657a", sum := "0b38c3e2e1512149655a5fd64a35c4e81bd644b8b4f1f4ea3e56d7b28794b916", func := "example.com/regather/regather/zzlaws_root_b1.FnTileHeldFromItsLeastSize", spec := "fnTileHeldFromItsLeastSize", apart := false }
def FnTileHeldFromItsLeastSizeSaid : Prop := fnTileHeldFromItsLeastSizeRow.holds Try.pinned (OpenSpec.ofChange fnTileHeldFromItsLeastSizeSpec)

/-- ITS FALSE NEIGHBOUR: 'it returns false'. Refute it at one input. -/
def fnTileHeldFromItsLeastSizeWrong : ChangeSpec := { name := "fnTileHeldFromItsLeastSize", fn := fun _ => fun
  | [d1, d2, d3, d4] => { results := [.lit (.bool false)], args := [d1, d2, d3, d4] }
  | _ => none }
def FnTileHeldFromItsLeastSizeWrongFalsely : Prop := fnTileHeldFromItsLeastSizeRow.holds Try.pinned (OpenSpec.ofChange fnTileHeldFromItsLeastSizeWrong)

/-- 'zzlaws_root_b1.FnTileHeldAcrossLevelsAndAtTheEnd': WHATEVER THE INPUT: true; the input reads as it did. -/
def fnTileHeldAcrossLevelsAndAtTheEndSpec : ChangeSpec := { name := "fnTileHeldAcrossLevelsAndAtTheEnd", fn := fun _ => fun
  | [d1, d2, d3, d4] => { results := [.lit (.bool true)], args := [d1, d2, d3, d4] }
  | _ => none }
def fnTileHeldAcrossLevelsAndAtTheEndRow : OpenClaim := { program := "qxb6619657a", sum := "0b38c3e2e1512149655a5fd64a35c4e81bd644b8b4f1f4ea3e56d7b28794b916", func := "example.com/regather/regather/zzlaws_root_b1.FnTileHeldAcrossLevelsAndAtTheEnd", spec := "fnTileHeldAcrossLevelsAndAtTheEnd", apart := false }
def FnTileHeldAcrossLevelsAndAtTheEndSaid : Prop := fnTileHeldAcrossLevelsAndAtTheEndRow.holds Try.pinned (OpenSpec.ofChange fnTileHeldAcrossLevelsAndAtTheEndSpec)

/-- ITS FALSE NEIGHBOUR: 'it returns false'. Refute it at one input. -/
def fnTileHeldAcrossLevelsAndAtTheEndWrong : ChangeSpec := { name := "fnTileHeldAcrossLevelsAndAtTheEnd", fn := fun _ => fun
  | [d1, d2, d3, d4] => { results := [.lit (.bool false)], args := [d1, d2, d3, d4] }
  | _ => none }
def FnTileHeldAcrossLevelsAndAtTheEndWrongFalsely : Prop := fnTileHeldAcrossLevelsAndAtTheEndRow.holds Try.pinned (OpenSpec.ofChange fnTileHeldAcrossLevelsAndAtTheEndWrong)

/-- 'zzlaws_root_b1.FnByPositionComposes': WHATEVER THE INPUT: true; the input reads as it did. -/
def fnByPositionComposesSpec : ChangeSpec := { name := "fnByPositionComposes", fn := fun _ => fun
  | [d1, d2, d3] => { results := [.lit (.bool true)], args := [d1, d2, d3] }
  | _ => none }
def fnByPositionComposesRow : OpenClaim := { program := "qxb6619657a", sum := "0b38c3e2e1512149655a5fd64a35c4e81bd644b8b4f1f4ea3e56d7b28794b916", func := "example.com/regather/regather/zzlaws_root_b1.FnByPositionComposes", spec := "fnByPositionComposes", apart := false }
def FnByPositionComposesSaid : Prop := fnByPositionComposesRow.holds Try.pinned (OpenSpec.ofChange fnByPositionComposesSpec)

/-- ITS FALSE NEIGHBOUR: 'it returns false'. Refute it at one input. -/
def fnByPositionComposesWrong : ChangeSpec := { name := "fnByPositionComposes", fn := fun _ => fun
  | [d1, d2, d3] => { results := [.lit (.bool false)], args := [d1, d2, d3] }
  | _ => none }
def FnByPositionComposesWrongFalsely : Prop := fnByPositionComposesRow.holds Try.pinned (OpenSpec.ofChange fnByPositionComposesWrong)

end Rows
end Go.Proofs.Qxb6619657a
