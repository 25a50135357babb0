/-
  NARROWER THAN 'FOR EVERY INPUT', by the rows' own cells (each row's printed sentence says how): FnArchivePadIsLeastAlignedAndIdempotent: laid · FnArchivePadAfterAlignedPrefix: laid.
  DERIVED. THE GIVEN ROWS OF THIS SEAT. 2 by the template 'for every input the law returns true; each argument reads behind the call as it read before'; 0 by the template 'total and deterministic' (their statements: Qxb6619867aDoorTotals.lean).
  GIVEN WITH THE SEED: the statements are not yours to turn. If you find one false, say at which input.
  Laid BY PROGRAM, IN A SANDBOX (cutbox-rows.mjs): the forced cells as the released guide's own fill.sh prints them over the translation 32c68cd63c2308b2… (all of the seat's roots in one cut). By AI agents, Wed Nov 11 2026. No macro, syntax, notation, axiom, sorry.
-/
import Derived.Test.Qxb6619867aDoorChecked
import GoSem.Claim
import GoSem.ClaimJoined
import GoSem.ClaimMapViews
import Derived.JoinedTies
import Derived.KernelRfl
namespace Go.Proofs.Qxb6619867aDoor
/- THE CELL 'sum', in the pinned program and in every row, IS THE sha256 OF THE DUMP (.gsa) THAT Qxb6619867aDoorProg.lean LOADS. Nothing in Lean hashes anything: it is a label: what it is worth is what the hold of that sum in a sandbox is worth. -/
noncomputable def Tryd.pinned : Pinned := { name := "qxb6619867adoor", sum := "32c68cd63c2308b2057f832942764f5da35941928d65a22722cc873f0a9f88f5", checked := Tryd.checked }
namespace Rows
def none {H : Type} : Left H := { results := [], args := [] }

/- WHAT THE LISTED PACKAGE-LEVEL VARIABLES READ AS WHEN THE CALL BEGINS. Each datum BY PROGRAM (the guide's laid-datum.mjs) off the statement by which the dump's own 'gosem.cut.vars' lays the variable. In a bare row this is a premise. The card (Qxb6619867aDoorCards.lean) ties it to the program's text. -/
def laid_bytes_ErrTooLarge {H : Type} : DataW H := .iface "*errors.errorString" (.ptr (.agg [.lit (.string [98, 121, 116, 101, 115, 46, 66, 117, 102, 102, 101, 114, 58, 32, 116, 111, 111, 32, 108, 97, 114, 103, 101])]))

/-- 'zzlaws_internal_vmtest_b1.FnArchivePadIsLeastAlignedAndIdempotent': WHATEVER THE INPUT: true; the input reads as it did. -/
def fnArchivePadIsLeastAlignedAndIdempotentSpec : ChangeSpec := { name := "fnArchivePadIsLeastAlignedAndIdempotent", fn := fun _ => fun
  | [d1, d2] => { results := [.lit (.bool true)], args := [d1, d2] }
  | _ => none }
def fnArchivePadIsLeastAlignedAndIdempotentRow : OpenClaim := { program := "qxb6619867adoor", sum := "32c68cd63c2308b2057f832942764f5da35941928d65a22722cc873f0a9f88f5", func := "example.com/drivewarden/drivewarden/zzlaws_internal_vmtest_b1.FnArchivePadIsLeastAlignedAndIdempotent", spec := "fnArchivePadIsLeastAlignedAndIdempotent", named := ["bytes.ErrTooLarge"], apart := false, laid := [("bytes.ErrTooLarge", laid_bytes_ErrTooLarge)] }
def FnArchivePadIsLeastAlignedAndIdempotentSaid : Prop := fnArchivePadIsLeastAlignedAndIdempotentRow.holds Tryd.pinned (OpenSpec.ofChange fnArchivePadIsLeastAlignedAndIdempotentSpec)

/-- ITS FALSE NEIGHBOUR: 'it returns false'. Refute it at one input. -/
def fnArchivePadIsLeastAlignedAndIdempotentWrong : ChangeSpec := { name := "fnArchivePadIsLeastAlignedAndIdempotent", fn := fun _ => fun
  | [d1, d2] => { results := [.lit (.bool false)], args := [d1, d2] }
  | _ => none }
def FnArchivePadIsLeastAlignedAndIdempotentWrongFalsely : Prop := fnArchivePadIsLeastAlignedAndIdempotentRow.holds Tryd.pinned (OpenSpec.ofChange fnArchivePadIsLeastAlignedAndIdempotentWrong)

/-- 'zzlaws_internal_vmtest_b1.FnArchivePadAfterAlignedPrefix': WHATEVER THE INPUT: true; the input reads as it did. -/
def fnArchivePadAfterAlignedPrefixSpec : ChangeSpec := { name := "fnArchivePadAfterAlignedPrefix", fn := fun _ => fun
  | [d1, d2, d3] => { results := [.lit (.bool true)], args := [d1, d2, d3] }
  | _ => none }
def fnArchivePadAfterAlignedPrefixRow : OpenClaim := { program := "qxb6619867adoor", sum := "32c68cd63c2308b2057f832942764f5da35941928d65a22722cc873f0a9f88f5", func := "example.com/drivewarden/drivewarden/zzlaws_internal_vmtest_b1.FnArchivePadAfterAlignedPrefix", spec := "fnArchivePadAfterAlignedPrefix", named := ["bytes.ErrTooLarge"], apart := false, laid := [("bytes.ErrTooLarge", laid_bytes_ErrTooLarge)] }
def FnArchivePadAfterAlignedPrefixSaid : Prop := fnArchivePadAfterAlignedPrefixRow.holds Tryd.pinned (OpenSpec.ofChange fnArchivePadAfterAlignedPrefixSpec)

/-- ITS FALSE NEIGHBOUR: 'it returns false'. Refute it at one input. -/
def fnArchivePadAfterAlignedPrefixWrong : ChangeSpec := { name := "fnArchivePadAfterAlignedPrefix", fn := fun _ => fun
  | [d1, d2, d3] => { results := [.lit (.bool false)], args := [d1, d2, d3] }
  | _ => none }
def FnArchivePadAfterAlignedPrefixWrongFalsely : Prop := fnArchivePadAfterAlignedPrefixRow.holds Tryd.pinned (OpenSpec.ofChange fnArchivePadAfterAlignedPrefixWrong)

end Rows
end Go.Proofs.Qxb6619867aDoor
