/-
  No cell of these rows narrows 'for every input' (looked for: loops, veiled, ifaces, maps, wideKeys, modest, calm, conditions, laid).
  DERIVED. THE GIVEN ROWS OF THIS SEAT. 2 by the template 'for every input the law returns true; each argument reads behind the call as it read before'; 0 by the template 'total and deterministic' (their statements: Qxb6617137aModsTotals.lean).
  GIVEN WITH THE SEED: the statements are not yours to turn. If you find one false, say at which input.
  Laid BY PROGRAM, IN A SANDBOX (cutbox-rows.mjs): the forced cells as the released guide's own fill.sh prints them over the translation 072cd373805448ac… (all of the seat's roots in one cut). By AI agents, Wed Nov 11 2026. No macro, syntax, notation, axiom, sorry.
-/
import Derived.Test.Qxb6617137aModsChecked
import GoSem.Claim
import GoSem.ClaimJoined
import GoSem.ClaimMapViews
import Derived.JoinedTies
import Derived.KernelRfl
namespace Go.Proofs.Qxb6617137aMods
/- THE CELL 'sum', in the pinned program and in every row, IS THE sha256 OF THE DUMP (.gsa) THAT Qxb6617137aModsProg.lean LOADS. Nothing in Lean hashes anything: it is a label: what it is worth is what the hold of that sum in a sandbox is worth. -/
noncomputable def Trym.pinned : Pinned := { name := "qxb6617137amods", sum := "072cd373805448ac6a920426b52c15a1d54d297894168fa86adaa60b9ab7862b", checked := Trym.checked }
namespace Rows
def none {H : Type} : Left H := { results := [], args := [] }

/-- 'zzlaws_pkg_quickjson_b1.FnIsASCIISplitAtAnyCutAgreesWithOrFold': WHATEVER THE INPUT: true; the input reads as it did. -/
def fnIsASCIISplitAtAnyCutAgreesWithOrFoldSpec : ChangeSpec := { name := "fnIsASCIISplitAtAnyCutAgreesWithOrFold", fn := fun _ => fun
  | [d1, d2] => { results := [.lit (.bool true)], args := [d1, d2] }
  | _ => none }
def fnIsASCIISplitAtAnyCutAgreesWithOrFoldRow : OpenClaim := { program := "qxb6617137amods", sum := "072cd373805448ac6a920426b52c15a1d54d297894168fa86adaa60b9ab7862b", func := "example.com/allotgate/allotgate/zzlaws_pkg_quickjson_b1.FnIsASCIISplitAtAnyCutAgreesWithOrFold", spec := "fnIsASCIISplitAtAnyCutAgreesWithOrFold", make := .lifted ["publicsums"], apart := false }
def FnIsASCIISplitAtAnyCutAgreesWithOrFoldSaid : Prop := fnIsASCIISplitAtAnyCutAgreesWithOrFoldRow.holds Trym.pinned (OpenSpec.ofChange fnIsASCIISplitAtAnyCutAgreesWithOrFoldSpec)

/-- ITS FALSE NEIGHBOUR: 'it returns false'. Refute it at one input. -/
def fnIsASCIISplitAtAnyCutAgreesWithOrFoldWrong : ChangeSpec := { name := "fnIsASCIISplitAtAnyCutAgreesWithOrFold", fn := fun _ => fun
  | [d1, d2] => { results := [.lit (.bool false)], args := [d1, d2] }
  | _ => none }
def FnIsASCIISplitAtAnyCutAgreesWithOrFoldWrongFalsely : Prop := fnIsASCIISplitAtAnyCutAgreesWithOrFoldRow.holds Trym.pinned (OpenSpec.ofChange fnIsASCIISplitAtAnyCutAgreesWithOrFoldWrong)

/-- 'zzlaws_pkg_quickjson_b1.FnIsASCIIInsertOneByte': WHATEVER THE INPUT: true; the input reads as it did. -/
def fnIsASCIIInsertOneByteSpec : ChangeSpec := { name := "fnIsASCIIInsertOneByte", fn := fun _ => fun
  | [d1, d2, d3] => { results := [.lit (.bool true)], args := [d1, d2, d3] }
  | _ => none }
def fnIsASCIIInsertOneByteRow : OpenClaim := { program := "qxb6617137amods", sum := "072cd373805448ac6a920426b52c15a1d54d297894168fa86adaa60b9ab7862b", func := "example.com/allotgate/allotgate/zzlaws_pkg_quickjson_b1.FnIsASCIIInsertOneByte", spec := "fnIsASCIIInsertOneByte", make := .lifted ["publicsums"], apart := false }
def FnIsASCIIInsertOneByteSaid : Prop := fnIsASCIIInsertOneByteRow.holds Trym.pinned (OpenSpec.ofChange fnIsASCIIInsertOneByteSpec)

/-- ITS FALSE NEIGHBOUR: 'it returns false'. Refute it at one input. -/
def fnIsASCIIInsertOneByteWrong : ChangeSpec := { name := "fnIsASCIIInsertOneByte", fn := fun _ => fun
  | [d1, d2, d3] => { results := [.lit (.bool false)], args := [d1, d2, d3] }
  | _ => none }
def FnIsASCIIInsertOneByteWrongFalsely : Prop := fnIsASCIIInsertOneByteRow.holds Trym.pinned (OpenSpec.ofChange fnIsASCIIInsertOneByteWrong)

end Rows
end Go.Proofs.Qxb6617137aMods
