/-
  No cell of these rows narrows 'for every input' (looked for: loops, veiled, ifaces, maps, wideKeys, modest, calm, conditions, laid).
  DERIVED. THE GIVEN ROWS OF THIS SEAT. 2 by the template 'for every input the law returns true; each argument reads behind the call as it read before'; 0 by the template 'total and deterministic' (their statements: Qxb6617191aModsTotals.lean).
  GIVEN WITH THE SEED: the statements are not yours to turn. If you find one false, say at which input.
  Laid BY PROGRAM, IN A SANDBOX (cutbox-rows.mjs): the forced cells as the released guide's own fill.sh prints them over the translation a8ca7a0673aada2f… (all of the seat's roots in one cut). By AI agents, Wed Nov 11 2026. No macro, syntax, notation, axiom, sorry.
-/
import Derived.Test.Qxb6617191aModsChecked
import GoSem.Claim
import GoSem.ClaimJoined
import GoSem.ClaimMapViews
import Derived.JoinedTies
import Derived.KernelRfl
namespace Go.Proofs.Qxb6617191aMods
/- THE CELL 'sum', in the pinned program and in every row, IS THE sha256 OF THE DUMP (.gsa) THAT Qxb6617191aModsProg.lean LOADS. Nothing in Lean hashes anything: it is a label: what it is worth is what the hold of that sum in a sandbox is worth. -/
noncomputable def Trym.pinned : Pinned := { name := "qxb6617191amods", sum := "a8ca7a0673aada2fb6e5730b6aed67624ffbda8288871785a32e08e4debd5ae7", checked := Trym.checked }
namespace Rows
def none {H : Type} : Left H := { results := [], args := [] }

/-- 'zzlaws_exact_b1.FnIsDigitsCut': WHATEVER THE INPUT: true; the input reads as it did. -/
def fnIsDigitsCutSpec : ChangeSpec := { name := "fnIsDigitsCut", fn := fun _ => fun
  | [d1, d2] => { results := [.lit (.bool true)], args := [d1, d2] }
  | _ => none }
def fnIsDigitsCutRow : OpenClaim := { program := "qxb6617191amods", sum := "a8ca7a0673aada2fb6e5730b6aed67624ffbda8288871785a32e08e4debd5ae7", func := "example.com/tuoguan/tuoguan/zzlaws_exact_b1.FnIsDigitsCut", spec := "fnIsDigitsCut", make := .lifted ["publicsums"], apart := false }
def FnIsDigitsCutSaid : Prop := fnIsDigitsCutRow.holds Trym.pinned (OpenSpec.ofChange fnIsDigitsCutSpec)

/-- ITS FALSE NEIGHBOUR: 'it returns false'. Refute it at one input. -/
def fnIsDigitsCutWrong : ChangeSpec := { name := "fnIsDigitsCut", fn := fun _ => fun
  | [d1, d2] => { results := [.lit (.bool false)], args := [d1, d2] }
  | _ => none }
def FnIsDigitsCutWrongFalsely : Prop := fnIsDigitsCutRow.holds Trym.pinned (OpenSpec.ofChange fnIsDigitsCutWrong)

/-- 'zzlaws_exact_b1.FnAddInt64FlagAndUndo': WHATEVER THE INPUT: true; the input reads as it did. -/
def fnAddInt64FlagAndUndoSpec : ChangeSpec := { name := "fnAddInt64FlagAndUndo", fn := fun _ => fun
  | [d1, d2] => { results := [.lit (.bool true)], args := [d1, d2] }
  | _ => none }
def fnAddInt64FlagAndUndoRow : OpenClaim := { program := "qxb6617191amods", sum := "a8ca7a0673aada2fb6e5730b6aed67624ffbda8288871785a32e08e4debd5ae7", func := "example.com/tuoguan/tuoguan/zzlaws_exact_b1.FnAddInt64FlagAndUndo", spec := "fnAddInt64FlagAndUndo", make := .lifted ["publicsums"], apart := false }
def FnAddInt64FlagAndUndoSaid : Prop := fnAddInt64FlagAndUndoRow.holds Trym.pinned (OpenSpec.ofChange fnAddInt64FlagAndUndoSpec)

/-- ITS FALSE NEIGHBOUR: 'it returns false'. Refute it at one input. -/
def fnAddInt64FlagAndUndoWrong : ChangeSpec := { name := "fnAddInt64FlagAndUndo", fn := fun _ => fun
  | [d1, d2] => { results := [.lit (.bool false)], args := [d1, d2] }
  | _ => none }
def FnAddInt64FlagAndUndoWrongFalsely : Prop := fnAddInt64FlagAndUndoRow.holds Trym.pinned (OpenSpec.ofChange fnAddInt64FlagAndUndoWrong)

end Rows
end Go.Proofs.Qxb6617191aMods
