/-
  No cell of these rows narrows 'for every input' (looked for: loops, veiled, ifaces, maps, wideKeys, modest, calm, conditions, laid).
  DERIVED. THE GIVEN ROWS OF THIS SEAT. 4 by the template 'for every input the law returns true; each argument reads behind the call as it read before'; 0 by the template 'total and deterministic' (their statements: Qxb6605620aModsTotals.lean).
  GIVEN WITH THE SEED: the statements are not yours to turn. If you find one false, say at which input.
  Laid BY PROGRAM, IN A SANDBOX (cutbox-rows.mjs): the forced cells as the released guide's own fill.sh prints them over the translation d6eea6da49b48017… (all of the seat's roots in one cut). By AI agents, Wed Nov 11 2026. No macro, syntax, notation, axiom, sorry.
-/
import Derived.Test.Qxb6605620aModsChecked
import GoSem.Claim
import GoSem.ClaimJoined
import GoSem.ClaimMapViews
import Derived.JoinedTies
import Derived.KernelRfl
namespace Go.Proofs.Qxb6605620aMods
/- THE CELL 'sum', in the pinned program and in every row, IS THE sha256 OF THE DUMP (.gsa) THAT Qxb6605620aModsProg.lean LOADS. Nothing in Lean hashes anything: it is a label: what it is worth is what the hold of that sum in a sandbox is worth. -/
noncomputable def Trym.pinned : Pinned := { name := "qxb6605620amods", sum := "d6eea6da49b48017f4a98d1a62cc3106ca481629efd78802f58de6c1ddeea9ea", checked := Trym.checked }
namespace Rows
def none {H : Type} : Left H := { results := [], args := [] }

/-- 'zzlaws_internal_diameter_b1.FnPutUint24WritesLow24BitsBigEndian': WHATEVER THE INPUT: true; the input reads as it did. -/
def fnPutUint24WritesLow24BitsBigEndianSpec : ChangeSpec := { name := "fnPutUint24WritesLow24BitsBigEndian", fn := fun _ => fun
  | [d1, d2] => { results := [.lit (.bool true)], args := [d1, d2] }
  | _ => none }
def fnPutUint24WritesLow24BitsBigEndianRow : OpenClaim := { program := "qxb6605620amods", sum := "d6eea6da49b48017f4a98d1a62cc3106ca481629efd78802f58de6c1ddeea9ea", func := "example.com/quotawire/quotawire/zzlaws_internal_diameter_b1.FnPutUint24WritesLow24BitsBigEndian", spec := "fnPutUint24WritesLow24BitsBigEndian", make := .lifted ["publicsums"], apart := false }
def FnPutUint24WritesLow24BitsBigEndianSaid : Prop := fnPutUint24WritesLow24BitsBigEndianRow.holds Trym.pinned (OpenSpec.ofChange fnPutUint24WritesLow24BitsBigEndianSpec)

/-- ITS FALSE NEIGHBOUR: 'it returns false'. Refute it at one input. -/
def fnPutUint24WritesLow24BitsBigEndianWrong : ChangeSpec := { name := "fnPutUint24WritesLow24BitsBigEndian", fn := fun _ => fun
  | [d1, d2] => { results := [.lit (.bool false)], args := [d1, d2] }
  | _ => none }
def FnPutUint24WritesLow24BitsBigEndianWrongFalsely : Prop := fnPutUint24WritesLow24BitsBigEndianRow.holds Trym.pinned (OpenSpec.ofChange fnPutUint24WritesLow24BitsBigEndianWrong)

/-- 'zzlaws_internal_diameter_b1.FnMessageAnswerIsFixedPointAndIgnoresAVPs': WHATEVER THE INPUT: true; the input reads as it did. -/
def fnMessageAnswerIsFixedPointAndIgnoresAVPsSpec : ChangeSpec := { name := "fnMessageAnswerIsFixedPointAndIgnoresAVPs", fn := fun _ => fun
  | [d1, d2, d3, d4, d5, d6, d7, d8, d9] => { results := [.lit (.bool true)], args := [d1, d2, d3, d4, d5, d6, d7, d8, d9] }
  | _ => none }
def fnMessageAnswerIsFixedPointAndIgnoresAVPsRow : OpenClaim := { program := "qxb6605620amods", sum := "d6eea6da49b48017f4a98d1a62cc3106ca481629efd78802f58de6c1ddeea9ea", func := "example.com/quotawire/quotawire/zzlaws_internal_diameter_b1.FnMessageAnswerIsFixedPointAndIgnoresAVPs", spec := "fnMessageAnswerIsFixedPointAndIgnoresAVPs", make := .lifted ["publicsums"], apart := false }
def FnMessageAnswerIsFixedPointAndIgnoresAVPsSaid : Prop := fnMessageAnswerIsFixedPointAndIgnoresAVPsRow.holds Trym.pinned (OpenSpec.ofChange fnMessageAnswerIsFixedPointAndIgnoresAVPsSpec)

/-- ITS FALSE NEIGHBOUR: 'it returns false'. Refute it at one input. -/
def fnMessageAnswerIsFixedPointAndIgnoresAVPsWrong : ChangeSpec := { name := "fnMessageAnswerIsFixedPointAndIgnoresAVPs", fn := fun _ => fun
  | [d1, d2, d3, d4, d5, d6, d7, d8, d9] => { results := [.lit (.bool false)], args := [d1, d2, d3, d4, d5, d6, d7, d8, d9] }
  | _ => none }
def FnMessageAnswerIsFixedPointAndIgnoresAVPsWrongFalsely : Prop := fnMessageAnswerIsFixedPointAndIgnoresAVPsRow.holds Trym.pinned (OpenSpec.ofChange fnMessageAnswerIsFixedPointAndIgnoresAVPsWrong)

/-- 'zzlaws_internal_diameter_b1.FnPutUint24AgreesWithAVPLengthField': WHATEVER THE INPUT: true; the input reads as it did. -/
def fnPutUint24AgreesWithAVPLengthFieldSpec : ChangeSpec := { name := "fnPutUint24AgreesWithAVPLengthField", fn := fun _ => fun
  | [d1, d2, d3, d4] => { results := [.lit (.bool true)], args := [d1, d2, d3, d4] }
  | _ => none }
def fnPutUint24AgreesWithAVPLengthFieldRow : OpenClaim := { program := "qxb6605620amods", sum := "d6eea6da49b48017f4a98d1a62cc3106ca481629efd78802f58de6c1ddeea9ea", func := "example.com/quotawire/quotawire/zzlaws_internal_diameter_b1.FnPutUint24AgreesWithAVPLengthField", spec := "fnPutUint24AgreesWithAVPLengthField", named := ["encoding/binary.BigEndian"], make := .lifted ["publicsums"], apart := false }
def FnPutUint24AgreesWithAVPLengthFieldSaid : Prop := fnPutUint24AgreesWithAVPLengthFieldRow.holds Trym.pinned (OpenSpec.ofChange fnPutUint24AgreesWithAVPLengthFieldSpec)

/-- ITS FALSE NEIGHBOUR: 'it returns false'. Refute it at one input. -/
def fnPutUint24AgreesWithAVPLengthFieldWrong : ChangeSpec := { name := "fnPutUint24AgreesWithAVPLengthField", fn := fun _ => fun
  | [d1, d2, d3, d4] => { results := [.lit (.bool false)], args := [d1, d2, d3, d4] }
  | _ => none }
def FnPutUint24AgreesWithAVPLengthFieldWrongFalsely : Prop := fnPutUint24AgreesWithAVPLengthFieldRow.holds Trym.pinned (OpenSpec.ofChange fnPutUint24AgreesWithAVPLengthFieldWrong)

/-- 'zzlaws_internal_diameter_b1.FnIdentityAnswerIsExactAnswer': WHATEVER THE INPUT: true; the input reads as it did. -/
def fnIdentityAnswerIsExactAnswerSpec : ChangeSpec := { name := "fnIdentityAnswerIsExactAnswer", fn := fun _ => fun
  | [d1, d2, d3, d4, d5, d6, d7, d8, d9, d10, d11, d12] => { results := [.lit (.bool true)], args := [d1, d2, d3, d4, d5, d6, d7, d8, d9, d10, d11, d12] }
  | _ => none }
def fnIdentityAnswerIsExactAnswerRow : OpenClaim := { program := "qxb6605620amods", sum := "d6eea6da49b48017f4a98d1a62cc3106ca481629efd78802f58de6c1ddeea9ea", func := "example.com/quotawire/quotawire/zzlaws_internal_diameter_b1.FnIdentityAnswerIsExactAnswer", spec := "fnIdentityAnswerIsExactAnswer", named := ["encoding/binary.BigEndian"], make := .lifted ["publicsums"], apart := false }
def FnIdentityAnswerIsExactAnswerSaid : Prop := fnIdentityAnswerIsExactAnswerRow.holds Trym.pinned (OpenSpec.ofChange fnIdentityAnswerIsExactAnswerSpec)

/-- ITS FALSE NEIGHBOUR: 'it returns false'. Refute it at one input. -/
def fnIdentityAnswerIsExactAnswerWrong : ChangeSpec := { name := "fnIdentityAnswerIsExactAnswer", fn := fun _ => fun
  | [d1, d2, d3, d4, d5, d6, d7, d8, d9, d10, d11, d12] => { results := [.lit (.bool false)], args := [d1, d2, d3, d4, d5, d6, d7, d8, d9, d10, d11, d12] }
  | _ => none }
def FnIdentityAnswerIsExactAnswerWrongFalsely : Prop := fnIdentityAnswerIsExactAnswerRow.holds Trym.pinned (OpenSpec.ofChange fnIdentityAnswerIsExactAnswerWrong)

end Rows
end Go.Proofs.Qxb6605620aMods
