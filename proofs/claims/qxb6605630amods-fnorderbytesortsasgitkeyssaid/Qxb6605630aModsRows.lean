/-
  No cell of these rows narrows 'for every input' (looked for: loops, veiled, ifaces, maps, wideKeys, modest, calm, conditions, laid).
  DERIVED. THE GIVEN ROWS OF THIS SEAT. 2 by the template 'for every input the law returns true; each argument reads behind the call as it read before'; 0 by the template 'total and deterministic' (their statements: Qxb6605630aModsTotals.lean).
  GIVEN WITH THE SEED: the statements are not yours to turn. If you find one false, say at which input.
  Laid BY PROGRAM, IN A SANDBOX (cutbox-rows.mjs): the forced cells as the released guide's own fill.sh prints them over the translation f50a261da98ffddf… (all of the seat's roots in one cut). By AI agents, Wed Nov 11 2026. No macro, syntax, notation, axiom, sorry.
-/
import Derived.Test.Qxb6605630aModsChecked
import GoSem.Claim
import GoSem.ClaimJoined
import GoSem.ClaimMapViews
import Derived.JoinedTies
import Derived.KernelRfl
namespace Go.Proofs.Qxb6605630aMods
/- THE CELL 'sum', in the pinned program and in every row, IS THE sha256 OF THE DUMP (.gsa) THAT Qxb6605630aModsProg.lean LOADS. Nothing in Lean hashes anything: it is a label: what it is worth is what the hold of that sum in a sandbox is worth. -/
noncomputable def Trym.pinned : Pinned := { name := "qxb6605630amods", sum := "f50a261da98ffddfc827710c072c959b82673bd06a332eb90a147edefd530e88", checked := Trym.checked }
namespace Rows
def none {H : Type} : Left H := { results := [], args := [] }

/-- 'zzlaws_root_b1.FnOrderByteByKind': WHATEVER THE INPUT: true; the input reads as it did. -/
def fnOrderByteByKindSpec : ChangeSpec := { name := "fnOrderByteByKind", fn := fun _ => fun
  | [d1, d2, d3] => { results := [.lit (.bool true)], args := [d1, d2, d3] }
  | _ => none }
def fnOrderByteByKindRow : OpenClaim := { program := "qxb6605630amods", sum := "f50a261da98ffddfc827710c072c959b82673bd06a332eb90a147edefd530e88", func := "example.com/looseleaf/looseleaf/zzlaws_root_b1.FnOrderByteByKind", spec := "fnOrderByteByKind", make := .lifted ["publicsums"], apart := false }
def FnOrderByteByKindSaid : Prop := fnOrderByteByKindRow.holds Trym.pinned (OpenSpec.ofChange fnOrderByteByKindSpec)

/-- ITS FALSE NEIGHBOUR: 'it returns false'. Refute it at one input. -/
def fnOrderByteByKindWrong : ChangeSpec := { name := "fnOrderByteByKind", fn := fun _ => fun
  | [d1, d2, d3] => { results := [.lit (.bool false)], args := [d1, d2, d3] }
  | _ => none }
def FnOrderByteByKindWrongFalsely : Prop := fnOrderByteByKindRow.holds Trym.pinned (OpenSpec.ofChange fnOrderByteByKindWrong)

/-- 'zzlaws_root_b1.FnOrderByteSortsAsGitKeys': WHATEVER THE INPUT: true; the input reads as it did. -/
def fnOrderByteSortsAsGitKeysSpec : ChangeSpec := { name := "fnOrderByteSortsAsGitKeys", fn := fun _ => fun
  | [d1, d2, d3, d4] => { results := [.lit (.bool true)], args := [d1, d2, d3, d4] }
  | _ => none }
def fnOrderByteSortsAsGitKeysRow : OpenClaim := { program := "qxb6605630amods", sum := "f50a261da98ffddfc827710c072c959b82673bd06a332eb90a147edefd530e88", func := "example.com/looseleaf/looseleaf/zzlaws_root_b1.FnOrderByteSortsAsGitKeys", spec := "fnOrderByteSortsAsGitKeys", make := .lifted ["publicsums"], apart := false }
def FnOrderByteSortsAsGitKeysSaid : Prop := fnOrderByteSortsAsGitKeysRow.holds Trym.pinned (OpenSpec.ofChange fnOrderByteSortsAsGitKeysSpec)

/-- ITS FALSE NEIGHBOUR: 'it returns false'. Refute it at one input. -/
def fnOrderByteSortsAsGitKeysWrong : ChangeSpec := { name := "fnOrderByteSortsAsGitKeys", fn := fun _ => fun
  | [d1, d2, d3, d4] => { results := [.lit (.bool false)], args := [d1, d2, d3, d4] }
  | _ => none }
def FnOrderByteSortsAsGitKeysWrongFalsely : Prop := fnOrderByteSortsAsGitKeysRow.holds Trym.pinned (OpenSpec.ofChange fnOrderByteSortsAsGitKeysWrong)

end Rows
end Go.Proofs.Qxb6605630aMods
