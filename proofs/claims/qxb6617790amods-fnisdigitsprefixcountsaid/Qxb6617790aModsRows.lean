/-
  No cell of these rows narrows 'for every input' (looked for: loops, veiled, ifaces, maps, wideKeys, modest, calm, conditions, laid).
  DERIVED. THE GIVEN ROWS OF THIS SEAT. 2 by the template 'for every input the law returns true; each argument reads behind the call as it read before'; 0 by the template 'total and deterministic' (their statements: Qxb6617790aModsTotals.lean).
  GIVEN WITH THE SEED: the statements are not yours to turn. If you find one false, say at which input.
  Laid BY PROGRAM, IN A SANDBOX (cutbox-rows.mjs): the forced cells as the released guide's own fill.sh prints them over the translation be7089deb260e1e2… (all of the seat's roots in one cut). By AI agents, Wed Nov 11 2026. No macro, syntax, notation, axiom, sorry.
-/
import Derived.Test.Qxb6617790aModsChecked
import GoSem.Claim
import GoSem.ClaimJoined
import GoSem.ClaimMapViews
import Derived.JoinedTies
import Derived.KernelRfl
namespace Go.Proofs.Qxb6617790aMods
/- THE CELL 'sum', in the pinned program and in every row, IS THE sha256 OF THE DUMP (.gsa) THAT Qxb6617790aModsProg.lean LOADS. Nothing in Lean hashes anything: it is a label: what it is worth is what the hold of that sum in a sandbox is worth. -/
noncomputable def Trym.pinned : Pinned := { name := "qxb6617790amods", sum := "be7089deb260e1e2cc4221063003c4cb68a4692582dbd2b75c2718fe83911dd9", checked := Trym.checked }
namespace Rows
def none {H : Type} : Left H := { results := [], args := [] }

/-- 'zzlaws_pkg_money_b1.FnIsDigitsInsertByte': WHATEVER THE INPUT: true; the input reads as it did. -/
def fnIsDigitsInsertByteSpec : ChangeSpec := { name := "fnIsDigitsInsertByte", fn := fun _ => fun
  | [d1, d2, d3] => { results := [.lit (.bool true)], args := [d1, d2, d3] }
  | _ => none }
def fnIsDigitsInsertByteRow : OpenClaim := { program := "qxb6617790amods", sum := "be7089deb260e1e2cc4221063003c4cb68a4692582dbd2b75c2718fe83911dd9", func := "example.com/cents-per-token/cents-per-token/zzlaws_pkg_money_b1.FnIsDigitsInsertByte", spec := "fnIsDigitsInsertByte", make := .lifted ["publicsums"], apart := false }
def FnIsDigitsInsertByteSaid : Prop := fnIsDigitsInsertByteRow.holds Trym.pinned (OpenSpec.ofChange fnIsDigitsInsertByteSpec)

/-- ITS FALSE NEIGHBOUR: 'it returns false'. Refute it at one input. -/
def fnIsDigitsInsertByteWrong : ChangeSpec := { name := "fnIsDigitsInsertByte", fn := fun _ => fun
  | [d1, d2, d3] => { results := [.lit (.bool false)], args := [d1, d2, d3] }
  | _ => none }
def FnIsDigitsInsertByteWrongFalsely : Prop := fnIsDigitsInsertByteRow.holds Trym.pinned (OpenSpec.ofChange fnIsDigitsInsertByteWrong)

/-- 'zzlaws_pkg_money_b1.FnIsDigitsPrefixCount': WHATEVER THE INPUT: true; the input reads as it did. -/
def fnIsDigitsPrefixCountSpec : ChangeSpec := { name := "fnIsDigitsPrefixCount", fn := fun _ => fun
  | [d] => { results := [.lit (.bool true)], args := [d] }
  | _ => none }
def fnIsDigitsPrefixCountRow : OpenClaim := { program := "qxb6617790amods", sum := "be7089deb260e1e2cc4221063003c4cb68a4692582dbd2b75c2718fe83911dd9", func := "example.com/cents-per-token/cents-per-token/zzlaws_pkg_money_b1.FnIsDigitsPrefixCount", spec := "fnIsDigitsPrefixCount", make := .lifted ["publicsums"], apart := false }
def FnIsDigitsPrefixCountSaid : Prop := fnIsDigitsPrefixCountRow.holds Trym.pinned (OpenSpec.ofChange fnIsDigitsPrefixCountSpec)

/-- ITS FALSE NEIGHBOUR: 'it returns false'. Refute it at one input. -/
def fnIsDigitsPrefixCountWrong : ChangeSpec := { name := "fnIsDigitsPrefixCount", fn := fun _ => fun
  | [d] => { results := [.lit (.bool false)], args := [d] }
  | _ => none }
def FnIsDigitsPrefixCountWrongFalsely : Prop := fnIsDigitsPrefixCountRow.holds Trym.pinned (OpenSpec.ofChange fnIsDigitsPrefixCountWrong)

end Rows
end Go.Proofs.Qxb6617790aMods
