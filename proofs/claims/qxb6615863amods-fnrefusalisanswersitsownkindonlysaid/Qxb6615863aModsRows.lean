/-
  No cell of these rows narrows 'for every input' (looked for: loops, veiled, ifaces, maps, wideKeys, modest, calm, conditions, laid).
  DERIVED. THE GIVEN ROWS OF THIS SEAT. 1 by the template 'for every input the law returns true; each argument reads behind the call as it read before'; 0 by the template 'total and deterministic' (their statements: Qxb6615863aModsTotals.lean).
  GIVEN WITH THE SEED: the statements are not yours to turn. If you find one false, say at which input.
  Laid BY PROGRAM, IN A SANDBOX (cutbox-rows.mjs): the forced cells as the released guide's own fill.sh prints them over the translation a0e9283bfe4bfded… (all of the seat's roots in one cut). By AI agents, Wed Nov 11 2026. No macro, syntax, notation, axiom, sorry.
-/
import Derived.Test.Qxb6615863aModsChecked
import GoSem.Claim
import GoSem.ClaimJoined
import GoSem.ClaimMapViews
import Derived.JoinedTies
import Derived.KernelRfl
namespace Go.Proofs.Qxb6615863aMods
/- THE CELL 'sum', in the pinned program and in every row, IS THE sha256 OF THE DUMP (.gsa) THAT Qxb6615863aModsProg.lean LOADS. Nothing in Lean hashes anything: it is a label: what it is worth is what the hold of that sum in a sandbox is worth. -/
noncomputable def Trym.pinned : Pinned := { name := "qxb6615863amods", sum := "a0e9283bfe4bfded51c52e102544372643f96de1ad1ac36dc7f83ab83fa24f96", checked := Trym.checked }
namespace Rows
def none {H : Type} : Left H := { results := [], args := [] }

/-- 'zzlaws_internal_store_b1.FnRefusalIsAnswersItsOwnKindOnly': WHATEVER THE INPUT: true; the input reads as it did. -/
def fnRefusalIsAnswersItsOwnKindOnlySpec : ChangeSpec := { name := "fnRefusalIsAnswersItsOwnKindOnly", fn := fun _ => fun
  | [d1, d2, d3, d4] => { results := [.lit (.bool true)], args := [d1, d2, d3, d4] }
  | _ => none }
def fnRefusalIsAnswersItsOwnKindOnlyRow : OpenClaim := { program := "qxb6615863amods", sum := "a0e9283bfe4bfded51c52e102544372643f96de1ad1ac36dc7f83ab83fa24f96", func := "example.com/rolecall/rolecall/zzlaws_internal_store_b1.FnRefusalIsAnswersItsOwnKindOnly", spec := "fnRefusalIsAnswersItsOwnKindOnly", make := .lifted ["publicsums"], apart := false }
def FnRefusalIsAnswersItsOwnKindOnlySaid : Prop := fnRefusalIsAnswersItsOwnKindOnlyRow.holds Trym.pinned (OpenSpec.ofChange fnRefusalIsAnswersItsOwnKindOnlySpec)

/-- ITS FALSE NEIGHBOUR: 'it returns false'. Refute it at one input. -/
def fnRefusalIsAnswersItsOwnKindOnlyWrong : ChangeSpec := { name := "fnRefusalIsAnswersItsOwnKindOnly", fn := fun _ => fun
  | [d1, d2, d3, d4] => { results := [.lit (.bool false)], args := [d1, d2, d3, d4] }
  | _ => none }
def FnRefusalIsAnswersItsOwnKindOnlyWrongFalsely : Prop := fnRefusalIsAnswersItsOwnKindOnlyRow.holds Trym.pinned (OpenSpec.ofChange fnRefusalIsAnswersItsOwnKindOnlyWrong)

end Rows
end Go.Proofs.Qxb6615863aMods
