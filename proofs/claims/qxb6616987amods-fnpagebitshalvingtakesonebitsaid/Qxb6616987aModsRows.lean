/-
  No cell of these rows narrows 'for every input' (looked for: loops, veiled, ifaces, maps, wideKeys, modest, calm, conditions, laid).
  DERIVED. THE GIVEN ROWS OF THIS SEAT. 2 by the template 'for every input the law returns true; each argument reads behind the call as it read before'; 0 by the template 'total and deterministic' (their statements: Qxb6616987aModsTotals.lean).
  GIVEN WITH THE SEED: the statements are not yours to turn. If you find one false, say at which input.
  Laid BY PROGRAM, IN A SANDBOX (cutbox-rows.mjs): the forced cells as the released guide's own fill.sh prints them over the translation 95f04574aaacd9c3… (all of the seat's roots in one cut). By AI agents, Wed Nov 11 2026. No macro, syntax, notation, axiom, sorry.
-/
import Derived.Test.Qxb6616987aModsChecked
import GoSem.Claim
import GoSem.ClaimJoined
import GoSem.ClaimMapViews
import Derived.JoinedTies
import Derived.KernelRfl
namespace Go.Proofs.Qxb6616987aMods
/- THE CELL 'sum', in the pinned program and in every row, IS THE sha256 OF THE DUMP (.gsa) THAT Qxb6616987aModsProg.lean LOADS. Nothing in Lean hashes anything: it is a label: what it is worth is what the hold of that sum in a sandbox is worth. -/
noncomputable def Trym.pinned : Pinned := { name := "qxb6616987amods", sum := "95f04574aaacd9c33e1ba4c14c80af89c0bb6c3f5f380f6358cd6a7884047fa7", checked := Trym.checked }
namespace Rows
def none {H : Type} : Left H := { results := [], args := [] }

/-- 'zzlaws_root_b1.FnPageBitsHalvingTakesOneBit': WHATEVER THE INPUT: true; the input reads as it did. -/
def fnPageBitsHalvingTakesOneBitSpec : ChangeSpec := { name := "fnPageBitsHalvingTakesOneBit", fn := fun _ => fun
  | [d1, d2] => { results := [.lit (.bool true)], args := [d1, d2] }
  | _ => none }
def fnPageBitsHalvingTakesOneBitRow : OpenClaim := { program := "qxb6616987amods", sum := "95f04574aaacd9c33e1ba4c14c80af89c0bb6c3f5f380f6358cd6a7884047fa7", func := "example.com/ringwise/ringwise/zzlaws_root_b1.FnPageBitsHalvingTakesOneBit", spec := "fnPageBitsHalvingTakesOneBit", make := .lifted ["publicsums"], apart := false }
def FnPageBitsHalvingTakesOneBitSaid : Prop := fnPageBitsHalvingTakesOneBitRow.holds Trym.pinned (OpenSpec.ofChange fnPageBitsHalvingTakesOneBitSpec)

/-- ITS FALSE NEIGHBOUR: 'it returns false'. Refute it at one input. -/
def fnPageBitsHalvingTakesOneBitWrong : ChangeSpec := { name := "fnPageBitsHalvingTakesOneBit", fn := fun _ => fun
  | [d1, d2] => { results := [.lit (.bool false)], args := [d1, d2] }
  | _ => none }
def FnPageBitsHalvingTakesOneBitWrongFalsely : Prop := fnPageBitsHalvingTakesOneBitRow.holds Trym.pinned (OpenSpec.ofChange fnPageBitsHalvingTakesOneBitWrong)

/-- 'zzlaws_root_b1.FnPageBitsPositionBitsOnlyCaps': WHATEVER THE INPUT: true; the input reads as it did. -/
def fnPageBitsPositionBitsOnlyCapsSpec : ChangeSpec := { name := "fnPageBitsPositionBitsOnlyCaps", fn := fun _ => fun
  | [d1, d2] => { results := [.lit (.bool true)], args := [d1, d2] }
  | _ => none }
def fnPageBitsPositionBitsOnlyCapsRow : OpenClaim := { program := "qxb6616987amods", sum := "95f04574aaacd9c33e1ba4c14c80af89c0bb6c3f5f380f6358cd6a7884047fa7", func := "example.com/ringwise/ringwise/zzlaws_root_b1.FnPageBitsPositionBitsOnlyCaps", spec := "fnPageBitsPositionBitsOnlyCaps", make := .lifted ["publicsums"], apart := false }
def FnPageBitsPositionBitsOnlyCapsSaid : Prop := fnPageBitsPositionBitsOnlyCapsRow.holds Trym.pinned (OpenSpec.ofChange fnPageBitsPositionBitsOnlyCapsSpec)

/-- ITS FALSE NEIGHBOUR: 'it returns false'. Refute it at one input. -/
def fnPageBitsPositionBitsOnlyCapsWrong : ChangeSpec := { name := "fnPageBitsPositionBitsOnlyCaps", fn := fun _ => fun
  | [d1, d2] => { results := [.lit (.bool false)], args := [d1, d2] }
  | _ => none }
def FnPageBitsPositionBitsOnlyCapsWrongFalsely : Prop := fnPageBitsPositionBitsOnlyCapsRow.holds Trym.pinned (OpenSpec.ofChange fnPageBitsPositionBitsOnlyCapsWrong)

end Rows
end Go.Proofs.Qxb6616987aMods
