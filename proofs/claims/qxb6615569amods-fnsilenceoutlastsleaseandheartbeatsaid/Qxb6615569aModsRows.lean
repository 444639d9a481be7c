/-
  No cell of these rows narrows 'for every input' (looked for: loops, veiled, ifaces, maps, wideKeys, modest, calm, conditions, laid).
  DERIVED. THE GIVEN ROWS OF THIS SEAT. 3 by the template 'for every input the law returns true; each argument reads behind the call as it read before'; 0 by the template 'total and deterministic' (their statements: Qxb6615569aModsTotals.lean).
  GIVEN WITH THE SEED: the statements are not yours to turn. If you find one false, say at which input.
  Laid BY PROGRAM, IN A SANDBOX (cutbox-rows.mjs): the forced cells as the released guide's own fill.sh prints them over the translation 4f9c6ed766601cf3… (all of the seat's roots in one cut). By AI agents, Wed Nov 11 2026. No macro, syntax, notation, axiom, sorry.
-/
import Derived.Test.Qxb6615569aModsChecked
import GoSem.Claim
import GoSem.ClaimJoined
import GoSem.ClaimMapViews
import Derived.JoinedTies
import Derived.KernelRfl
namespace Go.Proofs.Qxb6615569aMods
/- THE CELL 'sum', in the pinned program and in every row, IS THE sha256 OF THE DUMP (.gsa) THAT Qxb6615569aModsProg.lean LOADS. Nothing in Lean hashes anything: it is a label: what it is worth is what the hold of that sum in a sandbox is worth. -/
noncomputable def Trym.pinned : Pinned := { name := "qxb6615569amods", sum := "4f9c6ed766601cf3b16154d28ecece797364fc7420ff112cab20e372869bde00", checked := Trym.checked }
namespace Rows
def none {H : Type} : Left H := { results := [], args := [] }

/-- 'zzlaws_root_b1.FnSilenceOutlastsLeaseAndHeartbeat': WHATEVER THE INPUT: true; the input reads as it did. -/
def fnSilenceOutlastsLeaseAndHeartbeatSpec : ChangeSpec := { name := "fnSilenceOutlastsLeaseAndHeartbeat", fn := fun _ => fun
  | [d1, d2, d3, d4] => { results := [.lit (.bool true)], args := [d1, d2, d3, d4] }
  | _ => none }
def fnSilenceOutlastsLeaseAndHeartbeatRow : OpenClaim := { program := "qxb6615569amods", sum := "4f9c6ed766601cf3b16154d28ecece797364fc7420ff112cab20e372869bde00", func := "example.com/geodesic/geodesic/zzlaws_root_b1.FnSilenceOutlastsLeaseAndHeartbeat", spec := "fnSilenceOutlastsLeaseAndHeartbeat", make := .lifted ["publicsums"], apart := false }
def FnSilenceOutlastsLeaseAndHeartbeatSaid : Prop := fnSilenceOutlastsLeaseAndHeartbeatRow.holds Trym.pinned (OpenSpec.ofChange fnSilenceOutlastsLeaseAndHeartbeatSpec)

/-- ITS FALSE NEIGHBOUR: 'it returns false'. Refute it at one input. -/
def fnSilenceOutlastsLeaseAndHeartbeatWrong : ChangeSpec := { name := "fnSilenceOutlastsLeaseAndHeartbeat", fn := fun _ => fun
  | [d1, d2, d3, d4] => { results := [.lit (.bool false)], args := [d1, d2, d3, d4] }
  | _ => none }
def FnSilenceOutlastsLeaseAndHeartbeatWrongFalsely : Prop := fnSilenceOutlastsLeaseAndHeartbeatRow.holds Trym.pinned (OpenSpec.ofChange fnSilenceOutlastsLeaseAndHeartbeatWrong)

/-- 'zzlaws_root_b1.FnMergeMatchesModel': WHATEVER THE INPUT: true; the input reads as it did. -/
def fnMergeMatchesModelSpec : ChangeSpec := { name := "fnMergeMatchesModel", fn := fun _ => fun
  | [d1, d2, d3, d4, d5] => { results := [.lit (.bool true)], args := [d1, d2, d3, d4, d5] }
  | _ => none }
def fnMergeMatchesModelRow : OpenClaim := { program := "qxb6615569amods", sum := "4f9c6ed766601cf3b16154d28ecece797364fc7420ff112cab20e372869bde00", func := "example.com/geodesic/geodesic/zzlaws_root_b1.FnMergeMatchesModel", spec := "fnMergeMatchesModel", make := .lifted ["publicsums"], apart := false }
def FnMergeMatchesModelSaid : Prop := fnMergeMatchesModelRow.holds Trym.pinned (OpenSpec.ofChange fnMergeMatchesModelSpec)

/-- ITS FALSE NEIGHBOUR: 'it returns false'. Refute it at one input. -/
def fnMergeMatchesModelWrong : ChangeSpec := { name := "fnMergeMatchesModel", fn := fun _ => fun
  | [d1, d2, d3, d4, d5] => { results := [.lit (.bool false)], args := [d1, d2, d3, d4, d5] }
  | _ => none }
def FnMergeMatchesModelWrongFalsely : Prop := fnMergeMatchesModelRow.holds Trym.pinned (OpenSpec.ofChange fnMergeMatchesModelWrong)

/-- 'zzlaws_root_b1.FnMergeOrderFree': WHATEVER THE INPUT: true; the input reads as it did. -/
def fnMergeOrderFreeSpec : ChangeSpec := { name := "fnMergeOrderFree", fn := fun _ => fun
  | [d1, d2, d3, d4, d5, d6, d7, d8, d9] => { results := [.lit (.bool true)], args := [d1, d2, d3, d4, d5, d6, d7, d8, d9] }
  | _ => none }
def fnMergeOrderFreeRow : OpenClaim := { program := "qxb6615569amods", sum := "4f9c6ed766601cf3b16154d28ecece797364fc7420ff112cab20e372869bde00", func := "example.com/geodesic/geodesic/zzlaws_root_b1.FnMergeOrderFree", spec := "fnMergeOrderFree", make := .lifted ["publicsums"], apart := false }
def FnMergeOrderFreeSaid : Prop := fnMergeOrderFreeRow.holds Trym.pinned (OpenSpec.ofChange fnMergeOrderFreeSpec)

/-- ITS FALSE NEIGHBOUR: 'it returns false'. Refute it at one input. -/
def fnMergeOrderFreeWrong : ChangeSpec := { name := "fnMergeOrderFree", fn := fun _ => fun
  | [d1, d2, d3, d4, d5, d6, d7, d8, d9] => { results := [.lit (.bool false)], args := [d1, d2, d3, d4, d5, d6, d7, d8, d9] }
  | _ => none }
def FnMergeOrderFreeWrongFalsely : Prop := fnMergeOrderFreeRow.holds Trym.pinned (OpenSpec.ofChange fnMergeOrderFreeWrong)

end Rows
end Go.Proofs.Qxb6615569aMods
