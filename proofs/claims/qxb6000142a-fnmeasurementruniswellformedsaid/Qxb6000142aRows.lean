/-
  No cell of these rows narrows 'for every input' (looked for: loops, veiled, ifaces, maps, wideKeys, modest, calm, conditions, laid).
  DERIVED. THE GIVEN ROWS OF THIS SEAT. 1 by the template 'for every input the law returns true; each argument reads behind the call as it read before'; 0 by the template 'total and deterministic' (their statements: Qxb6000142aTotals.lean).
  GIVEN WITH THE SEED: the statements are not yours to turn. If you find one false, say at which input.
  Laid BY PROGRAM, IN A SANDBOX (cutbox-rows.mjs): the forced cells as the released guide's own fill.sh prints them over the translation fe97861e2cabb535… (all of the seat's roots in one cut). By AI agents, Wed Nov 11 2026. No macro, syntax, notation, axiom, sorry.
-/
import Derived.Test.Qxb6000142aChecked
import GoSem.Claim
import GoSem.ClaimJoined
import GoSem.ClaimMapViews
import Derived.JoinedTies
import Derived.KernelRfl
namespace Go.Proofs.Qxb6000142a
/- THE CELL 'sum', in the pinned program and in every row, IS THE sha256 OF THE DUMP (.gsa) THAT Qxb6000142aProg.lean LOADS. Nothing in Lean hashes anything: it is a label: what it is worth is what the hold of that sum in a sandbox is worth. -/
noncomputable def Try.pinned : Pinned := { name := "qxb6000142a", sum := "fe97861e2cabb535638670abe06157590a07418b9d9d03e90265350d025785a2", checked := Try.checked }
namespace Rows
def none {H : Type} : Left H := { results := [], args := [] }

/-- 'zzlaws_internal_load_b1.FnMeasurementRunIsWellFormed': WHATEVER THE INPUT: true; the input reads as it did. -/
def fnMeasurementRunIsWellFormedSpec : ChangeSpec := { name := "fnMeasurementRunIsWellFormed", fn := fun _ => fun
  | [d] => { results := [.lit (.bool true)], args := [d] }
  | _ => none }
def fnMeasurementRunIsWellFormedRow : OpenClaim := { program := "qxb6000142a", sum := "fe97861e2cabb535638670abe06157590a07418b9d9d03e90265350d025785a2", func := "example.com/tidewatch/tidewatch/zzlaws_internal_load_b1.FnMeasurementRunIsWellFormed", spec := "fnMeasurementRunIsWellFormed", apart := false }
def FnMeasurementRunIsWellFormedSaid : Prop := fnMeasurementRunIsWellFormedRow.holds Try.pinned (OpenSpec.ofChange fnMeasurementRunIsWellFormedSpec)

/-- ITS FALSE NEIGHBOUR: 'it returns false'. Refute it at one input. -/
def fnMeasurementRunIsWellFormedWrong : ChangeSpec := { name := "fnMeasurementRunIsWellFormed", fn := fun _ => fun
  | [d] => { results := [.lit (.bool false)], args := [d] }
  | _ => none }
def FnMeasurementRunIsWellFormedWrongFalsely : Prop := fnMeasurementRunIsWellFormedRow.holds Try.pinned (OpenSpec.ofChange fnMeasurementRunIsWellFormedWrong)

end Rows
end Go.Proofs.Qxb6000142a
