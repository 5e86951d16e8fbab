/-
  No cell of these rows narrows 'for every input' (looked for: loops, veiled, ifaces, maps, wideKeys, modest, calm, conditions, laid).
  DERIVED. THE GIVEN ROWS OF THIS SEAT. 2 by the template 'for every input the law returns true; each argument reads behind the call as it read before'; 0 by the template 'total and deterministic' (their statements: Qxb6623267aTotals.lean).
  GIVEN WITH THE SEED: the statements are not yours to turn. If you find one false, say at which input.
  Laid BY PROGRAM, IN A SANDBOX (cutbox-rows.mjs): the forced cells as the released guide's own fill.sh prints them over the translation 8291f012ea174950… (all of the seat's roots in one cut). By AI agents, Wed Nov 11 2026. No macro, syntax, notation, axiom, sorry.
-/
import Derived.Test.Qxb6623267aChecked
import GoSem.Claim
import GoSem.ClaimJoined
import GoSem.ClaimMapViews
import Derived.JoinedTies
import Derived.KernelRfl
namespace Go.Proofs.Qxb6623267a
/- THE CELL 'sum', in the pinned program and in every row, IS THE sha256 OF THE DUMP (.gsa) THAT Qxb6623267aProg.lean LOADS. Nothing in Lean hashes anything: it is a label: what it is worth is what the hold of that sum in a sandbox is worth. -/
noncomputable def Try.pinned : Pinned := { name := "qxb6623267a", sum := "8291f012ea174950f245fcffe17062af6e7e22d932e3de19d4504c5b351c6562", checked := Try.checked }
namespace Rows
def none {H : Type} : Left H := { results := [], args := [] }

/-- 'zzlaws_internal_stamp_b1.FnUnixNanoIsNearestInNearestEra': WHATEVER THE INPUT: true; the input reads as it did. -/
def fnUnixNanoIsNearestInNearestEraSpec : ChangeSpec := { name := "fnUnixNanoIsNearestInNearestEra", fn := fun _ => fun
  | [d1, d2] => { results := [.lit (.bool true)], args := [d1, d2] }
  | _ => none }
def fnUnixNanoIsNearestInNearestEraRow : OpenClaim := { program := "qxb6623267a", sum := "8291f012ea174950f245fcffe17062af6e7e22d932e3de19d4504c5b351c6562", func := "example.com/socket-timestamps/socket-timestamps/zzlaws_internal_stamp_b1.FnUnixNanoIsNearestInNearestEra", spec := "fnUnixNanoIsNearestInNearestEra", apart := false }
def FnUnixNanoIsNearestInNearestEraSaid : Prop := fnUnixNanoIsNearestInNearestEraRow.holds Try.pinned (OpenSpec.ofChange fnUnixNanoIsNearestInNearestEraSpec)

/-- ITS FALSE NEIGHBOUR: 'it returns false'. Refute it at one input. -/
def fnUnixNanoIsNearestInNearestEraWrong : ChangeSpec := { name := "fnUnixNanoIsNearestInNearestEra", fn := fun _ => fun
  | [d1, d2] => { results := [.lit (.bool false)], args := [d1, d2] }
  | _ => none }
def FnUnixNanoIsNearestInNearestEraWrongFalsely : Prop := fnUnixNanoIsNearestInNearestEraRow.holds Try.pinned (OpenSpec.ofChange fnUnixNanoIsNearestInNearestEraWrong)

/-- 'zzlaws_internal_stamp_b1.FnUnixNanoEraAndSecondShift': WHATEVER THE INPUT: true; the input reads as it did. -/
def fnUnixNanoEraAndSecondShiftSpec : ChangeSpec := { name := "fnUnixNanoEraAndSecondShift", fn := fun _ => fun
  | [d1, d2] => { results := [.lit (.bool true)], args := [d1, d2] }
  | _ => none }
def fnUnixNanoEraAndSecondShiftRow : OpenClaim := { program := "qxb6623267a", sum := "8291f012ea174950f245fcffe17062af6e7e22d932e3de19d4504c5b351c6562", func := "example.com/socket-timestamps/socket-timestamps/zzlaws_internal_stamp_b1.FnUnixNanoEraAndSecondShift", spec := "fnUnixNanoEraAndSecondShift", apart := false }
def FnUnixNanoEraAndSecondShiftSaid : Prop := fnUnixNanoEraAndSecondShiftRow.holds Try.pinned (OpenSpec.ofChange fnUnixNanoEraAndSecondShiftSpec)

/-- ITS FALSE NEIGHBOUR: 'it returns false'. Refute it at one input. -/
def fnUnixNanoEraAndSecondShiftWrong : ChangeSpec := { name := "fnUnixNanoEraAndSecondShift", fn := fun _ => fun
  | [d1, d2] => { results := [.lit (.bool false)], args := [d1, d2] }
  | _ => none }
def FnUnixNanoEraAndSecondShiftWrongFalsely : Prop := fnUnixNanoEraAndSecondShiftRow.holds Try.pinned (OpenSpec.ofChange fnUnixNanoEraAndSecondShiftWrong)

end Rows
end Go.Proofs.Qxb6623267a
