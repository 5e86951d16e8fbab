/-
  No cell of these rows narrows 'for every input' (looked for: loops, veiled, ifaces, maps, wideKeys, modest, calm, conditions, laid).
  DERIVED. THE GIVEN ROWS OF THIS SEAT. 1 by the template 'for every input the law returns true; each argument reads behind the call as it read before'; 0 by the template 'total and deterministic' (their statements: Qxb6623359aTotals.lean).
  GIVEN WITH THE SEED: the statements are not yours to turn. If you find one false, say at which input.
  Laid BY PROGRAM, IN A SANDBOX (cutbox-rows.mjs): the forced cells as the released guide's own fill.sh prints them over the translation 4c6f6b345cc34e17… (all of the seat's roots in one cut). By AI agents, Wed Nov 11 2026. No macro, syntax, notation, axiom, sorry.
-/
import Derived.Test.Qxb6623359aChecked
import GoSem.Claim
import GoSem.ClaimJoined
import GoSem.ClaimMapViews
import Derived.JoinedTies
import Derived.KernelRfl
namespace Go.Proofs.Qxb6623359a
/- THE CELL 'sum', in the pinned program and in every row, IS THE sha256 OF THE DUMP (.gsa) THAT Qxb6623359aProg.lean LOADS. Nothing in Lean hashes anything: it is a label: what it is worth is what the hold of that sum in a sandbox is worth. -/
noncomputable def Try.pinned : Pinned := { name := "qxb6623359a", sum := "4c6f6b345cc34e17b4931bb85ad799ee1b3eee775c26fd0719c0d97cde3968f0", checked := Try.checked }
namespace Rows
def none {H : Type} : Left H := { results := [], args := [] }

/-- 'zzlaws_internal_wildcard_b1.FnUpperASCIIBytewiseAndCut': WHATEVER THE INPUT: true; the input reads as it did. -/
def fnUpperASCIIBytewiseAndCutSpec : ChangeSpec := { name := "fnUpperASCIIBytewiseAndCut", fn := fun _ => fun
  | [d1, d2] => { results := [.lit (.bool true)], args := [d1, d2] }
  | _ => none }
def fnUpperASCIIBytewiseAndCutRow : OpenClaim := { program := "qxb6623359a", sum := "4c6f6b345cc34e17b4931bb85ad799ee1b3eee775c26fd0719c0d97cde3968f0", func := "example.com/barberry/barberry/zzlaws_internal_wildcard_b1.FnUpperASCIIBytewiseAndCut", spec := "fnUpperASCIIBytewiseAndCut", apart := false }
def FnUpperASCIIBytewiseAndCutSaid : Prop := fnUpperASCIIBytewiseAndCutRow.holds Try.pinned (OpenSpec.ofChange fnUpperASCIIBytewiseAndCutSpec)

/-- ITS FALSE NEIGHBOUR: 'it returns false'. Refute it at one input. -/
def fnUpperASCIIBytewiseAndCutWrong : ChangeSpec := { name := "fnUpperASCIIBytewiseAndCut", fn := fun _ => fun
  | [d1, d2] => { results := [.lit (.bool false)], args := [d1, d2] }
  | _ => none }
def FnUpperASCIIBytewiseAndCutWrongFalsely : Prop := fnUpperASCIIBytewiseAndCutRow.holds Try.pinned (OpenSpec.ofChange fnUpperASCIIBytewiseAndCutWrong)

end Rows
end Go.Proofs.Qxb6623359a
