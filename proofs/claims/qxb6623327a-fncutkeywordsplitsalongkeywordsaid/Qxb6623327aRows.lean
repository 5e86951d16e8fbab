/-
  No cell of these rows narrows 'for every input' (looked for: loops, veiled, ifaces, maps, wideKeys, modest, calm, conditions, laid).
  DERIVED. THE GIVEN ROWS OF THIS SEAT. 1 by the template 'for every input the law returns true; each argument reads behind the call as it read before'; 0 by the template 'total and deterministic' (their statements: Qxb6623327aTotals.lean).
  GIVEN WITH THE SEED: the statements are not yours to turn. If you find one false, say at which input.
  Laid BY PROGRAM, IN A SANDBOX (cutbox-rows.mjs): the forced cells as the released guide's own fill.sh prints them over the translation 0c699dc8fb69f3c0… (all of the seat's roots in one cut). By AI agents, Wed Nov 11 2026. No macro, syntax, notation, axiom, sorry.
-/
import Derived.Test.Qxb6623327aChecked
import GoSem.Claim
import GoSem.ClaimJoined
import GoSem.ClaimMapViews
import Derived.JoinedTies
import Derived.KernelRfl
namespace Go.Proofs.Qxb6623327a
/- THE CELL 'sum', in the pinned program and in every row, IS THE sha256 OF THE DUMP (.gsa) THAT Qxb6623327aProg.lean LOADS. Nothing in Lean hashes anything: it is a label: what it is worth is what the hold of that sum in a sandbox is worth. -/
noncomputable def Try.pinned : Pinned := { name := "qxb6623327a", sum := "0c699dc8fb69f3c0eddf41894f6d10abf32ac55e2be2e87f32073f245c9225ba", checked := Try.checked }
namespace Rows
def none {H : Type} : Left H := { results := [], args := [] }

/-- 'zzlaws_smtp_b1.FnCutKeywordSplitsAlongKeyword': WHATEVER THE INPUT: true; the input reads as it did. -/
def fnCutKeywordSplitsAlongKeywordSpec : ChangeSpec := { name := "fnCutKeywordSplitsAlongKeyword", fn := fun _ => fun
  | [d1, d2, d3] => { results := [.lit (.bool true)], args := [d1, d2, d3] }
  | _ => none }
def fnCutKeywordSplitsAlongKeywordRow : OpenClaim := { program := "qxb6623327a", sum := "0c699dc8fb69f3c0eddf41894f6d10abf32ac55e2be2e87f32073f245c9225ba", func := "example.com/tightwire/tightwire/zzlaws_smtp_b1.FnCutKeywordSplitsAlongKeyword", spec := "fnCutKeywordSplitsAlongKeyword", apart := false }
def FnCutKeywordSplitsAlongKeywordSaid : Prop := fnCutKeywordSplitsAlongKeywordRow.holds Try.pinned (OpenSpec.ofChange fnCutKeywordSplitsAlongKeywordSpec)

/-- ITS FALSE NEIGHBOUR: 'it returns false'. Refute it at one input. -/
def fnCutKeywordSplitsAlongKeywordWrong : ChangeSpec := { name := "fnCutKeywordSplitsAlongKeyword", fn := fun _ => fun
  | [d1, d2, d3] => { results := [.lit (.bool false)], args := [d1, d2, d3] }
  | _ => none }
def FnCutKeywordSplitsAlongKeywordWrongFalsely : Prop := fnCutKeywordSplitsAlongKeywordRow.holds Try.pinned (OpenSpec.ofChange fnCutKeywordSplitsAlongKeywordWrong)

end Rows
end Go.Proofs.Qxb6623327a
