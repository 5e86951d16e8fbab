/-
  No cell of these rows narrows 'for every input' (looked for: loops, veiled, ifaces, maps, wideKeys, modest, calm, conditions, laid).
  DERIVED. THE GIVEN ROWS OF THIS SEAT. 1 by the template 'for every input the law returns true; each argument reads behind the call as it read before'; 0 by the template 'total and deterministic' (their statements: Qxb6623300aTotals.lean).
  GIVEN WITH THE SEED: the statements are not yours to turn. If you find one false, say at which input.
  Laid BY PROGRAM, IN A SANDBOX (cutbox-rows.mjs): the forced cells as the released guide's own fill.sh prints them over the translation 18ae6990885718b5… (all of the seat's roots in one cut). By AI agents, Wed Nov 11 2026. No macro, syntax, notation, axiom, sorry.
-/
import Derived.Test.Qxb6623300aChecked
import GoSem.Claim
import GoSem.ClaimJoined
import GoSem.ClaimMapViews
import Derived.JoinedTies
import Derived.KernelRfl
namespace Go.Proofs.Qxb6623300a
/- THE CELL 'sum', in the pinned program and in every row, IS THE sha256 OF THE DUMP (.gsa) THAT Qxb6623300aProg.lean LOADS. Nothing in Lean hashes anything: it is a label: what it is worth is what the hold of that sum in a sandbox is worth. -/
noncomputable def Try.pinned : Pinned := { name := "qxb6623300a", sum := "18ae6990885718b5d482e358760a4c07ab80eed15a33719a1c36c3dcb9c783f5", checked := Try.checked }
namespace Rows
def none {H : Type} : Left H := { results := [], args := [] }

/-- 'zzlaws_innodb_b1.FnDoublewriteContainsGrowsWithPages': WHATEVER THE INPUT: true; the input reads as it did. -/
def fnDoublewriteContainsGrowsWithPagesSpec : ChangeSpec := { name := "fnDoublewriteContainsGrowsWithPages", fn := fun _ => fun
  | [d1, d2, d3, d4, d5] => { results := [.lit (.bool true)], args := [d1, d2, d3, d4, d5] }
  | _ => none }
def fnDoublewriteContainsGrowsWithPagesRow : OpenClaim := { program := "qxb6623300a", sum := "18ae6990885718b5d482e358760a4c07ab80eed15a33719a1c36c3dcb9c783f5", func := "example.com/redotide/redotide/zzlaws_innodb_b1.FnDoublewriteContainsGrowsWithPages", spec := "fnDoublewriteContainsGrowsWithPages", apart := false }
def FnDoublewriteContainsGrowsWithPagesSaid : Prop := fnDoublewriteContainsGrowsWithPagesRow.holds Try.pinned (OpenSpec.ofChange fnDoublewriteContainsGrowsWithPagesSpec)

/-- ITS FALSE NEIGHBOUR: 'it returns false'. Refute it at one input. -/
def fnDoublewriteContainsGrowsWithPagesWrong : ChangeSpec := { name := "fnDoublewriteContainsGrowsWithPages", fn := fun _ => fun
  | [d1, d2, d3, d4, d5] => { results := [.lit (.bool false)], args := [d1, d2, d3, d4, d5] }
  | _ => none }
def FnDoublewriteContainsGrowsWithPagesWrongFalsely : Prop := fnDoublewriteContainsGrowsWithPagesRow.holds Try.pinned (OpenSpec.ofChange fnDoublewriteContainsGrowsWithPagesWrong)

end Rows
end Go.Proofs.Qxb6623300a
