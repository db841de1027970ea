/-
  No cell of these rows narrows 'for every input' (looked for: loops, veiled, ifaces, maps, wideKeys, modest, calm, conditions, laid).
  DERIVED. THE GIVEN ROWS OF THIS SEAT. 2 by the template 'for every input the law returns true; each argument reads behind the call as it read before'; 0 by the template 'total and deterministic' (their statements: Qxb6600164aTotals.lean).
  GIVEN WITH THE SEED: the statements are not yours to turn. If you find one false, say at which input.
  Laid BY PROGRAM, IN A SANDBOX (cutbox-rows.mjs): the forced cells as the released guide's own fill.sh prints them over the translation a6097ca59b3da121… (all of the seat's roots in one cut). By AI agents, Wed Nov 11 2026. No macro, syntax, notation, axiom, sorry.
-/
import Derived.Test.Qxb6600164aChecked
import GoSem.Claim
import GoSem.ClaimJoined
import GoSem.ClaimMapViews
import Derived.JoinedTies
import Derived.KernelRfl
namespace Go.Proofs.Qxb6600164a
/- THE CELL 'sum', in the pinned program and in every row, IS THE sha256 OF THE DUMP (.gsa) THAT Qxb6600164aProg.lean LOADS. Nothing in Lean hashes anything: it is a label: what it is worth is what the hold of that sum in a sandbox is worth. -/
noncomputable def Try.pinned : Pinned := { name := "qxb6600164a", sum := "a6097ca59b3da121300981163575a1beb8fa64bef13da4dcf781bced8ffed36e", checked := Try.checked }
namespace Rows
def none {H : Type} : Left H := { results := [], args := [] }

/-- 'zzlaws_pkg_tree_b1.FnLinkThenUnlinkRestores': WHATEVER THE INPUT: true; the input reads as it did. -/
def fnLinkThenUnlinkRestoresSpec : ChangeSpec := { name := "fnLinkThenUnlinkRestores", fn := fun _ => fun
  | [d1, d2, d3, d4, d5] => { results := [.lit (.bool true)], args := [d1, d2, d3, d4, d5] }
  | _ => none }
def fnLinkThenUnlinkRestoresRow : OpenClaim := { program := "qxb6600164a", sum := "a6097ca59b3da121300981163575a1beb8fa64bef13da4dcf781bced8ffed36e", func := "example.com/quorumtree/quorumtree/zzlaws_pkg_tree_b1.FnLinkThenUnlinkRestores", spec := "fnLinkThenUnlinkRestores", apart := false }
def FnLinkThenUnlinkRestoresSaid : Prop := fnLinkThenUnlinkRestoresRow.holds Try.pinned (OpenSpec.ofChange fnLinkThenUnlinkRestoresSpec)

/-- ITS FALSE NEIGHBOUR: 'it returns false'. Refute it at one input. -/
def fnLinkThenUnlinkRestoresWrong : ChangeSpec := { name := "fnLinkThenUnlinkRestores", fn := fun _ => fun
  | [d1, d2, d3, d4, d5] => { results := [.lit (.bool false)], args := [d1, d2, d3, d4, d5] }
  | _ => none }
def FnLinkThenUnlinkRestoresWrongFalsely : Prop := fnLinkThenUnlinkRestoresRow.holds Try.pinned (OpenSpec.ofChange fnLinkThenUnlinkRestoresWrong)

/-- 'zzlaws_pkg_tree_b1.FnLinkUnlinkScriptKeepsIndex': WHATEVER THE INPUT: true; the input reads as it did. -/
def fnLinkUnlinkScriptKeepsIndexSpec : ChangeSpec := { name := "fnLinkUnlinkScriptKeepsIndex", fn := fun _ => fun
  | [d1, d2, d3] => { results := [.lit (.bool true)], args := [d1, d2, d3] }
  | _ => none }
def fnLinkUnlinkScriptKeepsIndexRow : OpenClaim := { program := "qxb6600164a", sum := "a6097ca59b3da121300981163575a1beb8fa64bef13da4dcf781bced8ffed36e", func := "example.com/quorumtree/quorumtree/zzlaws_pkg_tree_b1.FnLinkUnlinkScriptKeepsIndex", spec := "fnLinkUnlinkScriptKeepsIndex", apart := false }
def FnLinkUnlinkScriptKeepsIndexSaid : Prop := fnLinkUnlinkScriptKeepsIndexRow.holds Try.pinned (OpenSpec.ofChange fnLinkUnlinkScriptKeepsIndexSpec)

/-- ITS FALSE NEIGHBOUR: 'it returns false'. Refute it at one input. -/
def fnLinkUnlinkScriptKeepsIndexWrong : ChangeSpec := { name := "fnLinkUnlinkScriptKeepsIndex", fn := fun _ => fun
  | [d1, d2, d3] => { results := [.lit (.bool false)], args := [d1, d2, d3] }
  | _ => none }
def FnLinkUnlinkScriptKeepsIndexWrongFalsely : Prop := fnLinkUnlinkScriptKeepsIndexRow.holds Try.pinned (OpenSpec.ofChange fnLinkUnlinkScriptKeepsIndexWrong)

end Rows
end Go.Proofs.Qxb6600164a
