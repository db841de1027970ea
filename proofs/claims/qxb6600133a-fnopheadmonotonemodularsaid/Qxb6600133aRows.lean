/-
  No cell of these rows narrows 'for every input' (looked for: loops, veiled, ifaces, maps, wideKeys, modest, calm, conditions, laid).
  DERIVED. THE GIVEN ROWS OF THIS SEAT. 2 by the template 'for every input the law returns true; each argument reads behind the call as it read before'; 0 by the template 'total and deterministic' (their statements: Qxb6600133aTotals.lean).
  GIVEN WITH THE SEED: the statements are not yours to turn. If you find one false, say at which input.
  Laid BY PROGRAM, IN A SANDBOX (cutbox-rows.mjs): the forced cells as the released guide's own fill.sh prints them over the translation a3f5dc4664a0ff08… (all of the seat's roots in one cut). By AI agents, Wed Nov 11 2026. No macro, syntax, notation, axiom, sorry.
-/
import Derived.Test.Qxb6600133aChecked
import GoSem.Claim
import GoSem.ClaimJoined
import GoSem.ClaimMapViews
import Derived.JoinedTies
import Derived.KernelRfl
namespace Go.Proofs.Qxb6600133a
/- THE CELL 'sum', in the pinned program and in every row, IS THE sha256 OF THE DUMP (.gsa) THAT Qxb6600133aProg.lean LOADS. Nothing in Lean hashes anything: it is a label: what it is worth is what the hold of that sum in a sandbox is worth. -/
noncomputable def Try.pinned : Pinned := { name := "qxb6600133a", sum := "a3f5dc4664a0ff08b13bb5a28e13b7f176f7b2659e3b56026db5170125479717", checked := Try.checked }
namespace Rows
def none {H : Type} : Left H := { results := [], args := [] }

/-- 'zzlaws_wire_b1.FnOpHeadIgnoresPayloadNameFlags': WHATEVER THE INPUT: true; the input reads as it did. -/
def fnOpHeadIgnoresPayloadNameFlagsSpec : ChangeSpec := { name := "fnOpHeadIgnoresPayloadNameFlags", fn := fun _ => fun
  | [d1, d2, d3, d4, d5, d6, d7, d8, d9] => { results := [.lit (.bool true)], args := [d1, d2, d3, d4, d5, d6, d7, d8, d9] }
  | _ => none }
def fnOpHeadIgnoresPayloadNameFlagsRow : OpenClaim := { program := "qxb6600133a", sum := "a3f5dc4664a0ff08b13bb5a28e13b7f176f7b2659e3b56026db5170125479717", func := "example.com/quorumline/quorumline/zzlaws_wire_b1.FnOpHeadIgnoresPayloadNameFlags", spec := "fnOpHeadIgnoresPayloadNameFlags", apart := false }
def FnOpHeadIgnoresPayloadNameFlagsSaid : Prop := fnOpHeadIgnoresPayloadNameFlagsRow.holds Try.pinned (OpenSpec.ofChange fnOpHeadIgnoresPayloadNameFlagsSpec)

/-- ITS FALSE NEIGHBOUR: 'it returns false'. Refute it at one input. -/
def fnOpHeadIgnoresPayloadNameFlagsWrong : ChangeSpec := { name := "fnOpHeadIgnoresPayloadNameFlags", fn := fun _ => fun
  | [d1, d2, d3, d4, d5, d6, d7, d8, d9] => { results := [.lit (.bool false)], args := [d1, d2, d3, d4, d5, d6, d7, d8, d9] }
  | _ => none }
def FnOpHeadIgnoresPayloadNameFlagsWrongFalsely : Prop := fnOpHeadIgnoresPayloadNameFlagsRow.holds Try.pinned (OpenSpec.ofChange fnOpHeadIgnoresPayloadNameFlagsWrong)

/-- 'zzlaws_wire_b1.FnOpHeadMonotoneModular': WHATEVER THE INPUT: true; the input reads as it did. -/
def fnOpHeadMonotoneModularSpec : ChangeSpec := { name := "fnOpHeadMonotoneModular", fn := fun _ => fun
  | [d1, d2, d3, d4, d5, d6, d7] => { results := [.lit (.bool true)], args := [d1, d2, d3, d4, d5, d6, d7] }
  | _ => none }
def fnOpHeadMonotoneModularRow : OpenClaim := { program := "qxb6600133a", sum := "a3f5dc4664a0ff08b13bb5a28e13b7f176f7b2659e3b56026db5170125479717", func := "example.com/quorumline/quorumline/zzlaws_wire_b1.FnOpHeadMonotoneModular", spec := "fnOpHeadMonotoneModular", apart := false }
def FnOpHeadMonotoneModularSaid : Prop := fnOpHeadMonotoneModularRow.holds Try.pinned (OpenSpec.ofChange fnOpHeadMonotoneModularSpec)

/-- ITS FALSE NEIGHBOUR: 'it returns false'. Refute it at one input. -/
def fnOpHeadMonotoneModularWrong : ChangeSpec := { name := "fnOpHeadMonotoneModular", fn := fun _ => fun
  | [d1, d2, d3, d4, d5, d6, d7] => { results := [.lit (.bool false)], args := [d1, d2, d3, d4, d5, d6, d7] }
  | _ => none }
def FnOpHeadMonotoneModularWrongFalsely : Prop := fnOpHeadMonotoneModularRow.holds Try.pinned (OpenSpec.ofChange fnOpHeadMonotoneModularWrong)

end Rows
end Go.Proofs.Qxb6600133a
