/-
  No cell of these rows narrows 'for every input' (looked for: loops, veiled, ifaces, maps, wideKeys, modest, calm, conditions, laid).
  DERIVED. THE GIVEN ROWS OF THIS SEAT. 3 by the template 'for every input the law returns true; each argument reads behind the call as it read before'; 0 by the template 'total and deterministic' (their statements: Qxb6600030aTotals.lean).
  GIVEN WITH THE SEED: the statements are not yours to turn. If you find one false, say at which input.
  Laid BY PROGRAM, IN A SANDBOX (cutbox-rows.mjs): the forced cells as the released guide's own fill.sh prints them over the translation acbdc9130bc2b63c… (all of the seat's roots in one cut). By AI agents, Wed Nov 11 2026. No macro, syntax, notation, axiom, sorry.
-/
import Derived.Test.Qxb6600030aChecked
import GoSem.Claim
import GoSem.ClaimJoined
import GoSem.ClaimMapViews
import Derived.JoinedTies
import Derived.KernelRfl
namespace Go.Proofs.Qxb6600030a
/- THE CELL 'sum', in the pinned program and in every row, IS THE sha256 OF THE DUMP (.gsa) THAT Qxb6600030aProg.lean LOADS. Nothing in Lean hashes anything: it is a label: what it is worth is what the hold of that sum in a sandbox is worth. -/
noncomputable def Try.pinned : Pinned := { name := "qxb6600030a", sum := "acbdc9130bc2b63cdc2572744ef1b8612f2895f097757d1d5ba7555dc419f9a7", checked := Try.checked }
namespace Rows
def none {H : Type} : Left H := { results := [], args := [] }

/-- 'zzlaws_internal_history_b1.FnSettleMatchesModel': WHATEVER THE INPUT: true; the input reads as it did. -/
def fnSettleMatchesModelSpec : ChangeSpec := { name := "fnSettleMatchesModel", fn := fun _ => fun
  | [d] => { results := [.lit (.bool true)], args := [d] }
  | _ => none }
def fnSettleMatchesModelRow : OpenClaim := { program := "qxb6600030a", sum := "acbdc9130bc2b63cdc2572744ef1b8612f2895f097757d1d5ba7555dc419f9a7", func := "example.com/quorate/quorate/zzlaws_internal_history_b1.FnSettleMatchesModel", spec := "fnSettleMatchesModel", apart := false }
def FnSettleMatchesModelSaid : Prop := fnSettleMatchesModelRow.holds Try.pinned (OpenSpec.ofChange fnSettleMatchesModelSpec)

/-- ITS FALSE NEIGHBOUR: 'it returns false'. Refute it at one input. -/
def fnSettleMatchesModelWrong : ChangeSpec := { name := "fnSettleMatchesModel", fn := fun _ => fun
  | [d] => { results := [.lit (.bool false)], args := [d] }
  | _ => none }
def FnSettleMatchesModelWrongFalsely : Prop := fnSettleMatchesModelRow.holds Try.pinned (OpenSpec.ofChange fnSettleMatchesModelWrong)

/-- 'zzlaws_internal_history_b1.FnSettleIdempotent': WHATEVER THE INPUT: true; the input reads as it did. -/
def fnSettleIdempotentSpec : ChangeSpec := { name := "fnSettleIdempotent", fn := fun _ => fun
  | [d] => { results := [.lit (.bool true)], args := [d] }
  | _ => none }
def fnSettleIdempotentRow : OpenClaim := { program := "qxb6600030a", sum := "acbdc9130bc2b63cdc2572744ef1b8612f2895f097757d1d5ba7555dc419f9a7", func := "example.com/quorate/quorate/zzlaws_internal_history_b1.FnSettleIdempotent", spec := "fnSettleIdempotent", apart := false }
def FnSettleIdempotentSaid : Prop := fnSettleIdempotentRow.holds Try.pinned (OpenSpec.ofChange fnSettleIdempotentSpec)

/-- ITS FALSE NEIGHBOUR: 'it returns false'. Refute it at one input. -/
def fnSettleIdempotentWrong : ChangeSpec := { name := "fnSettleIdempotent", fn := fun _ => fun
  | [d] => { results := [.lit (.bool false)], args := [d] }
  | _ => none }
def FnSettleIdempotentWrongFalsely : Prop := fnSettleIdempotentRow.holds Try.pinned (OpenSpec.ofChange fnSettleIdempotentWrong)

/-- 'zzlaws_internal_history_b1.FnSettleCommutesWithSwap': WHATEVER THE INPUT: true; the input reads as it did. -/
def fnSettleCommutesWithSwapSpec : ChangeSpec := { name := "fnSettleCommutesWithSwap", fn := fun _ => fun
  | [d1, d2, d3] => { results := [.lit (.bool true)], args := [d1, d2, d3] }
  | _ => none }
def fnSettleCommutesWithSwapRow : OpenClaim := { program := "qxb6600030a", sum := "acbdc9130bc2b63cdc2572744ef1b8612f2895f097757d1d5ba7555dc419f9a7", func := "example.com/quorate/quorate/zzlaws_internal_history_b1.FnSettleCommutesWithSwap", spec := "fnSettleCommutesWithSwap", apart := false }
def FnSettleCommutesWithSwapSaid : Prop := fnSettleCommutesWithSwapRow.holds Try.pinned (OpenSpec.ofChange fnSettleCommutesWithSwapSpec)

/-- ITS FALSE NEIGHBOUR: 'it returns false'. Refute it at one input. -/
def fnSettleCommutesWithSwapWrong : ChangeSpec := { name := "fnSettleCommutesWithSwap", fn := fun _ => fun
  | [d1, d2, d3] => { results := [.lit (.bool false)], args := [d1, d2, d3] }
  | _ => none }
def FnSettleCommutesWithSwapWrongFalsely : Prop := fnSettleCommutesWithSwapRow.holds Try.pinned (OpenSpec.ofChange fnSettleCommutesWithSwapWrong)

end Rows
end Go.Proofs.Qxb6600030a
