import Derived.Test.Qxb6600133aRows
import Derived.WalkKit
import Derived.ProofKit
namespace Go.Proofs.Qxb6600133a
open Go.ChangeShapes Go.WideShapes Go.ChangeAt Go.RowKit

/-- What 'head' answers. -/
def hd (l d r : Bool) : Int := 31 + (if l then 8 else 0) + (if d then 4 else 0) + (if r then 12 else 0)

set_option maxHeartbeats 2000000 in
theorem head_any (s : ByteArray) (fl : Int) (l d p r : Bool) (w : World) :
    Calls Try.prog 6 #[.string s, .int .u8 fl, .bool l, .bool d, .bool p, .bool r] w fun e w' => e = .returned (.int .i64 (hd l d r)) ∧ Grown w w' := by
  cases l <;> cases d <;> cases r
  all_goals
    go_enter Try.func6, Try.ntmps6
    go_wp2
    go_ret
    refine ⟨by simp [hd], ?_⟩
    repeat (first | exact Grown.refl _ | apply Grown.drew | apply Grown.alloc)

theorem head_is (n : Int) (s : ByteArray) (fl : Int) (l d p r : Bool) (w : World) (hn : hd l d r = n) :
    Calls Try.prog 6 #[.string s, .int .u8 fl, .bool l, .bool d, .bool p, .bool r] w fun e w' => e = .returned (.int .i64 n) ∧ Grown w w' := by
  subst hn
  exact head_any s fl l d p r w

theorem grown_trans {a b c : World} (h : Grown a b) (k : Grown b c) : Grown a c :=
  ⟨World.keptBut_trans h.1 k.1, fun x => (k.2.1 x).trans (h.2.1 x), Nat.le_trans h.2.2 k.2.2⟩
end Go.Proofs.Qxb6600133a
