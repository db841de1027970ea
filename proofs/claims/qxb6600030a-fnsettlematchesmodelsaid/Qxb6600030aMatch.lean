import Derived.Test.Qxb6600030aModel
namespace Go.Proofs.Qxb6600030a
open Go.ChangeShapes Go.WideShapes Go.ChangeAt Go.RowKit

theorem bel_drewN {B : Nat} {a w : World} (h : Below B a w) (n : Nat) : Below B a (w.drewN n) := h.trans ⟨rfl, rfl, rfl, Nat.le_refl _, fun _ _ => rfl⟩

set_option maxHeartbeats 2000000 in
theorem match_any (g i : Nat) (o : SOp) (vp rp : Value) (r : Option Int) (ret : Int) (w : World) (hs : ptrS w g vp (ownV o)) (hi : ptrI w g rp r) (hr : ∀ x, r = some x → ret = x) :
    Calls Try.prog 14 #[.agg #[.string ⟨#[107]⟩, .int .i64 i, .int .u8 o.kind, vp, .int .i64 o.call, rp],
      .agg #[.int .u8 o.kind, .bool o.hasV, .string o.val, .int .i64 o.call, .bool o.hasR, .int .i64 o.ret], .int .i64 i, .bool r.isSome, .int .i64 ret] w
      fun e w' => e = .returned (.bool true) ∧ Below w.heap.size w w' := by
  obtain ⟨kind, hasV, val, call, hasR, oret⟩ := o
  cases hasV with
  | false =>
    simp only [ptrS, ownV, Bool.false_eq_true, if_false] at hs
    subst hs
    cases r with
    | none =>
      simp only [ptrI] at hi
      subst hi
      clear hr
      go_enter Try.func14, Try.ntmps14
      go_wp2
      go_quiet (fail)
      go_wp2
      go_ret
      exact ⟨rfl, bel_drewN (((Below.refl _ _).alloc (Nat.le_refl _) _).alloc (by rw [size_alloc]; omega) _) _⟩
    | some x =>
      obtain ⟨a, rfl, hag, hcell⟩ := hi
      obtain rfl := hr x rfl
      clear hr
      have l1 := cell_lt hcell
      have l2 : a < w.heap.size + 1 := Nat.lt_succ_of_lt l1
      go_enter Try.func14, Try.ntmps14
      go_wp2
      go_quiet (fail)
      go_wp2
      go_ret
      exact ⟨rfl, bel_drewN (((Below.refl _ _).alloc (Nat.le_refl _) _).alloc (by rw [size_alloc]; omega) _) _⟩
  | true =>
    simp only [ptrS, ownV, if_true] at hs
    obtain ⟨c, rfl, hcg, hscell⟩ := hs
    have k1 := cell_lt hscell
    have k2 : c < w.heap.size + 1 := Nat.lt_succ_of_lt k1
    cases r with
    | none =>
      simp only [ptrI] at hi
      subst hi
      clear hr
      go_enter Try.func14, Try.ntmps14
      go_wp2
      go_quiet (fail)
      go_wp2
      go_ret
      exact ⟨rfl, bel_drewN (((Below.refl _ _).alloc (Nat.le_refl _) _).alloc (by rw [size_alloc]; omega) _) _⟩
    | some x =>
      obtain ⟨a, rfl, hag, hcell⟩ := hi
      obtain rfl := hr x rfl
      clear hr
      have l1 := cell_lt hcell
      have l2 : a < w.heap.size + 1 := Nat.lt_succ_of_lt l1
      go_enter Try.func14, Try.ntmps14
      go_wp2
      go_quiet (fail)
      go_wp2
      go_ret
      exact ⟨rfl, bel_drewN (((Below.refl _ _).alloc (Nat.le_refl _) _).alloc (by rw [size_alloc]; omega) _) _⟩
end Go.Proofs.Qxb6600030a
