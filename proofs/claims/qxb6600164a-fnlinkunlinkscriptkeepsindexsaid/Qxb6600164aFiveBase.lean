import Derived.Test.Qxb6600164aFive
import Derived.LaidEqlPtr
namespace Go.Proofs.Qxb6600164a
open Go.MapKept
open Go.ChangeShapes Go.WideShapes Go.ChangeAt Go.RowKit

theorem toList_ne {a b : ByteArray} (h : ¬ a = b) : (a.toList == b.toList) = false := by
  rw [ByteArray.toList_eq, ByteArray.toList_eq, ← Bool.not_eq_true]
  intro e
  exact h (bytes_inj (by simpa using e))
theorem Try.info52 : (Try.prog.info? 52).map (fun i => (i.size)) = some 13 := by kernel_rfl
theorem has52 : ∃ i, Try.prog.info? 52 = some i := by
  have := Try.info52
  cases h : Try.prog.info? 52 with
  | none => rw [h] at this; cases this
  | some i => exact ⟨i, rfl⟩
theorem eql24 (w : World) (a : Addr) : (binOp .eql 24 (.pointer (some a)) (.pointer (some a))).run Try.prog w = .ok (.bool true) w := by
  obtain ⟨i, hi⟩ := has52
  exact run_eql_ptr_same w a Try.underlying24 hi
theorem neq24 (w : World) (a : Addr) : (binOp .neq 24 (.pointer (some a)) (.pointer (some a))).run Try.prog w = .ok (.bool false) w := by
  obtain ⟨i, hi⟩ := has52
  have h : ∀ d : Nat, (Op.equalIn (d + 1) 24 (.pointer (some a)) (.pointer (some a))).run Try.prog w = .ok true w := fun d => by
    simp [Op.equalIn, run_underlying Try.underlying24, sizeOf, typeInfo, hi, run_sameAddr_same]
  simp only [binOp]
  simp [Op.equal, Op.maxDepth, h 9999]
theorem neq24n (w : World) (a : Option Addr) : (binOp .neq 24 (.pointer a) (.pointer none)).run Try.prog w = .ok (.bool a.isSome) w := by
  have h : ∀ d : Nat, (Op.equalIn (d + 1) 24 (.pointer a) (.pointer none)).run Try.prog w = .ok a.isNone w := fun d => by
    cases a <;> simp [Op.equalIn, run_underlying Try.underlying24, sizeOf, typeInfo]
  simp only [binOp]
  cases a <;> simp [Op.equal, Op.maxDepth, h 9999]
theorem eql24n (w : World) (a : Option Addr) : (binOp .eql 24 (.pointer a) (.pointer none)).run Try.prog w = .ok (.bool a.isNone) w := by
  have h : ∀ d : Nat, (Op.equalIn (d + 1) 24 (.pointer a) (.pointer none)).run Try.prog w = .ok a.isNone w := fun d => by
    cases a <;> simp [Op.equalIn, run_underlying Try.underlying24, sizeOf, typeInfo]
  simp only [binOp]
  cases a <;> simp [Op.equal, Op.maxDepth, h 9999]
theorem t_root' {w : World} {B : Nat} (hB : B = w.heap.size) : Calls Try.prog 7 #[.int .i64 0] w fun e w' => e = .returned (.pointer (some ⟨B, 0, none⟩)) ∧ NewNode w' B 0 ∧ Below B w w' := by
  subst hB; exact t_root w
theorem t_tree' {w0 w : World} {B : Nat} (hB : B = w0.heap.size) (hx : NewNode w B 0) (hb : Below B w0 w) : Calls Try.prog 8 #[.pointer (some ⟨B, 0, none⟩)] w fun e w' => ∃ T, e = .returned (.pointer (some ⟨T, 0, none⟩)) ∧ Tr w0 w' B T (Abs.init B) := by
  subst hB; exact t_tree hx rfl hb
theorem on_A3 {X : Abs} {d n oc : Nat} {name P : ByteArray} {o : Int} (h : X.on o = oc) (z : o ≠ 0) : (A3 X d n name P o).on o = oc + 1 := by
  unfold A3 Abs.link
  rw [A3_own, if_neg z]
  simp [Abs.give, Abs.put, Abs.add, h]

set_option maxHeartbeats 1000000 in
theorem zz5 (a0 a1 a2 : ByteArray) (a3 a4 : Int) (w : World) (h0 : a0.size ≤ maxLen) (h1 : a1.size ≤ maxLen) (h2 : a2.size ≤ maxLen) :
    Calls Try.prog 5 #[.string a0, .string a1, .string a2, .int .i64 a3, .int .i64 a4] w fun e w' => RetB (fun _ => True) e ∧ w' = w := by
  unfold maxLen at h0 h1 h2
  go_enter Try.func5, Try.ntmps5
  go_wp2
  all_goals
    go_ret
    exact ⟨.mk rfl trivial, rfl⟩
end Go.Proofs.Qxb6600164a
