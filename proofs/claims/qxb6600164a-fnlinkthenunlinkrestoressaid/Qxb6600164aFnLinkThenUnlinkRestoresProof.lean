import Derived.Test.Qxb6600164aRows
import Derived.Test.Qxb6600164aFiveA
import Derived.Test.Qxb6600164aFiveB
import Derived.Test.Qxb6600164aFiveC
import Derived.Test.Qxb6600164aFiveD
import Derived.Test.Qxb6600164aFiveE
import Derived.Test.Qxb6600164aFiveF
import Derived.Test.Qxb6600164aFiveG
import Derived.WalkKit
import Derived.ProofKit
import Derived.OpenShut
import Derived.ShutString
namespace Go.Proofs.Qxb6600164a.fnLinkThenUnlinkRestores
open Go.ChangeShapes Go.WideShapes Go.ChangeAt Go.RowKit
open Go.ChangeMaps (open_string shut_string)
set_option linter.unusedVariables false      -- a walk need not use every 'w<i>' (that an integer argument fits its kind)

theorem own : ownKnob Try.prog.godebug = none := by kernel_rfl


set_option maxHeartbeats 1000000 in
set_option maxRecDepth 100000 in
theorem big (a0 a1 a2 : ByteArray) (a3 a4 : Int) (w0 : a0.size ≤ maxLen) (w1 : a1.size ≤ maxLen) (w2 : a2.size ≤ maxLen) (w : World) (hz : ¬ a0.size + a1.size + a2.size ≤ 262144) :
    Calls Try.prog 3 #[.string a0, .string a1, .string a2, .int .i64 a3, .int .i64 a4] w fun e w' => e = .returned (.bool true) ∧ Below w.heap.size w w' := by
  have Z5 := zz5 a0 a1 a2 a3 a4 w w0 w1 w2
  unfold maxLen at w0 w1 w2
  go_enter Try.func3, Try.ntmps3
  go_wp2_with fail
  refine Z5.mono ?_
  rintro _ _ ⟨⟨r, rfl, -⟩, rfl⟩
  clear Z5
  cases r
  · go_wp2
    go_ret
    exact ⟨rfl, Below.refl _ _⟩
  go_wp2
  all_goals
    go_ret
    exact ⟨rfl, Below.refl _ _⟩

theorem walk (a0 : ByteArray) (a1 : ByteArray) (a2 : ByteArray) (a3 : Int) (a4 : Int) (w0 : a0.size ≤ maxLen) (w1 : a1.size ≤ maxLen) (w2 : a2.size ≤ maxLen) (w : World) :
    Calls Try.prog 3 #[.string a0, .string a1, .string a2, .int .i64 a3, .int .i64 a4] w fun e w' => e = .returned (.bool true) ∧ Below w.heap.size w w' := by
  by_cases hz : a0.size + a1.size + a2.size ≤ 262144
  · have f : ∀ x : Int, ¬ x = 0 → (x == 0) = false := fun x h => by simpa using h
    by_cases hs : a1.toList = []
    · by_cases h4 : a4 = 0
      · subst h4; exact five_A a0 a1 a2 a3 hs w _ rfl hz
      · exact five_B a0 a1 a2 a3 a4 hs (f _ h4) w _ rfl hz
    · by_cases h3 : a3 = 0
      · subst h3
        by_cases h4 : a4 = 0
        · subst h4; exact five_C a0 a1 a2 hs w _ rfl hz
        · exact five_D a0 a1 a2 a4 hs (f _ h4) w _ rfl hz
      · by_cases h4 : a4 = 0
        · subst h4; exact five_E a0 a1 a2 a3 hs (f _ h3) w _ rfl hz
        · by_cases h5 : a4 = a3
          · subst h5; exact five_G a0 a1 a2 a4 hs (f _ h3) w _ rfl hz
          · exact five_F a0 a1 a2 a3 a4 hs (f _ h3) (f _ h4) h5 w _ rfl hz
  · exact big a0 a1 a2 a3 a4 w0 w1 w2 w hz

/-! ### THE ROW's STEP: WRITTEN OUT: LEAVE IT -/
set_option maxRecDepth 100000 in
theorem lifted (os : Os) (started : os.Started) (H : Type) (enc : TypeId × Value → H) :
    ReturnsInHanded {} Try.checked os 3 .any (Rows.fnLinkThenUnlinkRestoresSpec.pre6 enc Try.prog Try.f3 Rows.fnLinkThenUnlinkRestoresRow.domain false) (Rows.fnLinkThenUnlinkRestoresSpec.post enc Try.prog Try.f3 false true false false) := by
  refine returnsInHanded_of_change (C := Try.checked) own started (by kernel_rfl) Try.func3
    (ChangeSpec.witness6 (enc := enc) (C := Try.checked) false ⟨#[], #[.string ByteArray.empty, .string ByteArray.empty, .string ByteArray.empty, .int .i64 0, .int .i64 0], []⟩ 8 (by kernel_rfl) (by kernel_rfl) (by kernel_rfl) (by kernel_rfl)) ?_
  intro W base args ds gs before hval0 hW hcnd _
  have hval : ∀ (j : Nat) t v, Try.f3.params[j]? = some t → args[j]? = some v → Value.okWide Try.prog W .any base t v := hval0
  have hW' := hW
  obtain ⟨p, q, hA0, hV, rfl, hfz, hnd⟩ := hW
  have hA : DataW.TrodAll enc Try.prog W 0 (fun _ => true) true Try.f3.params.toList args.toList ds p := hA0
  rw [Try.params3] at hA hval
  obtain ⟨v0, vs0, d0, ds0, p0, q0, hargs, rfl, rfl, h0, r0⟩ := trodAll_cons hA
  obtain ⟨v1, vs1, d1, ds1, p1, q1, rfl, rfl, rfl, h1, r1⟩ := trodAll_cons r0
  obtain ⟨v2, vs2, d2, ds2, p2, q2, rfl, rfl, rfl, h2, r2⟩ := trodAll_cons r1
  obtain ⟨v3, vs3, d3, ds3, p3, q3, rfl, rfl, rfl, h3, r3⟩ := trodAll_cons r2
  obtain ⟨v4, vs4, d4, ds4, p4, q4, rfl, rfl, rfl, h4, r4⟩ := trodAll_cons r3
  obtain ⟨rfl, rfl, rfl⟩ := trodAll_nil r4
  obtain rfl : args = #[v0, v1, v2, v3, v4] := by cases args; simp_all
  obtain ⟨rfl, rfl⟩ := trodVars_none hV
  obtain ⟨a0, rfl, rfl, rfl, w0⟩ := open_string Try.underlying9 (hval 0 9 v0 rfl rfl) h0
  obtain ⟨a1, rfl, rfl, rfl, w1⟩ := open_string Try.underlying9 (hval 1 9 v1 rfl rfl) h1
  obtain ⟨a2, rfl, rfl, rfl, w2⟩ := open_string Try.underlying9 (hval 2 9 v2 rfl rfl) h2
  obtain ⟨a3, rfl, rfl, rfl, w3⟩ := open_int Try.underlying2 (hval 3 2 v3 rfl rfl) h3
  obtain ⟨a4, rfl, rfl, rfl, w4⟩ := open_int Try.underlying2 (hval 4 2 v4 rfl rfl) h4
  clear hA0 hval0
  simp only [List.append_nil] at hW'
  refine (walk a0 a1 a2 a3 a4 w0 w1 w2 W).mono fun e W' ⟨he, hg⟩ => ?_
  subst he
  exact ⟨_, rfl, _, _, _, [], _, [], hW', trodAll_mk1 (shut_bool Try.underlying4 _), (trodAll_cons_mk (shut_string Try.underlying9 w0) (trodAll_cons_mk (shut_string Try.underlying9 w1) (trodAll_cons_mk (shut_string Try.underlying9 w2) (trodAll_cons_mk (shut_int Try.underlying2 w3) (trodAll_cons_mk (shut_int Try.underlying2 w4) trodAll_mk0))))), rfl, hg.frame _, fun h => by cases h⟩

theorem over : Rows.fnLinkThenUnlinkRestoresRow.holds Try.pinned (OpenSpec.ofChange Rows.fnLinkThenUnlinkRestoresSpec) :=
  OpenClaim.holds_of_wide 3 Try.f3 rfl rfl rfl rfl rfl rfl rfl ⟨rfl, rfl, rfl, rfl, rfl⟩ rfl rfl rfl rfl rfl (by kernel_rfl) Try.func3 (by kernel_rfl)
    (of_decide_eq_true (by kernel_rfl)) (by unfold Func.isWrapper; first | (rw [if_pos (by decide +kernel)]; kernel_rfl) | (rw [if_neg (by decide +kernel)]; exact ⟨rfl, rfl⟩))
    (fun os started H enc _ => lifted os started H enc)

/-- THE STATEMENT -/
theorem proved : Rows.FnLinkThenUnlinkRestoresSaid :=
  over
end Go.Proofs.Qxb6600164a.fnLinkThenUnlinkRestores
