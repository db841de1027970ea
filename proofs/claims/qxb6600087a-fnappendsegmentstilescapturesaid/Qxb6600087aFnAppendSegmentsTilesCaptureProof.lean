import Derived.Test.Qxb6600087aRows
import Derived.Test.Qxb6600087aTiles
import Derived.Test.Qxb6600087aOpen
namespace Go.Proofs.Qxb6600087a.fnAppendSegmentsTilesCapture
open Go.ChangeShapes Go.WideShapes Go.ChangeAt Go.RowKit
set_option linter.unusedVariables false

set_option maxRecDepth 100000 in
set_option maxHeartbeats 1000000 in
theorem tiles_nil (w : World) : Calls Try.prog 5 #[.slice none 0 0] w (Fine w) := by
  obtain ⟨G⟩ : Nonempty (Nat → Frm) := ⟨fun _ => ⟨0, 0⟩⟩
  go_enter Try.func5, Try.ntmps5
  go_wp2_with fail
  refine (zz11 none 0 0 w (by unfold maxLen; omega)).mono ?_
  rintro e w1 ⟨⟨r, rfl, -⟩, rfl⟩
  cases r with
  | false =>
    go_wp2
    go_ret
    exact .mk rfl (Below.refl _ _)
  | true =>
    go_wp2_with fail
    refine (frames_nil w1).mono ?_
    rintro e w2 ⟨rfl, rfl⟩
    go_wp2_with fail
    refine (cut_nil none none 0 0 0 0 G w2.heap.size w2 (fun h => absurd h (by omega)) (by omega) (fun k hk => absurd hk (by omega)) (fun h => absurd h (by omega)) (World.ownsRow_nil _ _ _ _) (Nat.le_refl _)).mono ?_
    rintro e w3 ⟨v', rfl, hcut⟩
    have hown := hcut.owns
    have hb := hcut.below
    clear hcut
    have h0 : (runR 0 G [] 0).length = 0 := rfl
    rw [h0] at hown
    obtain ⟨ao, cap2, rfl, hao⟩ := owns_shape hown
    clear hown hao
    go_wp2_with fail
    refine wp_loop_rounds 1 ?_
    rw [rounds_succ]
    go_wp2
    go_ret
    exact .mk rfl hb

/-! ### THE ROW's STEP -/
set_option maxRecDepth 100000 in
theorem lifted (os : Os) (started : os.Started) (H : Type) (enc : TypeId × Value → H) :
    ReturnsInHanded {} Try.checked os 5 .any (Rows.fnAppendSegmentsTilesCaptureSpec.pre6 enc Try.prog Try.f5 Rows.fnAppendSegmentsTilesCaptureRow.domain false) (Rows.fnAppendSegmentsTilesCaptureSpec.post enc Try.prog Try.f5 false true false false) := by
  refine returnsInHanded_of_change (C := Try.checked) own started (by kernel_rfl) Try.func5
    (ChangeSpec.witness6 (enc := enc) (C := Try.checked) false ⟨#[], #[.slice none 0 0], []⟩ 8 (by kernel_rfl) (by kernel_rfl) (by kernel_rfl) (by kernel_rfl)) ?_
  intro W base args ds gs before hval0 hW hcnd _
  have hval : ∀ (j : Nat) t v, Try.f5.params[j]? = some t → args[j]? = some v → Value.okWide Try.prog W .any base t v := hval0
  have hW' := hW
  obtain ⟨p, q, hA0, hV, rfl, hfz, hnd⟩ := hW
  have hA : DataW.TrodAll enc Try.prog W 0 (fun _ => true) true Try.f5.params.toList args.toList ds p := hA0
  rw [Try.params5] at hA hval
  obtain ⟨v0, vs0, d0, ds0, p0, q0, hargs, rfl, rfl, h0, r0⟩ := trodAll_cons hA
  obtain ⟨rfl, rfl, rfl⟩ := trodAll_nil r0
  obtain rfl : args = #[v0] := by cases args; simp_all
  obtain ⟨rfl, rfl⟩ := trodVars_none hV
  obtain ⟨a0, len0, cap0, rfl⟩ := okWide_slice Try.underlying28 (hval 0 28 v0 rfl rfl)
  have k0 := h0
  have lt0 : ∀ x ∈ p0, x.block < W.heap.size := by obtain ⟨m, hm⟩ := k0; exact DataW.trod_lt m _ _ _ hm
  have walk : Calls Try.prog 5 #[.slice a0 len0 cap0] W (Fine W) := by
    obtain ⟨fuel, hf⟩ := h0
    rcases open_frames (show DataW.trod enc Try.prog W 0 (fun _ => true) true fuel 28 [.slice a0 len0 cap0] = some _ from hf) with ⟨rfl, rfl, rfl⟩ | ⟨a, G, rfl, ha, hm, hc⟩
    · exact tiles_nil W
    · exact tiles_some a a.block a.off cap0 len0 G W ha hm hc
  clear hA0 hval0
  refine walk.mono fun e W' ⟨he, bel⟩ => ?_
  subst he
  exact ⟨_, rfl, _, _, _, [], _, [], hW', trodAll_mk1 (shut_bool Try.underlying4 _), (trodAll_cons_mk (Below.trod laidOut (by kernel_rfl) (of_decide_eq_true (by kernel_rfl)) k0 bel lt0) trodAll_mk0), rfl, bel.frame _, fun h => by cases h⟩

theorem over : Rows.fnAppendSegmentsTilesCaptureRow.holds Try.pinned (OpenSpec.ofChange Rows.fnAppendSegmentsTilesCaptureSpec) :=
  OpenClaim.holds_of_wide 5 Try.f5 rfl rfl rfl rfl rfl rfl rfl ⟨rfl, rfl, rfl, rfl, rfl⟩ rfl rfl rfl rfl rfl (by kernel_rfl) Try.func5 (by kernel_rfl)
    (of_decide_eq_true (by kernel_rfl)) (by unfold Func.isWrapper; first | (rw [if_pos (by decide +kernel)]; kernel_rfl) | (rw [if_neg (by decide +kernel)]; exact ⟨rfl, rfl⟩))
    (fun os started H enc _ => lifted os started H enc)

/-- THE STATEMENT -/
theorem proved : Rows.FnAppendSegmentsTilesCaptureSaid := over
end Go.Proofs.Qxb6600087a.fnAppendSegmentsTilesCapture
