import Derived.Test.Qxb6600087aRows
import Derived.Test.Qxb6600087aKeepCons
import Derived.Test.Qxb6600087aKeepNil
import Derived.Test.Qxb6600087aOpen
namespace Go.Proofs.Qxb6600087a.fnAppendSegmentsKeepsEarlierSegments
open Go.ChangeShapes Go.WideShapes Go.ChangeAt Go.RowKit
set_option linter.unusedVariables false

/-! ### THE ROW's STEP -/
set_option maxRecDepth 100000 in
theorem lifted (os : Os) (started : os.Started) (H : Type) (enc : TypeId × Value → H) :
    ReturnsInHanded {} Try.checked os 6 .any (Rows.fnAppendSegmentsKeepsEarlierSegmentsSpec.pre6 enc Try.prog Try.f6 Rows.fnAppendSegmentsKeepsEarlierSegmentsRow.domain false) (Rows.fnAppendSegmentsKeepsEarlierSegmentsSpec.post enc Try.prog Try.f6 false true false false) := by
  refine returnsInHanded_of_change (C := Try.checked) own started (by kernel_rfl) Try.func6
    (ChangeSpec.witness6 (enc := enc) (C := Try.checked) false ⟨#[], #[.slice none 0 0, .slice none 0 0], []⟩ 8 (by kernel_rfl) (by kernel_rfl) (by kernel_rfl) (by kernel_rfl)) ?_
  intro W base args ds gs before hval0 hW hcnd _
  have hval : ∀ (j : Nat) t v, Try.f6.params[j]? = some t → args[j]? = some v → Value.okWide Try.prog W .any base t v := hval0
  have hW' := hW
  obtain ⟨p, q, hA0, hV, rfl, hfz, hnd⟩ := hW
  have hA : DataW.TrodAll enc Try.prog W 0 (fun _ => true) true Try.f6.params.toList args.toList ds p := hA0
  rw [Try.params6] at hA hval
  obtain ⟨v0, vs0, d0, ds0, p0, q0, hargs, rfl, rfl, h0, r0⟩ := trodAll_cons hA
  obtain ⟨v1, vs1, d1, ds1, p1, q1, rfl, rfl, rfl, h1, r1⟩ := trodAll_cons r0
  obtain ⟨rfl, rfl, rfl⟩ := trodAll_nil r1
  obtain rfl : args = #[v0, v1] := by cases args; simp_all
  obtain ⟨rfl, rfl⟩ := trodVars_none hV
  obtain ⟨a0, len0, cap0, rfl⟩ := okWide_slice Try.underlying37 (hval 0 37 v0 rfl rfl)
  obtain ⟨a1, len1, cap1, rfl⟩ := okWide_slice Try.underlying28 (hval 1 28 v1 rfl rfl)
  have k0 := h0
  have k1 := h1
  have lt0 : ∀ x ∈ p0, x.block < W.heap.size := by obtain ⟨m, hm⟩ := k0; exact DataW.trod_lt m _ _ _ hm
  have lt1 : ∀ x ∈ p1, x.block < W.heap.size := by obtain ⟨m, hm⟩ := k1; exact DataW.trod_lt m _ _ _ hm
  have walk : Calls Try.prog 6 #[.slice a0 len0 cap0, .slice a1 len1 cap1] W (Fine W) := by
    obtain ⟨fuel0, hf0⟩ := h0
    obtain ⟨fuel1, hf1⟩ := h1
    obtain ⟨b1, o1, G, H1, hm1, hc1⟩ : ∃ (b1 o1 : Nat) (G : Nat → Frm), NilOr a1 len1 cap1 b1 o1 ∧ len1 ≤ maxLen ∧ ∀ k, k < len1 → FrAt W b1 o1 k (G k) := by
      rcases open_frames (show DataW.trod enc Try.prog W 0 (fun _ => true) true fuel1 28 [.slice a1 len1 cap1] = some _ from hf1) with ⟨rfl, rfl, rfl⟩ | ⟨a, G, rfl, ha, hm, hc⟩
      · exact ⟨0, 0, fun _ => ⟨0, 0⟩, .inl ⟨rfl, rfl, rfl⟩, Nat.zero_le _, fun k hk => absurd hk (by omega)⟩
      · exact ⟨a.block, a.off, G, .inr ⟨a, rfl, ha⟩, hm, hc⟩
    rcases open_segs (show DataW.trod enc Try.prog W 0 (fun _ => true) true fuel0 37 [.slice a0 len0 cap0] = some _ from hf0) with ⟨rfl, rfl, rfl⟩ | ⟨a, F, rfl, ha, hm, hw, hc⟩
    · exact keep_nil none a1 0 0 0 b1 o1 cap1 len1 (fun _ => ⟨0, 0, 0, 0, 0, 0, 0⟩) G W (Nat.zero_le _) hm1 (.inl ⟨rfl, rfl, rfl⟩) H1 hc1
    · cases len0 with
      | zero => exact keep_nil (some a) a1 0 0 cap0 b1 o1 cap1 len1 F G W (Nat.zero_le _) hm1 (.inr ⟨a, rfl, fun h => absurd h (by omega)⟩) H1 hc1
      | succ q =>
        have := keep_cons a1 a.block a.off cap0 b1 o1 cap1 q len1 F G W hm hm1 H1 hw hc hc1
        rw [← ha (by omega)] at this
        exact this
  clear hA0 hval0
  refine walk.mono fun e W' ⟨he, bel⟩ => ?_
  subst he
  exact ⟨_, rfl, _, _, _, [], _, [], hW', trodAll_mk1 (shut_bool Try.underlying4 _), (trodAll_cons_mk (Below.trod laidOut (by kernel_rfl) (of_decide_eq_true (by kernel_rfl)) k0 bel lt0) (trodAll_cons_mk (Below.trod laidOut (by kernel_rfl) (of_decide_eq_true (by kernel_rfl)) k1 bel lt1) trodAll_mk0)), rfl, bel.frame _, fun h => by cases h⟩

theorem over : Rows.fnAppendSegmentsKeepsEarlierSegmentsRow.holds Try.pinned (OpenSpec.ofChange Rows.fnAppendSegmentsKeepsEarlierSegmentsSpec) :=
  OpenClaim.holds_of_wide 6 Try.f6 rfl rfl rfl rfl rfl rfl rfl ⟨rfl, rfl, rfl, rfl, rfl⟩ rfl rfl rfl rfl rfl (by kernel_rfl) Try.func6 (by kernel_rfl)
    (of_decide_eq_true (by kernel_rfl)) (by unfold Func.isWrapper; first | (rw [if_pos (by decide +kernel)]; kernel_rfl) | (rw [if_neg (by decide +kernel)]; exact ⟨rfl, rfl⟩))
    (fun os started H enc _ => lifted os started H enc)

/-- THE STATEMENT -/
theorem proved : Rows.FnAppendSegmentsKeepsEarlierSegmentsSaid := over
end Go.Proofs.Qxb6600087a.fnAppendSegmentsKeepsEarlierSegments
