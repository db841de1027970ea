import Derived.Test.Qxb6600164aRows
import Derived.Test.Qxb6600164aSixWalk
import Derived.Test.Qxb6600164aSixOpen
namespace Go.Proofs.Qxb6600164a.fnLinkUnlinkScriptKeepsIndex
open Go.ChangeShapes Go.WideShapes Go.ChangeAt Go.RowKit
set_option linter.unusedVariables false

section
variable (ao bo co : Option Addr) (n lb lc ca cb cc : Nat) (nm : Nat → ByteArray) (owf : Nat → Int) (opf : Nat → Nat) (W : World)

set_option maxHeartbeats 2000000 in
set_option maxRecDepth 100000 in
theorem many (hn : InS W ao n (fun k => .string (nm k))) (hsz : ∀ k, k < n → (nm k).size ≤ maxLen) (m0 : n ≤ maxLen) (m1 : lb ≤ maxLen) (m2 : lc ≤ maxLen) (h : 4096 < n ∨ (n ≤ 4096 ∧ 65536 < lb) ∨ (n ≤ 4096 ∧ lb ≤ 65536 ∧ 65536 < lc)) :
    Calls Try.prog 4 #[.slice ao n ca, .slice bo lb cb, .slice co lc cc] W (Fine W) := by
  have Z := zz19 ao bo co n lb lc ca cb cc nm W hn hsz m0 m1 m2
  unfold maxLen at m0 m1 m2
  clear hn hsz
  rcases h with h | ⟨h, h'⟩ | ⟨h, h', h''⟩
  · have h1 : (4096 : Int) < (n : Int) := by omega
    go_enter Try.func4, Try.ntmps4
    go_wp2_with fail
    refine Z.mono ?_
    rintro _ _ ⟨⟨r, rfl, -⟩, rfl⟩
    clear Z
    cases r
    · go_wp2
      go_ret
      exact .mk rfl (Below.refl _ _)
    · go_wp2
      go_ret
      exact .mk rfl (Below.refl _ _)
  · have h1 : (n : Int) ≤ 4096 := by omega
    have h2 : (65536 : Int) < (lb : Int) := by omega
    go_enter Try.func4, Try.ntmps4
    go_wp2_with fail
    refine Z.mono ?_
    rintro _ _ ⟨⟨r, rfl, -⟩, rfl⟩
    clear Z
    cases r
    · go_wp2
      go_ret
      exact .mk rfl (Below.refl _ _)
    · go_wp2
      go_ret
      exact .mk rfl (Below.refl _ _)
  · have h1 : (n : Int) ≤ 4096 := by omega
    have h2 : (lb : Int) ≤ 65536 := by omega
    have h3 : (65536 : Int) < (lc : Int) := by omega
    go_enter Try.func4, Try.ntmps4
    go_wp2_with fail
    refine Z.mono ?_
    rintro _ _ ⟨⟨r, rfl, -⟩, rfl⟩
    clear Z
    cases r
    · go_wp2
      go_ret
      exact .mk rfl (Below.refl _ _)
    · go_wp2
      go_ret
      exact .mk rfl (Below.refl _ _)

set_option maxHeartbeats 2000000 in
set_option maxRecDepth 100000 in
theorem none_ (hn : InS W ao 0 (fun k => .string (nm k))) (lb1 : lb ≤ 65536) (lc1 : lc ≤ 65536) :
    Calls Try.prog 4 #[.slice ao 0 ca, .slice bo lb cb, .slice co lc cc] W (Fine W) := by
  have Z := zz19 ao bo co 0 lb lc ca cb cc nm W hn (fun k hk => absurd hk (by omega)) (by unfold maxLen; omega) (by unfold maxLen; omega) (by unfold maxLen; omega)
  have lb1' : (lb : Int) ≤ 65536 := by omega
  have lc1' : (lc : Int) ≤ 65536 := by omega
  clear hn
  go_enter Try.func4, Try.ntmps4
  go_wp2_with fail
  refine Z.mono ?_
  rintro _ _ ⟨⟨r, rfl, -⟩, rfl⟩
  clear Z
  cases r
  · go_wp2
    go_ret
    exact .mk rfl (Below.refl _ _)
  · go_wp2_with fail
    refine wp_loop_rounds 1 ?_
    rw [rounds_succ]
    go_wp2
    go_ret
    exact .mk rfl (Below.refl _ _)

theorem six (hn : InS W ao n (fun k => .string (nm k))) (hb : InS W bo lb (fun k => .int .i64 (owf k))) (hc : InS W co lc (fun k => .int .u16 (opf k : Nat)))
    (hsz : ∀ k, k < n → (nm k).size ≤ maxLen) (m0 : n ≤ maxLen) (m1 : lb ≤ maxLen) (m2 : lc ≤ maxLen) (hop : ∀ k, k < lc → opf k < 65536) :
    Calls Try.prog 4 #[.slice ao n ca, .slice bo lb cb, .slice co lc cc] W (Fine W) := by
  by_cases h1 : n ≤ 4096
  · by_cases h2 : lb ≤ 65536
    · by_cases h3 : lc ≤ 65536
      · cases n with
        | zero => exact none_ ao bo co lb lc ca cb cc nm W hn h2 h3
        | succ n => exact six_some ao bo co (n + 1) lb lc ca cb cc nm owf opf W hn hb hc hsz (by omega) h1 h2 h3 hop
      · exact many ao bo co n lb lc ca cb cc nm W hn hsz m0 m1 m2 (.inr (.inr ⟨h1, h2, by omega⟩))
    · exact many ao bo co n lb lc ca cb cc nm W hn hsz m0 m1 m2 (.inr (.inl ⟨h1, by omega⟩))
  · exact many ao bo co n lb lc ca cb cc nm W hn hsz m0 m1 m2 (.inl (by omega))
end

/-! ### THE ROW's STEP -/
set_option maxRecDepth 100000 in
theorem lifted (os : Os) (started : os.Started) (H : Type) (enc : TypeId × Value → H) :
    ReturnsInHanded {} Try.checked os 4 .any (Rows.fnLinkUnlinkScriptKeepsIndexSpec.pre6 enc Try.prog Try.f4 Rows.fnLinkUnlinkScriptKeepsIndexRow.domain false) (Rows.fnLinkUnlinkScriptKeepsIndexSpec.post enc Try.prog Try.f4 false true false false) := by
  refine returnsInHanded_of_change (C := Try.checked) own started (by kernel_rfl) Try.func4
    (ChangeSpec.witness6 (enc := enc) (C := Try.checked) false ⟨#[], #[.slice none 0 0, .slice none 0 0, .slice none 0 0], []⟩ 8 (by kernel_rfl) (by kernel_rfl) (by kernel_rfl) (by kernel_rfl)) ?_
  intro W base args ds gs before hval0 hW hcnd _
  have hval : ∀ (j : Nat) t v, Try.f4.params[j]? = some t → args[j]? = some v → Value.okWide Try.prog W .any base t v := hval0
  have hW' := hW
  obtain ⟨p, q, hA0, hV, rfl, hfz, hnd⟩ := hW
  have hA : DataW.TrodAll enc Try.prog W 0 (fun _ => true) true Try.f4.params.toList args.toList ds p := hA0
  rw [Try.params4] at hA hval
  obtain ⟨v0, vs0, d0, ds0, p0, q0, hargs, rfl, rfl, h0, r0⟩ := trodAll_cons hA
  obtain ⟨v1, vs1, d1, ds1, p1, q1, rfl, rfl, rfl, h1, r1⟩ := trodAll_cons r0
  obtain ⟨v2, vs2, d2, ds2, p2, q2, rfl, rfl, rfl, h2, r2⟩ := trodAll_cons r1
  obtain ⟨rfl, rfl, rfl⟩ := trodAll_nil r2
  obtain rfl : args = #[v0, v1, v2] := by cases args; simp_all
  obtain ⟨rfl, rfl⟩ := trodVars_none hV
  obtain ⟨a0, len0, cap0, rfl⟩ := okWide_slice Try.underlying37 (hval 0 37 v0 rfl rfl)
  obtain ⟨a1, len1, cap1, rfl⟩ := okWide_slice Try.underlying38 (hval 1 38 v1 rfl rfl)
  obtain ⟨a2, len2, cap2, rfl⟩ := okWide_slice Try.underlying39 (hval 2 39 v2 rfl rfl)
  have k0 := h0
  have k1 := h1
  have k2 := h2
  have lt0 : ∀ x ∈ p0, x.block < W.heap.size := by obtain ⟨m, hm⟩ := k0; exact DataW.trod_lt m _ _ _ hm
  have lt1 : ∀ x ∈ p1, x.block < W.heap.size := by obtain ⟨m, hm⟩ := k1; exact DataW.trod_lt m _ _ _ hm
  have lt2 : ∀ x ∈ p2, x.block < W.heap.size := by obtain ⟨m, hm⟩ := k2; exact DataW.trod_lt m _ _ _ hm
  have walk : Calls Try.prog 4 #[.slice a0 len0 cap0, .slice a1 len1 cap1, .slice a2 len2 cap2] W (Fine W) := by
    obtain ⟨fuel0, hf0⟩ := h0
    obtain ⟨fuel1, hf1⟩ := h1
    obtain ⟨fuel2, hf2⟩ := h2
    obtain ⟨nm, i0, m0, z0⟩ := open_names (show DataW.trod enc Try.prog W 0 (fun _ => true) true fuel0 37 [.slice a0 len0 cap0] = some _ from hf0)
    obtain ⟨owf, i1, m1⟩ := open_owners (show DataW.trod enc Try.prog W 0 (fun _ => true) true fuel1 38 [.slice a1 len1 cap1] = some _ from hf1)
    obtain ⟨opf, i2, m2, z2⟩ := open_ops (show DataW.trod enc Try.prog W 0 (fun _ => true) true fuel2 39 [.slice a2 len2 cap2] = some _ from hf2)
    exact six a0 a1 a2 len0 len1 len2 cap0 cap1 cap2 nm owf opf W i0 i1 i2 z0 m0 m1 m2 z2
  clear hA0 hval0
  refine walk.mono fun e W' ⟨he, bel⟩ => ?_
  subst he
  exact ⟨_, rfl, _, _, _, [], _, [], hW', trodAll_mk1 (shut_bool Try.underlying4 _), (trodAll_cons_mk (Below.trod laidOut (by kernel_rfl) (of_decide_eq_true (by kernel_rfl)) k0 bel lt0) (trodAll_cons_mk (Below.trod laidOut (by kernel_rfl) (of_decide_eq_true (by kernel_rfl)) k1 bel lt1) (trodAll_cons_mk (Below.trod laidOut (by kernel_rfl) (of_decide_eq_true (by kernel_rfl)) k2 bel lt2) trodAll_mk0))), rfl, bel.frame _, fun h => by cases h⟩

theorem over : Rows.fnLinkUnlinkScriptKeepsIndexRow.holds Try.pinned (OpenSpec.ofChange Rows.fnLinkUnlinkScriptKeepsIndexSpec) :=
  OpenClaim.holds_of_wide 4 Try.f4 rfl rfl rfl rfl rfl rfl rfl ⟨rfl, rfl, rfl, rfl, rfl⟩ rfl rfl rfl rfl rfl (by kernel_rfl) Try.func4 (by kernel_rfl)
    (of_decide_eq_true (by kernel_rfl)) (by unfold Func.isWrapper; first | (rw [if_pos (by decide +kernel)]; kernel_rfl) | (rw [if_neg (by decide +kernel)]; exact ⟨rfl, rfl⟩))
    (fun os started H enc _ => lifted os started H enc)

/-- THE STATEMENT -/
theorem proved : Rows.FnLinkUnlinkScriptKeepsIndexSaid := over
end Go.Proofs.Qxb6600164a.fnLinkUnlinkScriptKeepsIndex
