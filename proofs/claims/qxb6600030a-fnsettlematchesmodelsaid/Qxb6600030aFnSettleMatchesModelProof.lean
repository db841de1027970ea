import Derived.Test.Qxb6600030aRows
import Derived.Test.Qxb6600030aTop
import Derived.WalkKit
import Derived.ProofKit
import Derived.OpenShut
import Derived.ShutString
import Derived.ChangeOld
import Derived.Below
import Derived.Carry
import Derived.Deep.Slices
namespace Go.Proofs.Qxb6600030a.fnSettleMatchesModel
open Go.ChangeShapes Go.WideShapes Go.ChangeAt Go.RowKit
set_option linter.unusedVariables false

theorem own : ownKnob Try.prog.godebug = none := by kernel_rfl
theorem laidOut : laidOutB Try.prog = true := by kernel_rfl
theorem cells38 : Try.prog.cellsOf 38 = 6 := by kernel_rfl
theorem cells5 : Try.prog.cellsOf 5 = 1 := by kernel_rfl
theorem cells4 : Try.prog.cellsOf 4 = 1 := by kernel_rfl
theorem cells9 : Try.prog.cellsOf 9 = 1 := by kernel_rfl
theorem cells2 : Try.prog.cellsOf 2 = 1 := by kernel_rfl

theorem cell_at {w : World} {a : Addr} {i : Nat} {v : Value} (h : w.cell? (a.add i) = some v) (h0 : w.cell? a ≠ none) : w.cell? ⟨a.block, a.off + i, none⟩ = some v := by
  have hs : a.spot = none := by
    unfold World.cell? at h0
    cases hsp : a.spot with
    | none => rfl
    | some s =>
      exfalso; apply h0
      split
      · simp [hsp]
      · rfl
  unfold Addr.add at h
  split at h
  · rename_i e
    subst e
    rw [Nat.add_zero, show (⟨a.block, a.off, none⟩ : Addr) = a by cases a; simp_all]
    exact h
  · exact h

/-- One operation out of its reading. -/
theorem open_op {H : Type} {enc : TypeId × Value → H} {W : World} {n : Nat} {cs : List Value} {x : DataW H × List MemPlace} (h : DataW.trod enc Try.prog W 0 (fun _ => true) true n 38 cs = some x) :
    ∃ o : SOp, cs = [.int .u8 o.kind, .bool o.hasV, .string o.val, .int .i64 o.call, .bool o.hasR, .int .i64 o.ret] ∧ o.val.size ≤ maxLen := by
  obtain ⟨xs, k, hk, hxy, hcl, hxl, hf⟩ := DataW.trod_struct Try.underlying38 h
  rw [cells38] at hcl
  match cs, hcl with
  | [v0, v1, v2, v3, v4, v5], _ =>
    match xs, hxl with
    | [y0, y1, y2, y3, y4, y5], _ =>
      have g0 := hf 0 _ rfl
      have g1 := hf 1 _ rfl
      have g2 := hf 2 _ rfl
      have g3 := hf 3 _ rfl
      have g4 := hf 4 _ rfl
      have g5 := hf 5 _ rfl
      simp [cells5, cells4, cells9, cells2] at g0 g1 g2 g3 g4 g5
      obtain ⟨a0, e0, _, _⟩ := DataW.trod_int Try.underlying5 g0
      obtain ⟨a1, e1, _⟩ := DataW.trod_bool Try.underlying4 g1
      obtain ⟨a2, e2, _, hs⟩ := DataW.trod_string Try.underlying9 g2
      obtain ⟨a3, e3, _, _⟩ := DataW.trod_int Try.underlying2 g3
      obtain ⟨a4, e4, _⟩ := DataW.trod_bool Try.underlying4 g4
      obtain ⟨a5, e5, _, _⟩ := DataW.trod_int Try.underlying2 g5
      simp at e0 e1 e2 e3 e4 e5
      subst e0 e1 e2 e3 e4 e5
      exact ⟨⟨a0, a1, a2, a3, a4, a5⟩, rfl, hs⟩

theorem open_ops {H : Type} {enc : TypeId × Value → H} {W : World} {fuel : Nat} {ao : Option Addr} {len cap : Nat} {x : DataW H × List MemPlace}
    (h : DataW.trod enc Try.prog W 0 (fun _ => true) true fuel 22 [.slice ao len cap] = some x) :
    (ao = none ∧ len = 0 ∧ cap = 0) ∨ ∃ (a : Addr) (F : Nat → SOp), ao = some a ∧ (0 < len → a = ⟨a.block, a.off, none⟩) ∧ len ≤ maxLen ∧ (∀ k, k < len → (F k).val.size ≤ maxLen) ∧ ∀ k, k < len → OpAt W a.block a.off k (F k) := by
  rcases Deep.open_slice Try.underlying22 h with ⟨hcs, _⟩ | ⟨a, l, c, m, n, D, Pl, hcs, _, hl, hm, hmm, _, hx⟩
  · simp at hcs
    exact .inl hcs
  · simp at hcs
    obtain ⟨rfl, rfl, rfl⟩ := hcs
    right
    simp only [if_true] at hmm
    subst hmm
    rw [cells38] at hx
    have each : ∀ i, i < len → ∃ o : SOp, o.val.size ≤ maxLen ∧ ∀ j v, [Value.int .u8 o.kind, .bool o.hasV, .string o.val, .int .i64 o.call, .bool o.hasR, .int .i64 o.ret][j]? = some v → W.cell? (a.add (i * 6 + j)) = some v := by
      intro i hi
      obtain ⟨cs, h1, h2⟩ := hx i (by omega)
      obtain ⟨_, hlen, hcell⟩ := World.cells?_some h1
      obtain ⟨o, rfl, hs⟩ := open_op h2
      refine ⟨o, hs, fun j v hj => ?_⟩
      have hj6 : j < 6 := by
        rcases Nat.lt_or_ge j 6 with h | h
        · exact h
        · rw [List.getElem?_eq_none (by simpa using h)] at hj; cases hj
      have := hcell j hj6
      rw [Deep.add_add] at this
      rw [this]; exact hj
    haveI : Inhabited SOp := ⟨⟨0, false, ⟨#[]⟩, 0, false, 0⟩⟩
    obtain ⟨F, hF⟩ := Deep.choose_lt each
    have hne : 0 < len → W.cell? a ≠ none := by
      intro h0
      have := (hF 0 h0).2 0 _ rfl
      simp [Addr.add] at this
      rw [this]; simp
    refine ⟨a, F, rfl, fun h0 => ?_, by omega, fun k hk => (hF k hk).1, fun k hk => ?_⟩
    · have h1 := hne h0
      have hs : a.spot = none := by
        cases hsp : a.spot with
        | none => rfl
        | some s =>
          exfalso; apply h1
          unfold World.cell?
          split
          · simp [hsp]
          · rfl
      cases a; simp_all
    · have h1 := hne (by omega)
      have hj := (hF k hk).2
      exact ⟨cell_at (i := k * 6) (by simpa using hj 0 _ rfl) h1, by have := cell_at (hj 1 _ rfl) h1; rwa [← Nat.add_assoc] at this, by have := cell_at (hj 2 _ rfl) h1; rwa [← Nat.add_assoc] at this,
        by have := cell_at (hj 3 _ rfl) h1; rwa [← Nat.add_assoc] at this, by have := cell_at (hj 4 _ rfl) h1; rwa [← Nat.add_assoc] at this, by have := cell_at (hj 5 _ rfl) h1; rwa [← Nat.add_assoc] at this⟩

/-! ### THE ROW's STEP -/
set_option maxRecDepth 100000 in
theorem lifted (os : Os) (started : os.Started) (H : Type) (enc : TypeId × Value → H) :
    ReturnsInHanded {} Try.checked os 3 .any (Rows.fnSettleMatchesModelSpec.pre6 enc Try.prog Try.f3 Rows.fnSettleMatchesModelRow.domain false) (Rows.fnSettleMatchesModelSpec.post enc Try.prog Try.f3 false true false false) := by
  refine returnsInHanded_of_change (C := Try.checked) own started (by kernel_rfl) Try.func3
    (ChangeSpec.witness6 (enc := enc) (C := Try.checked) false ⟨#[], #[.slice none 0 0], []⟩ 8 (by kernel_rfl) (by kernel_rfl) (by kernel_rfl) (by kernel_rfl)) ?_
  intro W base args ds gs before hval0 hW hcnd _
  have hval : ∀ (j : Nat) t v, Try.f3.params[j]? = some t → args[j]? = some v → Value.okWide Try.prog W .any base t v := hval0
  have hW' := hW
  obtain ⟨p, q, hA0, hV, rfl, hfz, hnd⟩ := hW
  have hA : DataW.TrodAll enc Try.prog W 0 (fun _ => true) true Try.f3.params.toList args.toList ds p := hA0
  rw [Try.params3] at hA hval
  obtain ⟨v0, vs0, d0, ds0, p0, q0, hargs, rfl, rfl, h0, r0⟩ := trodAll_cons hA
  obtain ⟨rfl, rfl, rfl⟩ := trodAll_nil r0
  obtain rfl : args = #[v0] := by cases args; simp_all
  obtain ⟨rfl, rfl⟩ := trodVars_none hV
  obtain ⟨a0, len0, cap0, rfl⟩ := okWide_slice Try.underlying22 (hval 0 22 v0 rfl rfl)
  have k0 := h0
  have lt0 : ∀ x ∈ p0, x.block < W.heap.size := by obtain ⟨m, hm⟩ := k0; exact DataW.trod_lt m _ _ _ hm
  have walk : Calls Try.prog 3 #[.slice a0 len0 cap0] W (Fine W) := by
    obtain ⟨fuel, hf⟩ := h0
    rcases open_ops (show DataW.trod enc Try.prog W 0 (fun _ => true) true fuel 22 [.slice a0 len0 cap0] = some _ from hf) with ⟨rfl, rfl, rfl⟩ | ⟨a, F, rfl, ha, hm, hs, hc⟩
    · exact law_nil W
    · exact law_some a a.block a.off cap0 len0 F W ha hm hs hc
  clear hA0 hval0
  refine walk.mono fun e W' ⟨he, bel⟩ => ?_
  subst he
  exact ⟨_, rfl, _, _, _, [], _, [], hW', trodAll_mk1 (shut_bool Try.underlying4 _), (trodAll_cons_mk (Below.trod laidOut (by kernel_rfl) (of_decide_eq_true (by kernel_rfl)) k0 bel lt0) trodAll_mk0), rfl, bel.frame _, fun h => by cases h⟩

theorem over : Rows.fnSettleMatchesModelRow.holds Try.pinned (OpenSpec.ofChange Rows.fnSettleMatchesModelSpec) :=
  OpenClaim.holds_of_wide 3 Try.f3 rfl rfl rfl rfl rfl rfl rfl ⟨rfl, rfl, rfl, rfl, rfl⟩ rfl rfl rfl rfl rfl (by kernel_rfl) Try.func3 (by kernel_rfl)
    (of_decide_eq_true (by kernel_rfl)) (by unfold Func.isWrapper; first | (rw [if_pos (by decide +kernel)]; kernel_rfl) | (rw [if_neg (by decide +kernel)]; exact ⟨rfl, rfl⟩))
    (fun os started H enc _ => lifted os started H enc)

/-- THE STATEMENT -/
theorem proved : Rows.FnSettleMatchesModelSaid := over
end Go.Proofs.Qxb6600030a.fnSettleMatchesModel
