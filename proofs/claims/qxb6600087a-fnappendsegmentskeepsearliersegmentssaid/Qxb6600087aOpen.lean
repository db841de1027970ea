import Derived.Test.Qxb6600087aSegs
import Derived.OpenShut
import Derived.ShutString
import Derived.ChangeOld
import Derived.Below
import Derived.Carry
import Derived.Deep.Slices
namespace Go.Proofs.Qxb6600087a
open Go.ChangeShapes Go.WideShapes Go.ChangeAt Go.RowKit

theorem own : ownKnob Try.prog.godebug = none := by kernel_rfl
theorem laidOut : laidOutB Try.prog = true := by kernel_rfl
theorem cells40 : Try.prog.cellsOf 40 = 2 := by kernel_rfl
theorem cells43 : Try.prog.cellsOf 43 = 7 := by kernel_rfl
theorem cells22 : Try.prog.cellsOf 22 = 1 := by kernel_rfl
theorem cells5 : Try.prog.cellsOf 5 = 1 := by kernel_rfl
theorem cells3 : Try.prog.cellsOf 3 = 1 := by kernel_rfl

theorem spot_none {w : World} {a : Addr} (h0 : w.cell? a ≠ none) : a.spot = none := by
  unfold World.cell? at h0
  cases hsp : a.spot with
  | none => rfl
  | some s =>
    exfalso; apply h0
    split
    · simp [hsp]
    · rfl

theorem cell_at {w : World} {a : Addr} {i : Nat} {v : Value} (h : w.cell? (a.add i) = some v) (h0 : w.cell? a ≠ none) : w.cell? ⟨a.block, a.off + i, none⟩ = some v := by
  have hs := spot_none h0
  unfold Addr.add at h
  split at h
  · rename_i e
    subst e
    rw [Nat.add_zero, show (⟨a.block, a.off, none⟩ : Addr) = a by cases a; simp_all]
    exact h
  · exact h

theorem open_frm {H : Type} {enc : TypeId × Value → H} {W : World} {n : Nat} {cs : List Value} {x : DataW H × List MemPlace} (h : DataW.trod enc Try.prog W 0 (fun _ => true) true n 40 cs = some x) :
    ∃ f : Frm, cs = [.int .i16 f.l, .int .i16 f.r] := by
  obtain ⟨xs, k, hk, hxy, hcl, hxl, hf⟩ := DataW.trod_struct Try.underlying40 h
  rw [cells40] at hcl
  match cs, hcl with
  | [v0, v1], _ =>
    match xs, hxl with
    | [y0, y1], _ =>
      have g0 := hf 0 _ rfl
      have g1 := hf 1 _ rfl
      simp [cells22] at g0 g1
      obtain ⟨a0, e0, _, _⟩ := DataW.trod_int Try.underlying22 g0
      obtain ⟨a1, e1, _, _⟩ := DataW.trod_int Try.underlying22 g1
      simp at e0 e1
      subst e0 e1
      exact ⟨⟨a0, a1⟩, rfl⟩

theorem open_seg {H : Type} {enc : TypeId × Value → H} {W : World} {n : Nat} {cs : List Value} {x : DataW H × List MemPlace} (h : DataW.trod enc Try.prog W 0 (fun _ => true) true n 43 cs = some x) :
    ∃ s : Seg, cs = cellsOf s ∧ (Lit.int .i64 s.len).wf = true := by
  obtain ⟨xs, k, hk, hxy, hcl, hxl, hf⟩ := DataW.trod_struct Try.underlying43 h
  rw [cells43] at hcl
  match cs, hcl with
  | [v0, v1, v2, v3, v4, v5, v6], _ =>
    match xs, hxl with
    | [y0, y1, y2, y3, y4, y5, y6], _ =>
      have g0 := hf 0 _ rfl
      have g1 := hf 1 _ rfl
      have g2 := hf 2 _ rfl
      have g3 := hf 3 _ rfl
      have g4 := hf 4 _ rfl
      have g5 := hf 5 _ rfl
      have g6 := hf 6 _ rfl
      simp [cells22, cells5, cells3] at g0 g1 g2 g3 g4 g5 g6
      obtain ⟨a0, e0, _, _⟩ := DataW.trod_int Try.underlying5 g0
      obtain ⟨a1, e1, _, _⟩ := DataW.trod_int Try.underlying3 g1
      obtain ⟨a2, e2, _, w2⟩ := DataW.trod_int Try.underlying3 g2
      obtain ⟨a3, e3, _, _⟩ := DataW.trod_int Try.underlying22 g3
      obtain ⟨a4, e4, _, _⟩ := DataW.trod_int Try.underlying22 g4
      obtain ⟨a5, e5, _, _⟩ := DataW.trod_int Try.underlying22 g5
      obtain ⟨a6, e6, _, _⟩ := DataW.trod_int Try.underlying22 g6
      simp at e0 e1 e2 e3 e4 e5 e6
      subst e0 e1 e2 e3 e4 e5 e6
      exact ⟨⟨a0, a1, a2, a3, a4, a5, a6⟩, rfl, w2⟩

theorem open_frames {H : Type} {enc : TypeId × Value → H} {W : World} {fuel : Nat} {ao : Option Addr} {len cap : Nat} {x : DataW H × List MemPlace}
    (h : DataW.trod enc Try.prog W 0 (fun _ => true) true fuel 28 [.slice ao len cap] = some x) :
    (ao = none ∧ len = 0 ∧ cap = 0) ∨ ∃ (a : Addr) (G : Nat → Frm), ao = some a ∧ (0 < len → a = ⟨a.block, a.off, none⟩) ∧ len ≤ maxLen ∧ ∀ k, k < len → FrAt W a.block a.off k (G k) := by
  rcases Deep.open_slice Try.underlying28 h with ⟨hcs, _⟩ | ⟨a, l, c, m, n, D, Pl, hcs, _, hl, hm, hmm, _, hx⟩
  · simp at hcs
    exact .inl hcs
  · simp at hcs
    obtain ⟨rfl, rfl, rfl⟩ := hcs
    right
    simp only [if_true] at hmm
    subst hmm
    rw [cells40] at hx
    have each : ∀ i, i < len → ∃ f : Frm, ∀ j v, [Value.int .i16 f.l, .int .i16 f.r][j]? = some v → W.cell? (a.add (i * 2 + j)) = some v := by
      intro i hi
      obtain ⟨cs, h1, h2⟩ := hx i (by omega)
      obtain ⟨_, hlen, hcell⟩ := World.cells?_some h1
      obtain ⟨f, rfl⟩ := open_frm h2
      refine ⟨f, fun j v hj => ?_⟩
      have hj2 : j < 2 := by
        rcases Nat.lt_or_ge j 2 with h | h
        · exact h
        · rw [List.getElem?_eq_none (by simpa using h)] at hj; cases hj
      have := hcell j hj2
      rw [Deep.add_add] at this
      rw [this]; exact hj
    haveI : Inhabited Frm := ⟨⟨0, 0⟩⟩
    obtain ⟨G, hG⟩ := Deep.choose_lt each
    have hne : 0 < len → W.cell? a ≠ none := by
      intro h0
      have := (hG 0 h0) 0 _ rfl
      simp [Addr.add] at this
      rw [this]; simp
    refine ⟨a, G, rfl, fun h0 => ?_, by omega, fun k hk => ?_⟩
    · have hs := spot_none (hne h0)
      cases a; simp_all
    · have h1 := hne (by omega)
      have hj := hG k hk
      exact ⟨cell_at (i := k * 2) (by simpa using hj 0 _ rfl) h1, by have := cell_at (hj 1 _ rfl) h1; rwa [← Nat.add_assoc] at this⟩

theorem open_segs {H : Type} {enc : TypeId × Value → H} {W : World} {fuel : Nat} {ao : Option Addr} {len cap : Nat} {x : DataW H × List MemPlace}
    (h : DataW.trod enc Try.prog W 0 (fun _ => true) true fuel 37 [.slice ao len cap] = some x) :
    (ao = none ∧ len = 0 ∧ cap = 0) ∨ ∃ (a : Addr) (F : Nat → Seg), ao = some a ∧ (0 < len → a = ⟨a.block, a.off, none⟩) ∧ len ≤ maxLen ∧ (∀ k, k < len → (Lit.int .i64 (F k).len).wf = true) ∧ ∀ k, k < len → SegAt W a.block a.off k (F k) := by
  rcases Deep.open_slice Try.underlying37 h with ⟨hcs, _⟩ | ⟨a, l, c, m, n, D, Pl, hcs, _, hl, hm, hmm, _, hx⟩
  · simp at hcs
    exact .inl hcs
  · simp at hcs
    obtain ⟨rfl, rfl, rfl⟩ := hcs
    right
    simp only [if_true] at hmm
    subst hmm
    rw [cells43] at hx
    have each : ∀ i, i < len → ∃ s : Seg, (Lit.int .i64 s.len).wf = true ∧ ∀ j v, (cellsOf s)[j]? = some v → W.cell? (a.add (i * 7 + j)) = some v := by
      intro i hi
      obtain ⟨cs, h1, h2⟩ := hx i (by omega)
      obtain ⟨_, hlen, hcell⟩ := World.cells?_some h1
      obtain ⟨s, rfl, hw⟩ := open_seg h2
      refine ⟨s, hw, fun j v hj => ?_⟩
      have hj7 : j < 7 := by
        rcases Nat.lt_or_ge j 7 with h | h
        · exact h
        · rw [List.getElem?_eq_none (by simpa [cellsOf] using h)] at hj; cases hj
      have := hcell j hj7
      rw [Deep.add_add] at this
      rw [this]; exact hj
    haveI : Inhabited Seg := ⟨⟨0, 0, 0, 0, 0, 0, 0⟩⟩
    obtain ⟨F, hF⟩ := Deep.choose_lt each
    have hne : 0 < len → W.cell? a ≠ none := by
      intro h0
      have := (hF 0 h0).2 0 _ rfl
      simp [Addr.add] at this
      rw [this]; simp
    refine ⟨a, F, rfl, fun h0 => ?_, by omega, fun k hk => (hF k hk).1, fun k hk => ?_⟩
    · have hs := spot_none (hne h0)
      cases a; simp_all
    · have h1 := hne (by omega)
      have hj := (hF k hk).2
      exact ⟨cell_at (i := k * 7) (by simpa using hj 0 _ rfl) h1, by have := cell_at (hj 1 _ rfl) h1; rwa [← Nat.add_assoc] at this, by have := cell_at (hj 2 _ rfl) h1; rwa [← Nat.add_assoc] at this,
        by have := cell_at (hj 3 _ rfl) h1; rwa [← Nat.add_assoc] at this, by have := cell_at (hj 4 _ rfl) h1; rwa [← Nat.add_assoc] at this, by have := cell_at (hj 5 _ rfl) h1; rwa [← Nat.add_assoc] at this,
        by have := cell_at (hj 6 _ rfl) h1; rwa [← Nat.add_assoc] at this⟩
end Go.Proofs.Qxb6600087a
