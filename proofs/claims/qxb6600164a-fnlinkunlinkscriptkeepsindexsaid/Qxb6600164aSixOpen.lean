import Derived.Test.Qxb6600164aSixBase
import Derived.OpenShut
import Derived.ShutString
import Derived.ChangeOld
import Derived.Below
import Derived.Carry
import Derived.Deep.Slices
namespace Go.Proofs.Qxb6600164a
open Go.ChangeShapes Go.WideShapes Go.ChangeAt Go.RowKit

theorem own : ownKnob Try.prog.godebug = none := by kernel_rfl
theorem laidOut : laidOutB Try.prog = true := by kernel_rfl
theorem cells9 : Try.prog.cellsOf 9 = 1 := by kernel_rfl
theorem cells2 : Try.prog.cellsOf 2 = 1 := by kernel_rfl
theorem cells46 : Try.prog.cellsOf 46 = 1 := by kernel_rfl

theorem spot_none {w : World} {a : Addr} (h0 : w.cell? a ≠ none) : a.spot = none := by
  unfold World.cell? at h0
  cases hsp : a.spot with
  | none => rfl
  | some s =>
    exfalso; apply h0
    split
    · simp [hsp]
    · rfl

theorem cell_at {w : World} {a : Addr} {i : Nat} {v : Value} (h : w.cell? (a.add i) = some v) (h0 : w.cell? a ≠ none) : w.cell? ⟨a.block, a.off + i, none⟩ = some v := by
  have hs := spot_none h0
  unfold Addr.add at h
  split at h
  · rename_i e
    subst e
    rw [Nat.add_zero, show (⟨a.block, a.off, none⟩ : Addr) = a by cases a; simp_all]
    exact h
  · exact h

/-- A slice whose elements take one cell each, of the make 'mk x', each x with φ. -/
theorem open_ones {α : Type} [Inhabited α] {H : Type} {enc : TypeId × Value → H} {W : World} {fuel : Nat} {ao : Option Addr} {len cap : Nat} {x : DataW H × List MemPlace} {st et : TypeId} (mk : α → Value) (φ : α → Prop)
    (hst : Try.prog.underlying st = some (.slice et)) (hcell : Try.prog.cellsOf et = 1)
    (hel : ∀ (n : Nat) (cs : List Value) (y : DataW H × List MemPlace), DataW.trod enc Try.prog W 0 (fun _ => true) true n et cs = some y → ∃ b, cs = [mk b] ∧ φ b)
    (h : DataW.trod enc Try.prog W 0 (fun _ => true) true fuel st [.slice ao len cap] = some x) :
    ∃ f : Nat → α, InS W ao len (fun k => mk (f k)) ∧ len ≤ maxLen ∧ ∀ k, k < len → φ (f k) := by
  rcases Deep.open_slice hst h with ⟨hcs, _⟩ | ⟨a, l, c, m, n, D, Pl, hcs, _, hl, hm, hmm, _, hx⟩
  · simp at hcs
    obtain ⟨rfl, rfl, rfl⟩ := hcs
    exact ⟨fun _ => default, .inl ⟨rfl, rfl⟩, Nat.zero_le _, fun k hk => absurd hk (by omega)⟩
  · simp at hcs
    obtain ⟨rfl, rfl, rfl⟩ := hcs
    simp only [if_true] at hmm
    subst hmm
    rw [hcell] at hx
    have each : ∀ i, i < len → ∃ b : α, W.cell? (a.add i) = some (mk b) ∧ φ b := by
      intro i hi
      obtain ⟨cs, h1, h2⟩ := hx i (by omega)
      obtain ⟨_, hlen, hc⟩ := World.cells?_some h1
      obtain ⟨b, rfl, hb⟩ := hel _ _ _ h2
      refine ⟨b, ?_, hb⟩
      have := hc 0 (by omega)
      rw [Deep.add_add] at this
      simpa using this
    obtain ⟨G, hG⟩ := Deep.choose_lt each
    have hne : 0 < len → W.cell? a ≠ none := by
      intro h0
      have := (hG 0 h0).1
      simp [Addr.add] at this
      rw [this]; simp
    refine ⟨G, .inr ⟨a, rfl, fun h0 => ?_, fun k hk => ?_⟩, by omega, fun k hk => (hG k hk).2⟩
    · have hs := spot_none (hne h0)
      cases a; simp_all
    · exact cell_at (hG k hk).1 (hne (by omega))

theorem open_names {H : Type} {enc : TypeId × Value → H} {W : World} {fuel : Nat} {ao : Option Addr} {len cap : Nat} {x : DataW H × List MemPlace}
    (h : DataW.trod enc Try.prog W 0 (fun _ => true) true fuel 37 [.slice ao len cap] = some x) :
    ∃ f : Nat → ByteArray, InS W ao len (fun k => .string (f k)) ∧ len ≤ maxLen ∧ ∀ k, k < len → (f k).size ≤ maxLen :=
  open_ones .string (fun b => b.size ≤ maxLen) Try.underlying37 cells9 (fun n cs y hy => by
    obtain ⟨s, h1, _, h2⟩ := DataW.trod_string Try.underlying9 hy
    exact ⟨s, h1, h2⟩) h
theorem open_owners {H : Type} {enc : TypeId × Value → H} {W : World} {fuel : Nat} {ao : Option Addr} {len cap : Nat} {x : DataW H × List MemPlace}
    (h : DataW.trod enc Try.prog W 0 (fun _ => true) true fuel 38 [.slice ao len cap] = some x) :
    ∃ f : Nat → Int, InS W ao len (fun k => .int .i64 (f k)) ∧ len ≤ maxLen := by
  obtain ⟨f, h1, h2, _⟩ := open_ones (.int .i64) (fun _ => True) Try.underlying38 cells2 (fun n cs y hy => by
    obtain ⟨s, h1, _, _⟩ := DataW.trod_int Try.underlying2 hy
    exact ⟨s, h1, trivial⟩) h
  exact ⟨f, h1, h2⟩
theorem open_ops {H : Type} {enc : TypeId × Value → H} {W : World} {fuel : Nat} {ao : Option Addr} {len cap : Nat} {x : DataW H × List MemPlace}
    (h : DataW.trod enc Try.prog W 0 (fun _ => true) true fuel 39 [.slice ao len cap] = some x) :
    ∃ f : Nat → Nat, InS W ao len (fun k => .int .u16 (f k : Nat)) ∧ len ≤ maxLen ∧ ∀ k, k < len → f k < 65536 :=
  open_ones (fun b : Nat => .int .u16 (b : Int)) (fun b => b < 65536) Try.underlying39 cells46 (fun n cs y hy => by
    obtain ⟨s, h1, _, h2⟩ := DataW.trod_int Try.underlying46 hy
    have h3 : (0 : Int) ≤ s ∧ s ≤ 65535 := by
      simp only [Lit.wf, Bool.and_eq_true, decide_eq_true_eq] at h2
      exact h2
    refine ⟨s.toNat, ?_, by omega⟩
    rw [h1, Int.toNat_of_nonneg (by omega)]) h
end Go.Proofs.Qxb6600164a
