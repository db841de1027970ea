import Derived.Test.Qxb6600087aSegs
namespace Go.Proofs.Qxb6600087a
open Go.ChangeShapes Go.WideShapes Go.ChangeAt Go.RowKit

theorem owns_shape {w : World} {base e size n : Nat} {v : Value} {xs : List Value} (h : w.ownsRow base e size v n xs) : ∃ ao cap, v = .slice ao n cap ∧ (0 < n → ∃ g, ao = some ⟨g, 0, none⟩ ∧ base ≤ g ∧ g < w.heap.size) := by
  obtain ⟨_, ⟨h1, h2⟩ | ⟨g, cap, cur, h1, h2, h3, _⟩⟩ := h
  · subst h2; exact ⟨none, 0, h1, fun h => absurd h (by omega)⟩
  · exact ⟨_, cap, h1, fun _ => ⟨g, rfl, h2, (Array.getElem?_eq_some_iff.1 h3).1⟩⟩

theorem owns_below {w w' : World} {base e size n : Nat} {v : Value} {xs : List Value} (h : w.ownsRow base e size v n xs) (hb : Below w.heap.size w w') : w'.ownsRow base e size v n xs :=
  h.kept (row := none) ⟨hb.os, hb.tape, hb.output, hb.size, fun k hk _ => hb.block k hk⟩ (by cases hv : v.ownBlock <;> simp)

theorem last_at {w : World} {base g cap : Nat} {P : List Seg} {s : Seg} (h : w.ownsRow base 35 7 (.slice (some ⟨g, 0, none⟩) (P.length + 1) cap) (P.length + 1) (encS (s :: P).reverse)) : SegAt w g 0 P.length s := by
  have := segAt_owns h (S := (s :: P).reverse) (by simp) (j := P.length) (by simp)
  have e : (s :: P).reverse[P.length]'(by simp) = s := by simp
  rw [e] at this
  exact this

/-- Three stores into the last segment. -/
theorem encS_ext (P : List Seg) (s : Seg) (f : Frm) : (((encS (s :: P).reverse).set (P.length * 7 + 2) (.int .i64 (wrap64 (s.len + 1)))).set (P.length * 7 + 5) (.int .i16 f.l)).set (P.length * 7 + 6) (.int .i16 f.r) = encS (ext s f :: P).reverse := by
  have hl : (encS P.reverse).length = P.length * 7 := by rw [encS_length, List.length_reverse]
  have e1 : encS (s :: P).reverse = encS P.reverse ++ cellsOf s := by rw [List.reverse_cons, encS_append]; simp [encS]
  have e2 : encS (ext s f :: P).reverse = encS P.reverse ++ cellsOf (ext s f) := by rw [List.reverse_cons, encS_append]; simp [encS]
  rw [e1, e2, List.set_append_right _ _ (by omega), List.set_append_right _ _ (by omega), List.set_append_right _ _ (by omega), hl]
  have a2 : P.length * 7 + 2 - P.length * 7 = 2 := by omega
  have a5 : P.length * 7 + 5 - P.length * 7 = 5 := by omega
  have a6 : P.length * 7 + 6 - P.length * 7 = 6 := by omega
  rw [a2, a5, a6]
  rfl

theorem encS_new (R : List Seg) (s : Seg) : encS R.reverse ++ cellsOf s = encS (s :: R).reverse := by
  rw [List.reverse_cons, encS_append]; simp [encS]

/-- The loop's relation. -/
structure Cut (w wr : World) (base : Nat) (a : Int) (G : Nat → Frm) (R0 : List Seg) (i : Nat) (v : Value) : Prop where
  owns : wr.ownsRow base 35 7 v (runR a G R0 i).length (encS (runR a G R0 i).reverse)
  below : Below base w wr
  size : base ≤ wr.heap.size

theorem Cut.app {w wr w1 w2 : World} {base : Nat} {a : Int} {G : Nat → Frm} {R0 R : List Seg} {i : Nat} {v v' : Value} {s : Seg} (h : Cut w wr base a G R0 i v) (hb : Below wr.heap.size wr w1)
    (hown : w2.ownsRow base 35 7 v' (R.length + 1) (encS R.reverse ++ cellsOf s)) (hg : w1.grownBy w2 v.ownBlock) (hr : runR a G R0 (i + 1) = s :: R) : Cut w w2 base a G R0 (i + 1) v' := by
  have hs := h.size
  have hs1 := hb.size
  refine ⟨?_, ?_, by have := hg.size; omega⟩
  · rw [hr, List.length_cons, ← encS_new]; exact hown
  · exact (h.below.trans (hb.mono hs)).grown hg (by omega) (fun k hk => (h.owns.lt k hk).1)

theorem box2 {wr w1 : World} {v0 v1 : Value} (hb : Below (wr.alloc (.cells #[v0, v1] 26)).heap.size (wr.alloc (.cells #[v0, v1] 26)) w1) :
    w1.cell? ⟨wr.heap.size, 0, none⟩ = some v0 ∧ w1.cell? ⟨wr.heap.size, 1, none⟩ = some v1 ∧ wr.heap.size < w1.heap.size ∧ Below wr.heap.size wr w1 := by
  have hs := hb.size
  rw [size_alloc] at hs hb
  have e := hb.block wr.heap.size (by omega)
  exact ⟨by rw [cell_same e]; exact World.cell?_alloc_new _ _ _ _, by rw [cell_same e]; exact World.cell?_alloc_new _ _ _ _, by omega, ((Below.refl _ _).alloc (Nat.le_refl _) _).trans (hb.mono (by omega))⟩

theorem Cut.ext {w w1 : World} {base g cap : Nat} {a : Int} {G : Nat → Frm} {R0 : List Seg} {i : Nat} {s : Seg} {P : List Seg} (hb : Below base w w1) (hbg : base ≤ g) (hs : base ≤ w1.heap.size)
    (hown : w1.ownsRow base 35 7 (.slice (some ⟨g, 0, none⟩) (P.length + 1) cap) (P.length + 1) (encS (s :: P).reverse)) (hr : runR a G R0 (i + 1) = Qxb6600087a.ext s (G i) :: P) :
    Cut w (((w1.setCell ⟨g, P.length * 7 + 2, none⟩ (.int .i64 (wrap64 (s.len + 1)))).setCell ⟨g, P.length * 7 + 5, none⟩ (.int .i16 (G i).l)).setCell ⟨g, P.length * 7 + 6, none⟩ (.int .i16 (G i).r)) base a G R0 (i + 1) (.slice (some ⟨g, 0, none⟩) (P.length + 1) cap) := by
  have h3 := (((hown.stored (P.length * 7 + 2) (.int .i64 (wrap64 (s.len + 1)))).1.stored (P.length * 7 + 5) (.int .i16 (G i).l)).1.stored (P.length * 7 + 6) (.int .i16 (G i).r)).1
  rw [encS_ext] at h3
  refine ⟨by rw [hr]; exact h3, ?_, by simp only [size_setCell]; exact hs⟩
  exact ((hb.setCell (p := ⟨g, P.length * 7 + 2, none⟩) hbg _).setCell (p := ⟨g, P.length * 7 + 5, none⟩) hbg _).setCell (p := ⟨g, P.length * 7 + 6, none⟩) hbg _

theorem bel_alloc {wr w1 : World} (h : Below wr.heap.size wr w1) (o : Obj) : Below wr.heap.size wr (w1.alloc o) := h.alloc h.size o

theorem news_at {w : World} {n : Nat} {s : Seg} {t : TypeId} (h : w.heap[n]? = some (.cells #[.int .u8 s.kind, .int .i64 s.start, .int .i64 s.len, .int .i16 s.fl, .int .i16 s.fr, .int .i16 s.ll, .int .i16 s.lr] t (0, 0))) :
    ∀ (j : Nat) (u : Value), (cellsOf s)[j]? = some u → w.cell? ((⟨n, 0, none⟩ : Addr).add j) = some u := by
  intro j u hj
  have : (⟨n, 0, none⟩ : Addr).add j = ⟨n, j, none⟩ := by unfold Addr.add; split <;> simp_all
  rw [this]
  simpa [World.cell?, h, cellsOf] using hj
theorem one_cells (s : Seg) : ∀ u ∈ cellsOf s, u.oneCell' = true := by simp [cellsOf, Value.oneCell']
end Go.Proofs.Qxb6600087a
