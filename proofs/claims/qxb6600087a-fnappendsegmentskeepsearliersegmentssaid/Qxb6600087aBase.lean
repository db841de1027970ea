import Derived.Test.Qxb6600087aRows
import Derived.Test.Qxb6600087aPlain
import Derived.WalkKit
import Derived.ProofKit
import Derived.Deep.QuietTactic
import Derived.BigQuiet
import Derived.Lib.LazyBuf
namespace Go.Proofs.Qxb6600087a
open Go.ChangeShapes Go.WideShapes Go.ChangeAt Go.RowKit

/-- Block g is a row of m cells, none frozen. -/
def Row (w : World) (g m : Nat) : Prop := ∃ c e, w.heap[g]? = some (.cells c e (0, 0)) ∧ c.size = m

theorem Row.lt {w : World} {g m : Nat} (h : Row w g m) : g < w.heap.size := by
  obtain ⟨c, e, h1, _⟩ := h
  exact (Array.getElem?_eq_some_iff.1 h1).1
theorem Row.same {w w' : World} {g m : Nat} (h : Row w g m) (e : w'.heap[g]? = w.heap[g]?) : Row w' g m := by
  obtain ⟨c, t, h1, h2⟩ := h
  exact ⟨c, t, e.trans h1, h2⟩
theorem Row.cell {w : World} {g m : Nat} (h : Row w g m) {i : Nat} (hi : i < m) : ∃ v, w.cell? ⟨g, i, none⟩ = some v := by
  obtain ⟨c, t, h1, h2⟩ := h
  exact ⟨c[i], by simp [World.cell?, h1, h2, hi]⟩
theorem Row.free {w : World} {g m : Nat} (h : Row w g m) (i : Nat) : w.frozen? ⟨g, i, none⟩ = false := by
  obtain ⟨c, t, h1, h2⟩ := h
  simp [World.frozen?, h1]
theorem Row.setCell {w : World} {g m : Nat} (h : Row w g m) (a : Addr) (v : Value) : Row (w.setCell a v) g m := by
  obtain ⟨c, t, h1, h2⟩ := h
  by_cases e : g = a.block
  · refine ⟨if a.spot.isSome then c else c.setIfInBounds a.off v, t, ?_, ?_⟩
    · simp only [World.setCell, Array.getElem?_modify]
      rw [if_pos e.symm, h1]; rfl
    · split <;> simp [h2]
  · exact ⟨c, t, by rw [Below.heap_setCell _ _ _ _ e]; exact h1, h2⟩
theorem Row.alloc {w : World} {g m : Nat} (h : Row w g m) (o : Obj) : Row (w.alloc o) g m :=
  h.same (Below.heap_alloc _ _ _ h.lt)
theorem Row.grown {w w' : World} {g m : Nat} (h : Row w g m) {row : Option Nat} (hg : w.grownBy w' row) (hr : some g ≠ row) : Row w' g m :=
  h.same (hg.block g h.lt hr)
theorem Row.ofOwns {w : World} {base e size g n cap : Nat} {xs : List Value} (h : w.ownsRow base e size (.slice (some ⟨g, 0, none⟩) n cap) n xs) : Row w g (cap * size) := by
  obtain ⟨_, h | ⟨g', cap', cur, h1, h2, h3, h4, h5, h6, h7⟩⟩ := h
  · cases h.1
  · cases h1
    exact ⟨cur, e, h3, h6⟩


theorem cell_lt {w : World} {a : Addr} {v : Value} (h : w.cell? a = some v) : a.block < w.heap.size := by
  unfold World.cell? at h
  cases hb : w.heap[a.block]? with
  | none => rw [hb] at h; cases h
  | some o => exact (Array.getElem?_eq_some_iff.1 hb).1
theorem cell_same {w w' : World} {b : Nat} (e : w'.heap[b]? = w.heap[b]?) (i : Nat) : w'.cell? ⟨b, i, none⟩ = w.cell? ⟨b, i, none⟩ := by simp [World.cell?, e]
theorem free_same {w w' : World} {b : Nat} (e : w'.heap[b]? = w.heap[b]?) (i : Nat) : w'.frozen? ⟨b, i, none⟩ = w.frozen? ⟨b, i, none⟩ := by simp [World.frozen?, e]
theorem cell_ne {w : World} {b i j : Nat} (v : Value) (h : i ≠ j) : (w.setCell ⟨b, i, none⟩ v).cell? ⟨b, j, none⟩ = w.cell? ⟨b, j, none⟩ :=
  World.cell?_setCell_other _ _ _ _ (fun e => h (by cases e; rfl))
theorem set_cell {w : World} {g m i : Nat} (h : Row w g m) (hi : i < m) (v : Value) : (w.setCell ⟨g, i, none⟩ v).cell? ⟨g, i, none⟩ = some v := by
  obtain ⟨u, hu⟩ := h.cell hi
  exact World.cell?_setCell_same _ _ _ hu
theorem size_setCell (w : World) (a : Addr) (v : Value) : (w.setCell a v).heap.size = w.heap.size := by simp [World.setCell]
theorem size_alloc (w : World) (o : Obj) : (w.alloc o).heap.size = w.heap.size + 1 := by show (w.heap.push o).size = _; simp
theorem bel_drewN {B : Nat} {a w : World} (h : Below B a w) (n : Nat) : Below B a (w.drewN n) := h.trans ⟨rfl, rfl, rfl, Nat.le_refl _, fun _ _ => rfl⟩
theorem cell_old (w : World) (a : Addr) (v : Value) (o : Obj) (h : w.cell? a = some v) : (w.alloc o).cell? a = some v := by
  have hb := cell_lt h
  have : (w.alloc o).heap[a.block]? = w.heap[a.block]? := Below.heap_alloc _ _ _ hb
  unfold World.cell? at h ⊢
  rw [this]; exact h
theorem heap_new (w : World) (o : Obj) (n : Nat) (h : w.heap.size = n) : (w.alloc o).heap[n]? = some o := by
  subst h; show (w.heap.push o)[w.heap.size]? = _; simp

/-- The call returned a bool of which φ tells. -/
def RetB (φ : Bool → Prop) (e : Ending) : Prop := ∃ r, e = .returned (.bool r) ∧ φ r
theorem RetB.mk {φ : Bool → Prop} {v : Value} {r : Bool} (h : v = .bool r) (hr : φ r) : RetB φ (.returned v) := ⟨r, by rw [h], hr⟩

section
variable {P : Program} {ops : Array Oper} {C : World → Prop} {Q : Act → Prop} {a : Act} {o : Oper} {rest : List Oper}
/-- One operation of a quiet walk: its value named. -/
theorem q_val (v : Value) (hw : Region.wanted o (yielded ops a.tmps) = true) (h : ∀ w, C w → (execOp a.eval o).run P w = .ok (.value v) w) (hk : wpQuiet P ops C Q rest (a.put o.dst v)) : wpQuiet P ops C Q (o :: rest) a :=
  wpQuiet_step fun K hK => by
    rw [if_pos hw]
    exact ⟨v, fun w hC => by unfold Oper.quietAt; rw [h w hC]; exact ⟨rfl, rfl⟩, hK _ hk⟩
/-- .. one whose guard says no. -/
theorem q_skip (hw : Region.wanted o (yielded ops a.tmps) = false) (hk : wpQuiet P ops C Q rest (a.put o.dst undef)) : wpQuiet P ops C Q (o :: rest) a :=
  wpQuiet_step fun K hK => by
    rw [if_neg (by rw [hw]; exact Bool.false_ne_true)]
    exact hK _ hk
/-- .. a call. -/
theorem q_call (v : Value) (f : FuncId) (args : Array Value) (hw : Region.wanted o (yielded ops a.tmps) = true) (h : ∀ w, C w → (execOp a.eval o).run P w = .ok (.enter f args) w)
    (hc : ∀ w, C w → Calls P f args w fun e w' => e = .returned v ∧ C w') (hk : wpQuiet P ops C Q rest (a.put o.dst v)) : wpQuiet P ops C Q (o :: rest) a :=
  wpQuiet_step fun K hK => by
    rw [if_pos hw]
    exact ⟨v, fun w hC => by unfold Oper.quietAt; rw [h w hC]; exact ⟨rfl, hc w hC⟩, hK _ hk⟩
end

/-- Frame k of a slice of frames, at cell 'off + k * 2' of block b. -/
structure FrAt (w : World) (b off k : Nat) (f : Frm) : Prop where
  l : w.cell? ⟨b, off + k * 2, none⟩ = some (.int .i16 f.l)
  r : w.cell? ⟨b, off + k * 2 + 1, none⟩ = some (.int .i16 f.r)
theorem FrAt.same {w w' : World} {b off k : Nat} {f : Frm} (h : FrAt w b off k f) (e : w'.heap[b]? = w.heap[b]?) : FrAt w' b off k f := ⟨(cell_same e _).trans h.l, (cell_same e _).trans h.r⟩
theorem FrAt.lt {w : World} {b off k : Nat} {f : Frm} (h : FrAt w b off k f) : b < w.heap.size := cell_lt h.l

theorem eq_true {a b : Int} (h : a = b) : (a == b) = true := by simpa using h
theorem eq_false {a b : Int} (h : ¬ a = b) : (a == b) = false := by simpa using h

set_option maxHeartbeats 1000000 in
theorem cls_any (f : Frm) (w : World) : Calls Try.prog 7 #[.agg #[.int .i16 f.l, .int .i16 f.r]] w fun e w' => e = .returned (.int .u8 (cls f)) ∧ Below w.heap.size w w' := by
  obtain ⟨l, r⟩ := f
  have bel : ∀ o, Below w.heap.size w (w.alloc o) := fun o => (Below.refl _ _).alloc (Nat.le_refl _) o
  by_cases h0 : l = 0
  · subst h0
    by_cases h1 : r = 0
    · have e1 := eq_true h1
      have H : Hid (cls ⟨0, r⟩ = 0) := by show _ = _; simp [cls, h1]
      clear h1
      go_enter Try.func7, Try.ntmps7
      go_wp2
      go_ret
      exact ⟨by rw [H.out]; rfl, bel _⟩
    · have e1 := eq_false h1
      by_cases h2 : r = -1
      · have e2 := eq_true h2
        have H : Hid (cls ⟨0, r⟩ = 1) := by show _ = _; simp [cls, h2, IntKind.wrap]; decide
        clear h1 h2
        go_enter Try.func7, Try.ntmps7
        go_wp2
        go_ret
        exact ⟨by rw [H.out]; rfl, bel _⟩
      · have e2 := eq_false h2
        have H : Hid (cls ⟨0, r⟩ = 3) := by
          show _ = _
          have hw : IntKind.i16.wrap (-1 - 0) = -1 := by decide
          simp only [cls, hw]
          rw [if_neg (by simp [h1]), if_neg h2, if_neg h1]
        clear h1 h2
        go_enter Try.func7, Try.ntmps7
        go_wp2
        go_ret
        exact ⟨by rw [H.out]; rfl, bel _⟩
  · by_cases h1 : r = IntKind.i16.wrap (-1 - l)
    · have e1 := eq_true h1
      have H : Hid (cls ⟨l, r⟩ = 1) := by show _ = _; simp only [cls]; rw [if_neg (by simp [h0]), if_pos h1]
      clear h1
      go_enter Try.func7, Try.ntmps7
      go_wp2
      go_ret
      exact ⟨by rw [H.out]; rfl, bel _⟩
    · have e1 := eq_false h1
      by_cases h2 : r = l
      · have e2 := eq_true h2
        have H : Hid (cls ⟨l, r⟩ = 2) := by show _ = _; simp only [cls]; rw [if_neg (by simp [h0]), if_neg h1, if_pos h2]
        clear h1 h2
        go_enter Try.func7, Try.ntmps7
        go_wp2
        go_ret
        exact ⟨by rw [H.out]; rfl, bel _⟩
      · have e2 := eq_false h2
        have H : Hid (cls ⟨l, r⟩ = 3) := by show _ = _; simp only [cls]; rw [if_neg (by simp [h0]), if_neg h1, if_neg h2]
        clear h1 h2
        go_enter Try.func7, Try.ntmps7
        go_wp2
        go_ret
        exact ⟨by rw [H.out]; rfl, bel _⟩

theorem zz11 (ao : Option Addr) (len cap : Nat) (w : World) (hm : len ≤ maxLen) :
    Calls Try.prog 11 #[.slice ao len cap] w fun e w' => RetB (fun r => r = true → len ≤ 1048576) e ∧ w' = w := by
  unfold maxLen at hm
  by_cases h : 1048576 < len
  · go_enter Try.func11, Try.ntmps11
    go_wp2
    go_ret
    exact ⟨.mk rfl (fun h => by cases h), rfl⟩
  · go_enter Try.func11, Try.ntmps11
    go_wp2
    go_ret
    exact ⟨.mk rfl (fun _ => by omega), rfl⟩

theorem zz12 (a0 a1 : Option Addr) (l0 c0 l1 c1 : Nat) (w : World) (hm0 : l0 ≤ maxLen) (hm1 : l1 ≤ maxLen) :
    Calls Try.prog 12 #[.slice a0 l0 c0, .slice a1 l1 c1] w fun e w' => RetB (fun _ => True) e ∧ w' = w := by
  unfold maxLen at hm0 hm1
  go_enter Try.func12, Try.ntmps12
  go_wp2
  all_goals
    go_ret
    exact ⟨.mk rfl trivial, rfl⟩
end Go.Proofs.Qxb6600087a
