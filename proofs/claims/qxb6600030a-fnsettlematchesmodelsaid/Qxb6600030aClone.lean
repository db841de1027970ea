import Derived.Test.Qxb6600030aRead
import Derived.Lib.LazyBuf
namespace Go.Proofs.Qxb6600030a
open Go.ChangeShapes Go.WideShapes Go.ChangeAt Go.RowKit

/-- Block g is a row of m cells, none frozen. -/
def Row (w : World) (g m : Nat) : Prop := ∃ c e, w.heap[g]? = some (.cells c e (0, 0)) ∧ c.size = m

theorem Row.lt {w : World} {g m : Nat} (h : Row w g m) : g < w.heap.size := by
  obtain ⟨c, e, h1, _⟩ := h
  exact (Array.getElem?_eq_some_iff.1 h1).1
theorem Row.same {w w' : World} {g m : Nat} (h : Row w g m) (e : w'.heap[g]? = w.heap[g]?) : Row w' g m := by
  obtain ⟨c, t, h1, h2⟩ := h
  exact ⟨c, t, e.trans h1, h2⟩
theorem Row.cell {w : World} {g m : Nat} (h : Row w g m) {i : Nat} (hi : i < m) : ∃ v, w.cell? ⟨g, i, none⟩ = some v := by
  obtain ⟨c, t, h1, h2⟩ := h
  exact ⟨c[i], by simp [World.cell?, h1, h2, hi]⟩
theorem Row.free {w : World} {g m : Nat} (h : Row w g m) (i : Nat) : w.frozen? ⟨g, i, none⟩ = false := by
  obtain ⟨c, t, h1, h2⟩ := h
  simp [World.frozen?, h1]
theorem Row.setCell {w : World} {g m : Nat} (h : Row w g m) (a : Addr) (v : Value) : Row (w.setCell a v) g m := by
  obtain ⟨c, t, h1, h2⟩ := h
  by_cases e : g = a.block
  · refine ⟨if a.spot.isSome then c else c.setIfInBounds a.off v, t, ?_, ?_⟩
    · simp only [World.setCell, Array.getElem?_modify]
      rw [if_pos e.symm, h1]; rfl
    · split <;> simp [h2]
  · exact ⟨c, t, by rw [Below.heap_setCell _ _ _ _ e]; exact h1, h2⟩
theorem Row.alloc {w : World} {g m : Nat} (h : Row w g m) (o : Obj) : Row (w.alloc o) g m :=
  h.same (Below.heap_alloc _ _ _ h.lt)
theorem Row.grown {w w' : World} {g m : Nat} (h : Row w g m) {row : Option Nat} (hg : w.grownBy w' row) (hr : some g ≠ row) : Row w' g m :=
  h.same (hg.block g h.lt hr)
theorem Row.ofOwns {w : World} {base e size g n cap : Nat} {xs : List Value} (h : w.ownsRow base e size (.slice (some ⟨g, 0, none⟩) n cap) n xs) : Row w g (cap * size) := by
  obtain ⟨_, h | ⟨g', cap', cur, h1, h2, h3, h4, h5, h6, h7⟩⟩ := h
  · cases h.1
  · cases h1
    exact ⟨cur, e, h3, h6⟩

theorem OpAt.same {w w' : World} {b off k : Nat} {o : SOp} (h : OpAt w b off k o) (e : w'.heap[b]? = w.heap[b]?) : OpAt w' b off k o := by
  have hc : ∀ i, w'.cell? ⟨b, i, none⟩ = w.cell? ⟨b, i, none⟩ := fun i => by simp [World.cell?, e]
  exact ⟨(hc _).trans h.kind, (hc _).trans h.hasV, (hc _).trans h.val, (hc _).trans h.call, (hc _).trans h.hasR, (hc _).trans h.ret⟩

theorem cell_lt {w : World} {a : Addr} {v : Value} (h : w.cell? a = some v) : a.block < w.heap.size := by
  unfold World.cell? at h
  cases hb : w.heap[a.block]? with
  | none => rw [hb] at h; cases h
  | some o => exact (Array.getElem?_eq_some_iff.1 hb).1
theorem OpAt.lt {w : World} {b off k : Nat} {o : SOp} (h : OpAt w b off k o) : b < w.heap.size := cell_lt h.kind

theorem cell_ne {w : World} {b i j : Nat} (v : Value) (h : i ≠ j) : (w.setCell ⟨b, i, none⟩ v).cell? ⟨b, j, none⟩ = w.cell? ⟨b, j, none⟩ :=
  World.cell?_setCell_other _ _ _ _ (fun e => h (by cases e; rfl))

/-- Six stores in a row: the world behind. -/
def set6 (w : World) (b o : Nat) (v0 v1 v2 v3 v4 v5 : Value) : World :=
  (((((w.setCell ⟨b, o, none⟩ v0).setCell ⟨b, o + 1, none⟩ v1).setCell ⟨b, o + 2, none⟩ v2).setCell ⟨b, o + 3, none⟩ v3).setCell ⟨b, o + 4, none⟩ v4).setCell ⟨b, o + 5, none⟩ v5

section
variable {w : World} {b o : Nat} {v0 v1 v2 v3 v4 v5 : Value}
theorem set6_row {g m : Nat} (h : Row w g m) : Row (set6 w b o v0 v1 v2 v3 v4 v5) g m := (((((h.setCell _ _).setCell _ _).setCell _ _).setCell _ _).setCell _ _).setCell _ _
theorem set6_out {j : Nat} (h : j < o ∨ o + 6 ≤ j) : (set6 w b o v0 v1 v2 v3 v4 v5).cell? ⟨b, j, none⟩ = w.cell? ⟨b, j, none⟩ := by
  unfold set6
  rw [cell_ne _ (by omega), cell_ne _ (by omega), cell_ne _ (by omega), cell_ne _ (by omega), cell_ne _ (by omega), cell_ne _ (by omega)]
theorem set6_block {i : Nat} (h : i ≠ b) : (set6 w b o v0 v1 v2 v3 v4 v5).heap[i]? = w.heap[i]? := by
  unfold set6
  rw [Below.heap_setCell _ _ _ _ h, Below.heap_setCell _ _ _ _ h, Below.heap_setCell _ _ _ _ h, Below.heap_setCell _ _ _ _ h, Below.heap_setCell _ _ _ _ h, Below.heap_setCell _ _ _ _ h]
theorem set_cell {w : World} {g m i : Nat} (h : Row w g m) (hi : i < m) (v : Value) : (w.setCell ⟨g, i, none⟩ v).cell? ⟨g, i, none⟩ = some v := by
  obtain ⟨u, hu⟩ := h.cell hi
  exact World.cell?_setCell_same _ _ _ hu
theorem set6_in {m : Nat} (h : Row w b m) (hm : o + 6 ≤ m) :
    (set6 w b o v0 v1 v2 v3 v4 v5).cell? ⟨b, o, none⟩ = some v0 ∧ (set6 w b o v0 v1 v2 v3 v4 v5).cell? ⟨b, o + 1, none⟩ = some v1 ∧
    (set6 w b o v0 v1 v2 v3 v4 v5).cell? ⟨b, o + 2, none⟩ = some v2 ∧ (set6 w b o v0 v1 v2 v3 v4 v5).cell? ⟨b, o + 3, none⟩ = some v3 ∧
    (set6 w b o v0 v1 v2 v3 v4 v5).cell? ⟨b, o + 4, none⟩ = some v4 ∧ (set6 w b o v0 v1 v2 v3 v4 v5).cell? ⟨b, o + 5, none⟩ = some v5 := by
  have r1 := h.setCell ⟨b, o, none⟩ v0
  have r2 := r1.setCell ⟨b, o + 1, none⟩ v1
  have r3 := r2.setCell ⟨b, o + 2, none⟩ v2
  have r4 := r3.setCell ⟨b, o + 3, none⟩ v3
  have r5 := r4.setCell ⟨b, o + 4, none⟩ v4
  unfold set6
  refine ⟨?_, ?_, ?_, ?_, ?_, ?_⟩
  · rw [cell_ne _ (by omega), cell_ne _ (by omega), cell_ne _ (by omega), cell_ne _ (by omega), cell_ne _ (by omega), set_cell h (by omega)]
  · rw [cell_ne _ (by omega), cell_ne _ (by omega), cell_ne _ (by omega), cell_ne _ (by omega), set_cell r1 (by omega)]
  · rw [cell_ne _ (by omega), cell_ne _ (by omega), cell_ne _ (by omega), set_cell r2 (by omega)]
  · rw [cell_ne _ (by omega), cell_ne _ (by omega), set_cell r3 (by omega)]
  · rw [cell_ne _ (by omega), set_cell r4 (by omega)]
  · rw [set_cell r5 (by omega)]
theorem set6_below {B : Nat} {w0 : World} (h : Below B w0 w) (hb : B ≤ b) : Below B w0 (set6 w b o v0 v1 v2 v3 v4 v5) :=
  (((((h.setCell (p := ⟨b, o, none⟩) hb _).setCell (p := ⟨b, o + 1, none⟩) hb _).setCell (p := ⟨b, o + 2, none⟩) hb _).setCell (p := ⟨b, o + 3, none⟩) hb _).setCell (p := ⟨b, o + 4, none⟩) hb _).setCell (p := ⟨b, o + 5, none⟩) hb _
end

theorem clone_step {w : World} {g k m : Nat} {F : Nat → SOp} (hr : Row w g m) (hm : k * 6 + 6 ≤ m) (h : ∀ j, j < k → OpAt w g 0 j (F j)) :
    ∀ j, j < k + 1 → OpAt (set6 w g (k * 6) (.int .u8 (F k).kind) (.bool (F k).hasV) (.string (F k).val) (.int .i64 (F k).call) (.bool (F k).hasR) (.int .i64 (F k).ret)) g 0 j (F j) := by
  intro j hj
  by_cases e : j = k
  · subst e
    obtain ⟨h0, h1, h2, h3, h4, h5⟩ := set6_in (v0 := .int .u8 (F j).kind) (v1 := .bool (F j).hasV) (v2 := .string (F j).val) (v3 := .int .i64 (F j).call) (v4 := .bool (F j).hasR) (v5 := .int .i64 (F j).ret) hr hm
    exact ⟨by simpa using h0, by simpa using h1, by simpa using h2, by simpa using h3, by simpa using h4, by simpa using h5⟩
  · have := h j (by omega)
    exact ⟨by rw [set6_out (by omega)]; exact this.kind, by rw [set6_out (by omega)]; exact this.hasV, by rw [set6_out (by omega)]; exact this.val, by rw [set6_out (by omega)]; exact this.call,
      by rw [set6_out (by omega)]; exact this.hasR, by rw [set6_out (by omega)]; exact this.ret⟩

theorem Try.info38 : (Try.prog.info? 38).map (fun i => (i.zero, i.size, i.bytes)) = some (some (.agg #[.int .u8 0, .bool false, .string ⟨#[]⟩, .int .i64 0, .bool false, .int .i64 0]), 6, 48) := by kernel_rfl


theorem eql_nil (w : World) (a : Option Addr) (l c : Nat) : (binOp .eql 22 (.slice a l c) (.slice none 0 0)).run Try.prog w = .ok (.bool a.isNone) w :=
  Go.run_eql_slice_nil w 22 38 a l c Try.underlying22

set_option maxHeartbeats 1000000 in
theorem clone_nil (w : World) :
    Calls Try.prog 10 #[.slice none 0 0] w fun e w' => e = .returned (.slice none 0 0) ∧ w' = w := by
  have hs := eql_nil
  go_enter Try.func10, Try.ntmps10
  go_wp2
  go_ret
  exact ⟨rfl, rfl⟩

set_option maxHeartbeats 1000000 in
theorem clone_any (a : Addr) (b off cap : Nat) (len : Nat) (F : Nat → SOp) (w : World) (ha : 0 < len → a = ⟨b, off, none⟩)
   (hm : len ≤ 65536) (hc : ∀ k, k < len → OpAt w b off k (F k)) :
    Calls Try.prog 10 #[.slice (some a) len cap] w fun e w' => e = .returned (.slice (some ⟨w.heap.size, 0, none⟩) len len) ∧ (∀ k, k < len → OpAt w' w.heap.size 0 k (F k)) ∧ Below w.heap.size w w' ∧ w.heap.size < w'.heap.size := by
  have hs := eql_nil
  obtain ⟨i0, hi, hz0, hz1, hz2⟩ := info_parts Try.info38
  by_cases h0 : len = 0
  · subst h0
    clear hc ha hm
    go_enter Try.func10, Try.ntmps10
    go_wp2_with (at_make; refine wpList_make_full _ rfl _ _ 22 rfl w.heap.size 38 i0 _ 6 Try.underlying22 hi hz0 hz1 .i64 .i64 _ _ 0 rfl rfl rfl rfl (by omega) (by unfold maxLen; omega) (by omega) ?_; intro w1 hown hgrow)
    refine wp_loop_rounds 1 ?_
    rw [rounds_succ]
    go_wp2
    go_ret
    exact ⟨rfl, fun k hk => absurd hk (by omega), (Below.refl _ _).grown hgrow (Nat.le_refl _) (fun _ h => by cases h), (Row.ofOwns hown).lt⟩
  · obtain rfl := ha (by omega)
    clear ha
    go_enter Try.func10, Try.ntmps10
    go_wp2_with (at_make; go_loud (refine wpList_make_full _ rfl _ _ 22 rfl w.heap.size 38 i0 _ 6 Try.underlying22 hi hz0 hz1 .i64 .i64 _ _ len rfl rfl rfl rfl (by rw [hz2]; omega) (by unfold maxLen; omega) (by omega) ?_); intro w1 hown hgrow)
    have hrow := Row.ofOwns hown
    have hb1 : Below w.heap.size w w1 := (Below.refl _ _).grown hgrow (Nat.le_refl _) (fun _ h => by cases h)
    clear hown hgrow
    go_loopw [4] (fun i wr => ∃ k : Nat, k ≤ len ∧ i = .int .i64 k ∧ Hid (∀ j, j < k → OpAt wr w.heap.size 0 j (F j)) ∧ Row wr w.heap.size (len * 6) ∧ Below w.heap.size w wr) (fun i _ => len - (intOf i).toNat)
    case atStart => exact ⟨0, Nat.zero_le _, rfl, fun j hj => absurd hj (by omega), hrow, hb1⟩
    case round =>
      obtain ⟨k, hk, rfl, hj, hr, hbl⟩ := hrel
      by_cases hlt : k < len
      · have hb := (hc k hlt).lt
        obtain ⟨c0, c1, c2, c3, c4, c5⟩ := (hc k hlt).same (hbl.block b hb)
        obtain ⟨y0, z0⟩ := hr.cell (i := k * 6) (by omega)
        obtain ⟨y1, z1⟩ := hr.cell (i := k * 6 + 1) (by omega)
        obtain ⟨y2, z2⟩ := hr.cell (i := k * 6 + 2) (by omega)
        obtain ⟨y3, z3⟩ := hr.cell (i := k * 6 + 3) (by omega)
        obtain ⟨y4, z4⟩ := hr.cell (i := k * 6 + 4) (by omega)
        obtain ⟨y5, z5⟩ := hr.cell (i := k * 6 + 5) (by omega)
        have hfr := hr.free
        have H := clone_step hr (k := k) (by omega) hj.out
        have H2 : Hid _ := H
        have hr2 := set6_row (b := w.heap.size) (o := k * 6) (v0 := .int .u8 (F k).kind) (v1 := .bool (F k).hasV) (v2 := .string (F k).val) (v3 := .int .i64 (F k).call) (v4 := .bool (F k).hasR) (v5 := .int .i64 (F k).ret) hr
        have hbl2 := set6_below (b := w.heap.size) (o := k * 6) (v0 := .int .u8 (F k).kind) (v1 := .bool (F k).hasV) (v2 := .string (F k).val) (v3 := .int .i64 (F k).call) (v4 := .bool (F k).hasR) (v5 := .int .i64 (F k).ret) hbl (Nat.le_refl _)
        clear H hj hr hbl hc hrow hb1 hz0 hi
        go_wp2
        go_round
        case rel => exact ⟨k + 1, by omega, by go_num, H2, hr2, hbl2⟩
        case measure => simp [intOf]; omega
      · go_wp2
        go_ret
        exact ⟨rfl, fun j hj' => hj.out j (by omega), hbl, hr.lt⟩
end Go.Proofs.Qxb6600030a
