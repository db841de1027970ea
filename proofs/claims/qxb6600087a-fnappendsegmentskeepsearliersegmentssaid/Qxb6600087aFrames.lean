import Derived.Test.Qxb6600087aBase
namespace Go.Proofs.Qxb6600087a
open Go.ChangeShapes Go.WideShapes Go.ChangeAt Go.RowKit

theorem Try.info26 : (Try.prog.info? 26).map (fun i => (i.zero, i.size, i.bytes)) = some (some (.agg #[.int .i16 0, .int .i16 0]), 2, 4) := by kernel_rfl
theorem Try.info35 : (Try.prog.info? 35).map (fun i => (i.zero, i.size, i.bytes)) = some (some (.agg #[.int .u8 0, .int .i64 0, .int .i64 0, .int .i16 0, .int .i16 0, .int .i16 0, .int .i16 0]), 7, 32) := by kernel_rfl
theorem eql_nil28 (w : World) (a : Option Addr) (l c : Nat) : (binOp .eql 28 (.slice a l c) (.slice none 0 0)).run Try.prog w = .ok (.bool a.isNone) w :=
  Go.run_eql_slice_nil w 28 40 a l c Try.underlying28
theorem eql_nil37 (w : World) (a : Option Addr) (l c : Nat) : (binOp .eql 37 (.slice a l c) (.slice none 0 0)).run Try.prog w = .ok (.bool a.isNone) w :=
  Go.run_eql_slice_nil w 37 43 a l c Try.underlying37

/-- Two stores in a row. -/
def set2 (w : World) (b o : Nat) (v0 v1 : Value) : World := (w.setCell ⟨b, o, none⟩ v0).setCell ⟨b, o + 1, none⟩ v1

theorem frames_step {w : World} {g k m : Nat} {G : Nat → Frm} (hr : Row w g m) (hm : k * 2 + 2 ≤ m) (h : ∀ j, j < k → FrAt w g 0 j (G j)) :
    ∀ j, j < k + 1 → FrAt (set2 w g (k * 2) (.int .i16 (G k).l) (.int .i16 (G k).r)) g 0 j (G j) := by
  intro j hj
  unfold set2
  have r1 := hr.setCell ⟨g, k * 2, none⟩ (.int .i16 (G k).l)
  by_cases e : j = k
  · subst e
    exact ⟨by rw [Nat.zero_add, cell_ne _ (by omega), set_cell hr (by omega)], by rw [Nat.zero_add, set_cell r1 (by omega)]⟩
  · have := h j (by omega)
    exact ⟨by rw [cell_ne _ (by omega), cell_ne _ (by omega)]; exact this.l, by rw [cell_ne _ (by omega), cell_ne _ (by omega)]; exact this.r⟩

set_option maxHeartbeats 400000 in
theorem frames_nil (w : World) : Calls Try.prog 9 #[.slice none 0 0] w fun e w' => e = .returned (.slice none 0 0) ∧ w' = w := by
  have hs := eql_nil28
  go_enter Try.func9, Try.ntmps9
  go_wp2
  go_ret
  exact ⟨rfl, rfl⟩

set_option maxHeartbeats 1000000 in
theorem frames_any (a : Addr) (b off cap : Nat) (len : Nat) (G : Nat → Frm) (w : World) (ha : 0 < len → a = ⟨b, off, none⟩)
   (hm : len ≤ 1048576) (hc : ∀ k, k < len → FrAt w b off k (G k)) :
    Calls Try.prog 9 #[.slice (some a) len cap] w fun e w' => e = .returned (.slice (some ⟨w.heap.size, 0, none⟩) len len) ∧ (∀ k, k < len → FrAt w' w.heap.size 0 k (G k)) ∧ Below w.heap.size w w' ∧ w.heap.size < w'.heap.size := by
  have hs := eql_nil28
  obtain ⟨i0, hi, hz0, hz1, hz2⟩ := info_parts Try.info26
  by_cases h0 : len = 0
  · subst h0
    clear hc ha hm
    go_enter Try.func9, Try.ntmps9
    go_wp2_with (at_make; refine wpList_make_full _ rfl _ _ 30 rfl w.heap.size 26 i0 _ 2 Try.underlying30 hi hz0 hz1 .i64 .i64 _ _ 0 rfl rfl rfl rfl (by omega) (by unfold maxLen; omega) (by omega) ?_; intro w1 hown hgrow)
    refine wp_loop_rounds 1 ?_
    rw [rounds_succ]
    go_wp2
    go_ret
    exact ⟨rfl, fun k hk => absurd hk (by omega), (Below.refl _ _).grown hgrow (Nat.le_refl _) (fun _ h => by cases h), (Row.ofOwns hown).lt⟩
  · obtain rfl := ha (by omega)
    clear ha
    go_enter Try.func9, Try.ntmps9
    go_wp2_with (at_make; refine wpList_make_full _ rfl _ _ 30 rfl w.heap.size 26 i0 _ 2 Try.underlying30 hi hz0 hz1 .i64 .i64 _ _ len rfl rfl rfl rfl (by rw [hz2]; omega) (by unfold maxLen; omega) (by omega) ?_; intro w1 hown hgrow)
    have hrow := Row.ofOwns hown
    have hb1 : Below w.heap.size w w1 := (Below.refl _ _).grown hgrow (Nat.le_refl _) (fun _ h => by cases h)
    clear hown hgrow
    go_loopw [4] (fun i wr => ∃ k : Nat, k ≤ len ∧ i = .int .i64 k ∧ Hid (∀ j, j < k → FrAt wr w.heap.size 0 j (G j)) ∧ Row wr w.heap.size (len * 2) ∧ Below w.heap.size w wr) (fun i _ => len - (intOf i).toNat)
    case atStart => exact ⟨0, Nat.zero_le _, rfl, fun j hj => absurd hj (by omega), hrow, hb1⟩
    case round =>
      obtain ⟨k, hk, rfl, hj, hr, hbl⟩ := hrel
      by_cases hlt : k < len
      · have hb := (hc k hlt).lt
        obtain ⟨c0, c1⟩ := (hc k hlt).same (hbl.block b hb)
        obtain ⟨y0, z0⟩ := hr.cell (i := k * 2) (by omega)
        obtain ⟨y1, z1⟩ := hr.cell (i := k * 2 + 1) (by omega)
        have hfr := hr.free
        have hlt' : (k : Int) < (len : Int) := by omega
        have H2 : Hid _ := frames_step hr (k := k) (by omega) hj.out
        have hr2 : Row (set2 wr w.heap.size (k * 2) (.int .i16 (G k).l) (.int .i16 (G k).r)) w.heap.size (len * 2) := (hr.setCell _ _).setCell _ _
        have hbl2 : Below w.heap.size w (set2 wr w.heap.size (k * 2) (.int .i16 (G k).l) (.int .i16 (G k).r)) := (hbl.setCell (p := ⟨w.heap.size, k * 2, none⟩) (Nat.le_refl _) _).setCell (p := ⟨w.heap.size, k * 2 + 1, none⟩) (Nat.le_refl _) _
        clear hj hr hbl hc hrow hb1 hz0 hi
        go_wp2
        go_region
        go_wp2
        go_round
        case rel => exact ⟨k + 1, by omega, by go_num, fun j hj => (H2.out j hj).same rfl, hr2.same rfl, hbl2.drew⟩
        case measure => simp [intOf]; omega
      · go_wp2
        go_ret
        exact ⟨rfl, fun j hj' => hj.out j (by omega), hbl, hr.lt⟩
end Go.Proofs.Qxb6600087a
