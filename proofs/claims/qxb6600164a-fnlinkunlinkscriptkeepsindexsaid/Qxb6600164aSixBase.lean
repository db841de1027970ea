import Derived.Test.Qxb6600164aSixPlain
import Derived.Test.Qxb6600164aFive
import Derived.OwnWalk
import Derived.Lib.LazyBuf
namespace Go.Proofs.Qxb6600164a
open Go.MapKept
open Go.ChangeShapes Go.WideShapes Go.ChangeAt Go.RowKit

theorem Try.info9 : (Try.prog.info? 9).map (fun i => (i.zero, i.size, i.bytes)) = some (some (.string ⟨#[]⟩), 1, 16) := by kernel_rfl
theorem Try.info2 : (Try.prog.info? 2).map (fun i => (i.zero, i.size, i.bytes)) = some (some (.int .i64 0), 1, 8) := by kernel_rfl
theorem Try.info46 : (Try.prog.info? 46).map (fun i => (i.zero, i.size, i.bytes)) = some (some (.int .u16 0), 1, 2) := by kernel_rfl
theorem Try.info3 : (Try.prog.info? 3).map (fun i => (i.zero, i.size, i.bytes)) = some (some (.int .i64 0), 1, 8) := by kernel_rfl
theorem Try.info4 : (Try.prog.info? 4).map (fun i => (i.zero, i.size, i.bytes)) = some (some (.bool false), 1, 1) := by kernel_rfl
theorem eql_nil37 (w : World) (a : Option Addr) (l c : Nat) : (binOp .eql 37 (.slice a l c) (.slice none 0 0)).run Try.prog w = .ok (.bool a.isNone) w :=
  Go.run_eql_slice_nil w 37 9 a l c Try.underlying37
theorem eql_nil38 (w : World) (a : Option Addr) (l c : Nat) : (binOp .eql 38 (.slice a l c) (.slice none 0 0)).run Try.prog w = .ok (.bool a.isNone) w :=
  Go.run_eql_slice_nil w 38 2 a l c Try.underlying38
theorem eql_nil39 (w : World) (a : Option Addr) (l c : Nat) : (binOp .eql 39 (.slice a l c) (.slice none 0 0)).run Try.prog w = .ok (.bool a.isNone) w :=
  Go.run_eql_slice_nil w 39 46 a l c Try.underlying39

/-- Block g is a row of n cells, none frozen; cell k holds f k. -/
structure Arr (w : World) (g n : Nat) (f : Nat → Value) : Prop where
  row : Row w g n
  at' : ∀ k, k < n → w.cell? ⟨g, k, none⟩ = some (f k)
theorem Arr.same {w w' : World} {g n : Nat} {f : Nat → Value} (h : Arr w g n f) (e : w'.heap[g]? = w.heap[g]?) : Arr w' g n f := ⟨h.row.same e, fun k hk => by rw [cell_same e]; exact h.at' k hk⟩
theorem Arr.lt {w : World} {g n : Nat} {f : Nat → Value} (h : Arr w g n f) : g < w.heap.size := h.row.lt
theorem Arr.below {w w' : World} {B g n : Nat} {f : Nat → Value} (h : Arr w g n f) (b : Below B w w') (hg : g < B) : Arr w' g n f := h.same (b.block g hg)
theorem Arr.below' {w w' : World} {g n : Nat} {f : Nat → Value} (h : Arr w g n f) (b : Below w.heap.size w w') : Arr w' g n f := h.same (b.block g h.lt)
theorem Arr.congr {w : World} {g n : Nat} {f f' : Nat → Value} (h : Arr w g n f) (e : ∀ k, k < n → f' k = f k) : Arr w g n f' := ⟨h.row, fun k hk => by rw [e k hk]; exact h.at' k hk⟩
theorem Arr.set {w : World} {g n : Nat} {f : Nat → Value} (h : Arr w g n f) {k : Nat} (hk : k < n) (v : Value) : Arr (w.setCell ⟨g, k, none⟩ v) g n (fun j => if j = k then v else f j) := by
  refine ⟨h.row.setCell _ _, fun j hj => ?_⟩
  by_cases e : j = k
  · subst e; rw [set_cell h.row hk, if_pos rfl]
  · rw [cell_ne _ (fun q => e q.symm), if_neg e]; exact h.at' j hj
theorem Arr.other {w : World} {g n : Nat} {f : Nat → Value} (h : Arr w g n f) {b k : Nat} (hb : g ≠ b) (v : Value) : Arr (w.setCell ⟨b, k, none⟩ v) g n f := h.same (Below.heap_setCell _ _ _ _ hb)
theorem Arr.free {w : World} {g n : Nat} {f : Nat → Value} (h : Arr w g n f) (k : Nat) : w.frozen? ⟨g, k, none⟩ = false := h.row.free k

theorem Arr.made {w : World} {base e g n : Nat} {z : Value} (hz : z.cells = #[z]) (h : w.ownsRow base e 1 (.slice (some ⟨g, 0, none⟩) n n) n (madeCells z.cells (n * 1)).toList) : Arr w g n (fun _ => z) := by
  have hr := Row.ofOwns h
  rw [Nat.mul_one] at hr
  refine ⟨hr, fun k hk => ?_⟩
  obtain ⟨_, h | ⟨g', cap', cur, h1, h2, h3, h4, h5, h6, h7⟩⟩ := h
  · cases h.1
  · cases h1
    rw [hz, Nat.mul_one] at h7
    have hs : cur.toList[k]? = some z := by
      have : (cur.toList.take n)[k]? = some z := by
        rw [h7]; simp [madeCells, hk, Nat.mod_one]
      rw [List.getElem?_take, if_pos hk] at this
      exact this
    simp only [World.cell?, h3]
    simpa using hs

/-- What a slice in holds. -/
def InS (w : World) (ao : Option Addr) (len : Nat) (f : Nat → Value) : Prop :=
  (ao = none ∧ len = 0) ∨ ∃ a, ao = some a ∧ (0 < len → a = ⟨a.block, a.off, none⟩) ∧ ∀ k, k < len → w.cell? ⟨a.block, a.off + k, none⟩ = some (f k)
theorem InS.below {w w' : World} {ao : Option Addr} {len : Nat} {f : Nat → Value} (h : InS w ao len f) (b : Below w.heap.size w w') : InS w' ao len f := by
  rcases h with h | ⟨a, h1, h2, h3⟩
  · exact .inl h
  · exact .inr ⟨a, h1, h2, fun k hk => by rw [cell_same (b.block _ (cell_lt (h3 k hk)))]; exact h3 k hk⟩
/-- What a slice of ours holds, in block g. -/
def OurS (w : World) (g : Nat) (ao : Option Addr) (len : Nat) (f : Nat → Value) : Prop := 0 < len → ao = some ⟨g, 0, none⟩ ∧ Arr w g len f
/-- What a clone comes to. -/
def Cloned (w : World) (len : Nat) (f : Nat → Value) (e : Ending) (w' : World) : Prop := ∃ ao' cap', e = .returned (.slice ao' len cap') ∧ OurS w' w.heap.size ao' len f ∧ Below w.heap.size w w'
theorem Cloned.mk {w : World} {len : Nat} {f : Nat → Value} {v : Value} {w' : World} {ao' : Option Addr} {cap' : Nat} (h : v = .slice ao' len cap') (h1 : OurS w' w.heap.size ao' len f) (h2 : Below w.heap.size w w') : Cloned w len f (.returned v) w' := ⟨ao', cap', by rw [h], h1, h2⟩

set_option maxHeartbeats 1000000 in
theorem clone20 (ao : Option Addr) (len cap : Nat) (f : Nat → ByteArray) (w : World) (hin : InS w ao len (fun k => .string (f k))) (hm : len ≤ 1048576) :
    Calls Try.prog 20 #[.slice ao len cap] w (Cloned w len (fun k => .string (f k))) := by
  have hs := eql_nil37
  obtain ⟨i0, hi, hz0, hz1, hz2⟩ := info_parts Try.info9
  rcases hin with ⟨rfl, rfl⟩ | ⟨a, rfl, ha, hc⟩
  · go_enter Try.func20, Try.ntmps20
    go_wp2
    go_ret
    exact .mk rfl (fun h => absurd h (by omega)) (Below.refl _ _)
  · by_cases h0 : len = 0
    · subst h0
      clear hc ha hm
      go_enter Try.func20, Try.ntmps20
      go_wp2_with (at_make; refine wpList_make_full _ rfl _ _ 37 rfl w.heap.size 9 i0 _ 1 Try.underlying37 hi hz0 hz1 .i64 .i64 _ _ 0 rfl rfl rfl rfl (by omega) (by unfold maxLen; omega) (by omega) ?_; intro w1 hown hgrow)
      refine wp_loop_rounds 1 ?_
      rw [rounds_succ]
      go_wp2
      go_ret
      exact .mk rfl (fun h => absurd h (by omega)) ((Below.refl _ _).grown hgrow (Nat.le_refl _) (fun _ h => by cases h))
    · obtain ⟨b, off, sp⟩ := a
      obtain rfl : sp = none := by have := ha (by omega); cases this; rfl
      clear ha
      go_enter Try.func20, Try.ntmps20
      go_wp2_with (at_make; refine wpList_make_full _ rfl _ _ 37 rfl w.heap.size 9 i0 _ 1 Try.underlying37 hi hz0 hz1 .i64 .i64 _ _ len rfl rfl rfl rfl (by rw [hz2]; omega) (by unfold maxLen; omega) (by omega) ?_; intro w1 hown hgrow)
      have hrow := Row.ofOwns hown
      rw [Nat.mul_one] at hrow
      have hb1 : Below w.heap.size w w1 := (Below.refl _ _).grown hgrow (Nat.le_refl _) (fun _ h => by cases h)
      clear hown hgrow
      go_loopw [4] (fun i wr => ∃ k : Nat, k ≤ len ∧ i = .int .i64 k ∧ Hid (∀ k', k' < k → wr.cell? ⟨w.heap.size, k', none⟩ = some ((fun k => .string (f k) : Nat → Value) k')) ∧ Row wr w.heap.size len ∧ Below w.heap.size w wr) (fun i _ => len - (intOf i).toNat)
      case atStart => exact ⟨0, Nat.zero_le _, rfl, fun j hj => absurd hj (by omega), hrow, hb1⟩
      case round =>
        obtain ⟨k, hk, rfl, hj, hr, hbl⟩ := hrel
        by_cases hlt : k < len
        · have hb := cell_lt (hc k hlt)
          have c0 : wr.cell? ⟨b, off + k, none⟩ = some (.string (f k)) := by rw [cell_same (hbl.block b hb)]; exact hc k hlt
          obtain ⟨y0, z0⟩ := hr.cell (i := k) hlt
          have hfr := hr.free
          have hlt' : (k : Int) < (len : Int) := by omega
          have H2 : Hid (∀ k', k' < k + 1 → (wr.setCell ⟨w.heap.size, k, none⟩ (.string (f k))).cell? ⟨w.heap.size, k', none⟩ = some ((fun k => .string (f k) : Nat → Value) k')) := by
            intro j hj'
            by_cases e : j = k
            · subst e; rw [set_cell hr hlt]
            · rw [cell_ne _ (fun q => e q.symm)]; exact hj.out j (by omega)
          have hr2 : Row (wr.setCell ⟨w.heap.size, k, none⟩ (.string (f k))) w.heap.size len := hr.setCell _ _
          have hbl2 : Below w.heap.size w (wr.setCell ⟨w.heap.size, k, none⟩ (.string (f k))) := hbl.setCell (p := ⟨w.heap.size, k, none⟩) (Nat.le_refl _) _
          clear hj hr hbl hc hrow hb1 hz0 hi
          go_wp2
          go_round
          case rel => exact ⟨k + 1, by omega, by go_num, H2, hr2, hbl2⟩
          case measure => simp [intOf]; omega
        · go_wp2
          go_ret
          exact .mk rfl (fun _ => ⟨rfl, hr, fun j hj' => hj.out j (by omega)⟩) hbl

set_option maxHeartbeats 1000000 in
theorem clone21 (ao : Option Addr) (len cap : Nat) (f : Nat → Int) (w : World) (hin : InS w ao len (fun k => .int .i64 (f k))) (hm : len ≤ 1048576) :
    Calls Try.prog 21 #[.slice ao len cap] w (Cloned w len (fun k => .int .i64 (f k))) := by
  have hs := eql_nil38
  obtain ⟨i0, hi, hz0, hz1, hz2⟩ := info_parts Try.info2
  rcases hin with ⟨rfl, rfl⟩ | ⟨a, rfl, ha, hc⟩
  · go_enter Try.func21, Try.ntmps21
    go_wp2
    go_ret
    exact .mk rfl (fun h => absurd h (by omega)) (Below.refl _ _)
  · by_cases h0 : len = 0
    · subst h0
      clear hc ha hm
      go_enter Try.func21, Try.ntmps21
      go_wp2_with (at_make; refine wpList_make_full _ rfl _ _ 38 rfl w.heap.size 2 i0 _ 1 Try.underlying38 hi hz0 hz1 .i64 .i64 _ _ 0 rfl rfl rfl rfl (by omega) (by unfold maxLen; omega) (by omega) ?_; intro w1 hown hgrow)
      refine wp_loop_rounds 1 ?_
      rw [rounds_succ]
      go_wp2
      go_ret
      exact .mk rfl (fun h => absurd h (by omega)) ((Below.refl _ _).grown hgrow (Nat.le_refl _) (fun _ h => by cases h))
    · obtain ⟨b, off, sp⟩ := a
      obtain rfl : sp = none := by have := ha (by omega); cases this; rfl
      clear ha
      go_enter Try.func21, Try.ntmps21
      go_wp2_with (at_make; refine wpList_make_full _ rfl _ _ 38 rfl w.heap.size 2 i0 _ 1 Try.underlying38 hi hz0 hz1 .i64 .i64 _ _ len rfl rfl rfl rfl (by rw [hz2]; omega) (by unfold maxLen; omega) (by omega) ?_; intro w1 hown hgrow)
      have hrow := Row.ofOwns hown
      rw [Nat.mul_one] at hrow
      have hb1 : Below w.heap.size w w1 := (Below.refl _ _).grown hgrow (Nat.le_refl _) (fun _ h => by cases h)
      clear hown hgrow
      go_loopw [4] (fun i wr => ∃ k : Nat, k ≤ len ∧ i = .int .i64 k ∧ Hid (∀ k', k' < k → wr.cell? ⟨w.heap.size, k', none⟩ = some ((fun k => .int .i64 (f k) : Nat → Value) k')) ∧ Row wr w.heap.size len ∧ Below w.heap.size w wr) (fun i _ => len - (intOf i).toNat)
      case atStart => exact ⟨0, Nat.zero_le _, rfl, fun j hj => absurd hj (by omega), hrow, hb1⟩
      case round =>
        obtain ⟨k, hk, rfl, hj, hr, hbl⟩ := hrel
        by_cases hlt : k < len
        · have hb := cell_lt (hc k hlt)
          have c0 : wr.cell? ⟨b, off + k, none⟩ = some (.int .i64 (f k)) := by rw [cell_same (hbl.block b hb)]; exact hc k hlt
          obtain ⟨y0, z0⟩ := hr.cell (i := k) hlt
          have hfr := hr.free
          have hlt' : (k : Int) < (len : Int) := by omega
          have H2 : Hid (∀ k', k' < k + 1 → (wr.setCell ⟨w.heap.size, k, none⟩ (.int .i64 (f k))).cell? ⟨w.heap.size, k', none⟩ = some ((fun k => .int .i64 (f k) : Nat → Value) k')) := by
            intro j hj'
            by_cases e : j = k
            · subst e; rw [set_cell hr hlt]
            · rw [cell_ne _ (fun q => e q.symm)]; exact hj.out j (by omega)
          have hr2 : Row (wr.setCell ⟨w.heap.size, k, none⟩ (.int .i64 (f k))) w.heap.size len := hr.setCell _ _
          have hbl2 : Below w.heap.size w (wr.setCell ⟨w.heap.size, k, none⟩ (.int .i64 (f k))) := hbl.setCell (p := ⟨w.heap.size, k, none⟩) (Nat.le_refl _) _
          clear hj hr hbl hc hrow hb1 hz0 hi
          go_wp2
          go_round
          case rel => exact ⟨k + 1, by omega, by go_num, H2, hr2, hbl2⟩
          case measure => simp [intOf]; omega
        · go_wp2
          go_ret
          exact .mk rfl (fun _ => ⟨rfl, hr, fun j hj' => hj.out j (by omega)⟩) hbl

set_option maxHeartbeats 1000000 in
theorem clone22 (ao : Option Addr) (len cap : Nat) (f : Nat → Nat) (w : World) (hin : InS w ao len (fun k => .int .u16 (f k : Nat))) (hm : len ≤ 1048576) :
    Calls Try.prog 22 #[.slice ao len cap] w (Cloned w len (fun k => .int .u16 (f k : Nat))) := by
  have hs := eql_nil39
  obtain ⟨i0, hi, hz0, hz1, hz2⟩ := info_parts Try.info46
  rcases hin with ⟨rfl, rfl⟩ | ⟨a, rfl, ha, hc⟩
  · go_enter Try.func22, Try.ntmps22
    go_wp2
    go_ret
    exact .mk rfl (fun h => absurd h (by omega)) (Below.refl _ _)
  · by_cases h0 : len = 0
    · subst h0
      clear hc ha hm
      go_enter Try.func22, Try.ntmps22
      go_wp2_with (at_make; refine wpList_make_full _ rfl _ _ 39 rfl w.heap.size 46 i0 _ 1 Try.underlying39 hi hz0 hz1 .i64 .i64 _ _ 0 rfl rfl rfl rfl (by omega) (by unfold maxLen; omega) (by omega) ?_; intro w1 hown hgrow)
      refine wp_loop_rounds 1 ?_
      rw [rounds_succ]
      go_wp2
      go_ret
      exact .mk rfl (fun h => absurd h (by omega)) ((Below.refl _ _).grown hgrow (Nat.le_refl _) (fun _ h => by cases h))
    · obtain ⟨b, off, sp⟩ := a
      obtain rfl : sp = none := by have := ha (by omega); cases this; rfl
      clear ha
      go_enter Try.func22, Try.ntmps22
      go_wp2_with (at_make; refine wpList_make_full _ rfl _ _ 39 rfl w.heap.size 46 i0 _ 1 Try.underlying39 hi hz0 hz1 .i64 .i64 _ _ len rfl rfl rfl rfl (by rw [hz2]; omega) (by unfold maxLen; omega) (by omega) ?_; intro w1 hown hgrow)
      have hrow := Row.ofOwns hown
      rw [Nat.mul_one] at hrow
      have hb1 : Below w.heap.size w w1 := (Below.refl _ _).grown hgrow (Nat.le_refl _) (fun _ h => by cases h)
      clear hown hgrow
      go_loopw [4] (fun i wr => ∃ k : Nat, k ≤ len ∧ i = .int .i64 k ∧ Hid (∀ k', k' < k → wr.cell? ⟨w.heap.size, k', none⟩ = some ((fun k => .int .u16 (f k : Nat) : Nat → Value) k')) ∧ Row wr w.heap.size len ∧ Below w.heap.size w wr) (fun i _ => len - (intOf i).toNat)
      case atStart => exact ⟨0, Nat.zero_le _, rfl, fun j hj => absurd hj (by omega), hrow, hb1⟩
      case round =>
        obtain ⟨k, hk, rfl, hj, hr, hbl⟩ := hrel
        by_cases hlt : k < len
        · have hb := cell_lt (hc k hlt)
          have c0 : wr.cell? ⟨b, off + k, none⟩ = some (.int .u16 (f k : Nat)) := by rw [cell_same (hbl.block b hb)]; exact hc k hlt
          obtain ⟨y0, z0⟩ := hr.cell (i := k) hlt
          have hfr := hr.free
          have hlt' : (k : Int) < (len : Int) := by omega
          have H2 : Hid (∀ k', k' < k + 1 → (wr.setCell ⟨w.heap.size, k, none⟩ (.int .u16 (f k : Nat))).cell? ⟨w.heap.size, k', none⟩ = some ((fun k => .int .u16 (f k : Nat) : Nat → Value) k')) := by
            intro j hj'
            by_cases e : j = k
            · subst e; rw [set_cell hr hlt]
            · rw [cell_ne _ (fun q => e q.symm)]; exact hj.out j (by omega)
          have hr2 : Row (wr.setCell ⟨w.heap.size, k, none⟩ (.int .u16 (f k : Nat))) w.heap.size len := hr.setCell _ _
          have hbl2 : Below w.heap.size w (wr.setCell ⟨w.heap.size, k, none⟩ (.int .u16 (f k : Nat))) := hbl.setCell (p := ⟨w.heap.size, k, none⟩) (Nat.le_refl _) _
          clear hj hr hbl hc hrow hb1 hz0 hi
          go_wp2
          go_round
          case rel => exact ⟨k + 1, by omega, by go_num, H2, hr2, hbl2⟩
          case measure => simp [intOf]; omega
        · go_wp2
          go_ret
          exact .mk rfl (fun _ => ⟨rfl, hr, fun j hj' => hj.out j (by omega)⟩) hbl

set_option maxHeartbeats 1000000 in
theorem zz19 (ao bo co : Option Addr) (len lb lc cap cb cc : Nat) (f : Nat → ByteArray) (w : World) (hin : InS w ao len (fun k => .string (f k))) (hs : ∀ k, k < len → (f k).size ≤ maxLen) (hm : len ≤ maxLen) (hb : lb ≤ maxLen) (hc : lc ≤ maxLen) :
    Calls Try.prog 19 #[.slice ao len cap, .slice bo lb cb, .slice co lc cc] w fun e w' => RetB (fun r => r = true → ∀ k, k < len → (f k).size ≤ 1048576) e ∧ w' = w := by
  unfold maxLen at *
  go_enter Try.func19, Try.ntmps19
  go_wp2_with fail
  · go_ret
    exact ⟨.mk rfl (fun h => by cases h), rfl⟩
  · go_loopw [7, 8] (fun s i wr => wr = w ∧ ∃ k z : Nat, k ≤ len ∧ i = .int .i64 k ∧ s = .int .i64 z ∧ z ≤ 1048576 ∧ Hid (∀ j, j < k → (f j).size ≤ 1048576)) (fun s i _ => len - (intOf i).toNat)
    case atStart => exact ⟨rfl, 0, len, by omega, rfl, rfl, by omega, fun j hj => absurd hj (by omega)⟩
    case round =>
      obtain ⟨rfl, k, z, hk, rfl, rfl, hz, hsm⟩ := hrel
      by_cases hlt : k < len
      · rcases hin with ⟨rfl, rfl⟩ | ⟨a, rfl, ha, hcell⟩
        · omega
        · obtain ⟨b, off, sp⟩ := a
          obtain rfl : sp = none := by have := ha (by omega); cases this; rfl
          have c0 := hcell k hlt
          have hsz := hs k hlt
          clear hcell hs
          go_wp2
          all_goals first
            | (go_ret; exact ⟨.mk rfl (fun h => by cases h), rfl⟩)
            | skip
          go_round
          case rel => exact ⟨trivial, k + 1, z + (f k).size, by omega, by go_num, by go_num, by omega, fun j hj => by
            by_cases e : j = k
            · subst e; omega
            · exact hsm.out j (by omega)⟩
          case measure => simp [intOf]; omega
      · clear hin hs
        go_wp2
        all_goals
          go_ret
          exact ⟨.mk rfl (fun _ j hj => hsm.out j (by omega)), rfl⟩
end Go.Proofs.Qxb6600164a
