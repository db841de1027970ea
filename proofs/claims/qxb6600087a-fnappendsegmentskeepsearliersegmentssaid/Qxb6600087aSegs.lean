import Derived.Test.Qxb6600087aFrames
namespace Go.Proofs.Qxb6600087a
open Go.ChangeShapes Go.WideShapes Go.ChangeAt Go.RowKit

def cellsOf (s : Seg) : List Value := [.int .u8 s.kind, .int .i64 s.start, .int .i64 s.len, .int .i16 s.fl, .int .i16 s.fr, .int .i16 s.ll, .int .i16 s.lr]
def encS (S : List Seg) : List Value := S.flatMap cellsOf

theorem encS_length (S : List Seg) : (encS S).length = S.length * 7 := by
  induction S with
  | nil => rfl
  | cons s T ih => simp only [encS, List.flatMap_cons, List.length_append, List.length_cons] at *; rw [ih]; simp [cellsOf]; omega
theorem encS_append (S T : List Seg) : encS (S ++ T) = encS S ++ encS T := by simp [encS]
theorem encS_get (S : List Seg) (j t : Nat) (hj : j < S.length) (ht : t < 7) : (encS S)[j * 7 + t]? = (cellsOf S[j])[t]? := by
  induction S generalizing j with
  | nil => simp at hj
  | cons s T ih =>
    have e : encS (s :: T) = cellsOf s ++ encS T := rfl
    have hl : (cellsOf s).length = 7 := rfl
    rw [e]
    cases j with
    | zero => rw [Nat.zero_mul, Nat.zero_add, List.getElem?_append_left (by omega)]; rfl
    | succ j =>
      rw [List.getElem?_append_right (by omega), hl, show (j + 1) * 7 + t - 7 = j * 7 + t by omega]
      simpa using ih j (by simpa using hj)
theorem eq_encS {S : List Seg} {xs : List Value} (hl : xs.length = S.length * 7) (h : ∀ j t (hj : j < S.length), t < 7 → xs[j * 7 + t]? = (cellsOf S[j])[t]?) : xs = encS S := by
  apply List.ext_getElem?
  intro i
  by_cases hi : i < S.length * 7
  · have h1 : i / 7 < S.length := by omega
    have h2 : i % 7 < 7 := by omega
    have e : i / 7 * 7 + i % 7 = i := by omega
    rw [← e, h _ _ h1 h2, encS_get _ _ _ h1 h2]
  · rw [List.getElem?_eq_none (by omega), List.getElem?_eq_none (by rw [encS_length]; omega)]

/-- Segment k of a row, at cell 'off + k * 7' of block b. -/
structure SegAt (w : World) (b off k : Nat) (s : Seg) : Prop where
  kind : w.cell? ⟨b, off + k * 7, none⟩ = some (.int .u8 s.kind)
  start : w.cell? ⟨b, off + k * 7 + 1, none⟩ = some (.int .i64 s.start)
  len : w.cell? ⟨b, off + k * 7 + 2, none⟩ = some (.int .i64 s.len)
  fl : w.cell? ⟨b, off + k * 7 + 3, none⟩ = some (.int .i16 s.fl)
  fr : w.cell? ⟨b, off + k * 7 + 4, none⟩ = some (.int .i16 s.fr)
  ll : w.cell? ⟨b, off + k * 7 + 5, none⟩ = some (.int .i16 s.ll)
  lr : w.cell? ⟨b, off + k * 7 + 6, none⟩ = some (.int .i16 s.lr)
theorem SegAt.same {w w' : World} {b off k : Nat} {s : Seg} (h : SegAt w b off k s) (e : w'.heap[b]? = w.heap[b]?) : SegAt w' b off k s :=
  ⟨(cell_same e _).trans h.kind, (cell_same e _).trans h.start, (cell_same e _).trans h.len, (cell_same e _).trans h.fl, (cell_same e _).trans h.fr, (cell_same e _).trans h.ll, (cell_same e _).trans h.lr⟩
theorem SegAt.lt {w : World} {b off k : Nat} {s : Seg} (h : SegAt w b off k s) : b < w.heap.size := cell_lt h.kind
theorem SegAt.get {w : World} {b k : Nat} {s : Seg} (h : SegAt w b 0 k s) {t : Nat} (ht : t < 7) : w.cell? ⟨b, k * 7 + t, none⟩ = (cellsOf s)[t]? := by
  have := h.kind; have := h.start; have := h.len; have := h.fl; have := h.fr; have := h.ll; have := h.lr
  rw [Nat.zero_add] at *
  match t, ht with
  | 0, _ => assumption
  | 1, _ => assumption
  | 2, _ => assumption
  | 3, _ => assumption
  | 4, _ => assumption
  | 5, _ => assumption
  | 6, _ => assumption

/-- Out of an owned row. -/
theorem segAt_owns {w : World} {base g cap n : Nat} {S : List Seg} (h : w.ownsRow base 35 7 (.slice (some ⟨g, 0, none⟩) n cap) n (encS S)) (hn : S.length = n) {j : Nat} (hj : j < S.length) : SegAt w g 0 j S[j] := by
  have c : ∀ t, t < 7 → w.cell? ⟨g, 0 + j * 7 + t, none⟩ = (cellsOf S[j])[t]? := fun t ht => by
    rw [Nat.zero_add, h.cellAt (j * 7 + t) (by omega), encS_get _ _ _ hj ht]
  exact ⟨c 0 (by omega), c 1 (by omega), c 2 (by omega), c 3 (by omega), c 4 (by omega), c 5 (by omega), c 6 (by omega)⟩

/-- Into an owned row. -/
theorem owns_segAt {w : World} {base g n : Nat} {S : List Seg} {xs : List Value} (h : w.ownsRow base 35 7 (.slice (some ⟨g, 0, none⟩) n n) n xs) (hn : S.length = n) (hs : ∀ j (hj : j < S.length), SegAt w g 0 j S[j]) :
    w.ownsRow base 35 7 (.slice (some ⟨g, 0, none⟩) n n) n (encS S) := by
  have e : xs = encS S := eq_encS (by rw [hn]; exact h.1) (fun j t hj ht => by
    rw [← (hs j hj).get ht, h.cellAt (j * 7 + t) (by omega)])
  rw [← e]; exact h

/-- Seven stores in a row. -/
def set7 (w : World) (b o : Nat) (v0 v1 v2 v3 v4 v5 v6 : Value) : World :=
  ((((((w.setCell ⟨b, o, none⟩ v0).setCell ⟨b, o + 1, none⟩ v1).setCell ⟨b, o + 2, none⟩ v2).setCell ⟨b, o + 3, none⟩ v3).setCell ⟨b, o + 4, none⟩ v4).setCell ⟨b, o + 5, none⟩ v5).setCell ⟨b, o + 6, none⟩ v6
def setSeg (w : World) (b o : Nat) (s : Seg) : World := set7 w b o (.int .u8 s.kind) (.int .i64 s.start) (.int .i64 s.len) (.int .i16 s.fl) (.int .i16 s.fr) (.int .i16 s.ll) (.int .i16 s.lr)

theorem set7_row {w : World} {b o : Nat} {v0 v1 v2 v3 v4 v5 v6 : Value} {g m : Nat} (h : Row w g m) : Row (set7 w b o v0 v1 v2 v3 v4 v5 v6) g m := ((((((h.setCell _ _).setCell _ _).setCell _ _).setCell _ _).setCell _ _).setCell _ _).setCell _ _
theorem set7_below {B : Nat} {w0 w : World} {b o : Nat} {v0 v1 v2 v3 v4 v5 v6 : Value} (h : Below B w0 w) (hb : B ≤ b) : Below B w0 (set7 w b o v0 v1 v2 v3 v4 v5 v6) :=
  ((((((h.setCell (p := ⟨b, o, none⟩) hb _).setCell (p := ⟨b, o + 1, none⟩) hb _).setCell (p := ⟨b, o + 2, none⟩) hb _).setCell (p := ⟨b, o + 3, none⟩) hb _).setCell (p := ⟨b, o + 4, none⟩) hb _).setCell (p := ⟨b, o + 5, none⟩) hb _).setCell (p := ⟨b, o + 6, none⟩) hb _
theorem set7_out {w : World} {b o : Nat} {v0 v1 v2 v3 v4 v5 v6 : Value} {j : Nat} (h : j < o ∨ o + 7 ≤ j) : (set7 w b o v0 v1 v2 v3 v4 v5 v6).cell? ⟨b, j, none⟩ = w.cell? ⟨b, j, none⟩ := by
  unfold set7
  rw [cell_ne _ (by omega), cell_ne _ (by omega), cell_ne _ (by omega), cell_ne _ (by omega), cell_ne _ (by omega), cell_ne _ (by omega), cell_ne _ (by omega)]
theorem owns_set7 {w : World} {base e size g n cap : Nat} {xs : List Value} {o : Nat} {v0 v1 v2 v3 v4 v5 v6 : Value} (h : w.ownsRow base e size (.slice (some ⟨g, 0, none⟩) n cap) n xs) :
    ∃ ys, (set7 w g o v0 v1 v2 v3 v4 v5 v6).ownsRow base e size (.slice (some ⟨g, 0, none⟩) n cap) n ys :=
  ⟨_, (((((((h.stored o v0).1.stored (o + 1) v1).1.stored (o + 2) v2).1.stored (o + 3) v3).1.stored (o + 4) v4).1.stored (o + 5) v5).1.stored (o + 6) v6).1⟩
theorem setSeg_at {w : World} {g k m : Nat} (hr : Row w g m) (hm : k * 7 + 7 ≤ m) (s : Seg) : SegAt (setSeg w g (k * 7) s) g 0 k s := by
  have r1 := hr.setCell ⟨g, k * 7, none⟩ (.int .u8 s.kind)
  have r2 := r1.setCell ⟨g, k * 7 + 1, none⟩ (.int .i64 s.start)
  have r3 := r2.setCell ⟨g, k * 7 + 2, none⟩ (.int .i64 s.len)
  have r4 := r3.setCell ⟨g, k * 7 + 3, none⟩ (.int .i16 s.fl)
  have r5 := r4.setCell ⟨g, k * 7 + 4, none⟩ (.int .i16 s.fr)
  have r6 := r5.setCell ⟨g, k * 7 + 5, none⟩ (.int .i16 s.ll)
  unfold setSeg set7
  refine ⟨?_, ?_, ?_, ?_, ?_, ?_, ?_⟩ <;> rw [Nat.zero_add]
  · rw [cell_ne _ (by omega), cell_ne _ (by omega), cell_ne _ (by omega), cell_ne _ (by omega), cell_ne _ (by omega), cell_ne _ (by omega), set_cell hr (by omega)]
  · rw [cell_ne _ (by omega), cell_ne _ (by omega), cell_ne _ (by omega), cell_ne _ (by omega), cell_ne _ (by omega), set_cell r1 (by omega)]
  · rw [cell_ne _ (by omega), cell_ne _ (by omega), cell_ne _ (by omega), cell_ne _ (by omega), set_cell r2 (by omega)]
  · rw [cell_ne _ (by omega), cell_ne _ (by omega), cell_ne _ (by omega), set_cell r3 (by omega)]
  · rw [cell_ne _ (by omega), cell_ne _ (by omega), set_cell r4 (by omega)]
  · rw [cell_ne _ (by omega), set_cell r5 (by omega)]
  · rw [set_cell r6 (by omega)]
theorem segs_step {w : World} {g k m : Nat} {F : Nat → Seg} (hr : Row w g m) (hm : k * 7 + 7 ≤ m) (h : ∀ j, j < k → SegAt w g 0 j (F j)) : ∀ j, j < k + 1 → SegAt (setSeg w g (k * 7) (F k)) g 0 j (F j) := by
  intro j hj
  by_cases e : j = k
  · subst e; exact setSeg_at hr hm _
  · have := h j (by omega)
    have o : ∀ t, t < 7 → (setSeg w g (k * 7) (F k)).cell? ⟨g, 0 + j * 7 + t, none⟩ = w.cell? ⟨g, 0 + j * 7 + t, none⟩ := fun t ht => set7_out (by omega)
    exact ⟨(o 0 (by omega)).trans this.kind, (o 1 (by omega)).trans this.start, (o 2 (by omega)).trans this.len, (o 3 (by omega)).trans this.fl, (o 4 (by omega)).trans this.fr, (o 5 (by omega)).trans this.ll, (o 6 (by omega)).trans this.lr⟩

set_option maxHeartbeats 400000 in
theorem segs_nil (w : World) : Calls Try.prog 13 #[.slice none 0 0] w fun e w' => e = .returned (.slice none 0 0) ∧ w' = w := by
  have hs := eql_nil37
  go_enter Try.func13, Try.ntmps13
  go_wp2
  go_ret
  exact ⟨rfl, rfl⟩

set_option maxHeartbeats 1000000 in
theorem segs_any (a : Addr) (b off cap : Nat) (len : Nat) (F : Nat → Seg) (w : World) (ha : 0 < len → a = ⟨b, off, none⟩)
   (hm : len ≤ 1048576) (hc : ∀ k, k < len → SegAt w b off k (F k)) :
    Calls Try.prog 13 #[.slice (some a) len cap] w fun e w' => e = .returned (.slice (some ⟨w.heap.size, 0, none⟩) len len) ∧ (∀ k, k < len → SegAt w' w.heap.size 0 k (F k)) ∧
      (∃ xs, w'.ownsRow w.heap.size 35 7 (.slice (some ⟨w.heap.size, 0, none⟩) len len) len xs) ∧ Below w.heap.size w w' ∧ w.heap.size < w'.heap.size := by
  have hs := eql_nil37
  obtain ⟨i0, hi, hz0, hz1, hz2⟩ := info_parts Try.info35
  by_cases h0 : len = 0
  · subst h0
    clear hc ha hm
    go_enter Try.func13, Try.ntmps13
    go_wp2_with (at_make; refine wpList_make_full _ rfl _ _ 32 rfl w.heap.size 35 i0 _ 7 Try.underlying32 hi hz0 hz1 .i64 .i64 _ _ 0 rfl rfl rfl rfl (by omega) (by unfold maxLen; omega) (by omega) ?_; intro w1 hown hgrow)
    refine wp_loop_rounds 1 ?_
    rw [rounds_succ]
    go_wp2
    go_ret
    exact ⟨rfl, fun k hk => absurd hk (by omega), ⟨_, hown⟩, (Below.refl _ _).grown hgrow (Nat.le_refl _) (fun _ h => by cases h), (Row.ofOwns hown).lt⟩
  · obtain rfl := ha (by omega)
    clear ha
    go_enter Try.func13, Try.ntmps13
    go_wp2_with (at_make; refine wpList_make_full _ rfl _ _ 32 rfl w.heap.size 35 i0 _ 7 Try.underlying32 hi hz0 hz1 .i64 .i64 _ _ len rfl rfl rfl rfl (by rw [hz2]; omega) (by unfold maxLen; omega) (by omega) ?_; intro w1 hown hgrow)
    have hb1 : Below w.heap.size w w1 := (Below.refl _ _).grown hgrow (Nat.le_refl _) (fun _ h => by cases h)
    clear hgrow
    go_loopw [4] (fun i wr => ∃ k : Nat, k ≤ len ∧ i = .int .i64 k ∧ Hid (∀ j, j < k → SegAt wr w.heap.size 0 j (F j)) ∧ Hid (∃ xs, wr.ownsRow w.heap.size 35 7 (.slice (some ⟨w.heap.size, 0, none⟩) len len) len xs) ∧ Below w.heap.size w wr) (fun i _ => len - (intOf i).toNat)
    case atStart => exact ⟨0, Nat.zero_le _, rfl, fun j hj => absurd hj (by omega), ⟨_, hown⟩, hb1⟩
    case round =>
      obtain ⟨k, hk, rfl, hj, ho, hbl⟩ := hrel
      obtain ⟨xs, hxs⟩ := ho.out
      have hr := Row.ofOwns hxs
      by_cases hlt : k < len
      · have hb := (hc k hlt).lt
        obtain ⟨c0, c1, c2, c3, c4, c5, c6⟩ := (hc k hlt).same (hbl.block b hb)
        obtain ⟨y0, z0⟩ := hr.cell (i := k * 7) (by omega)
        obtain ⟨y1, z1⟩ := hr.cell (i := k * 7 + 1) (by omega)
        obtain ⟨y2, z2⟩ := hr.cell (i := k * 7 + 2) (by omega)
        obtain ⟨y3, z3⟩ := hr.cell (i := k * 7 + 3) (by omega)
        obtain ⟨y4, z4⟩ := hr.cell (i := k * 7 + 4) (by omega)
        obtain ⟨y5, z5⟩ := hr.cell (i := k * 7 + 5) (by omega)
        obtain ⟨y6, z6⟩ := hr.cell (i := k * 7 + 6) (by omega)
        have hfr := hr.free
        have hl2 := hr.lt
        have hl3 : w.heap.size < wr.heap.size + 1 := by omega
        have H2 : Hid _ := segs_step hr (k := k) (by omega) hj.out
        clear hc hown hb1 hz0 hi
        go_wp2
        go_round
        case rel =>
          refine ⟨k + 1, by omega, by go_num, fun j hj => (H2.out j hj).same (Below.heap_alloc _ _ _ (by simp only [size_setCell]; omega)), ?_, ?_⟩
          · obtain ⟨ys, hys⟩ := owns_set7 (o := k * 7) (v0 := .int .u8 (F k).kind) (v1 := .int .i64 (F k).start) (v2 := .int .i64 (F k).len) (v3 := .int .i16 (F k).fl) (v4 := .int .i16 (F k).fr) (v5 := .int .i16 (F k).ll) (v6 := .int .i16 (F k).lr) hxs
            exact ⟨ys, hys.alloc _⟩
          · exact (set7_below hbl (Nat.le_refl _)).alloc (by simp only [set7, size_setCell]; omega) _
        case measure => simp [intOf]; omega
      · go_wp2
        go_ret
        exact ⟨rfl, fun j hj' => hj.out j (by omega), ho.out, hbl, hr.lt⟩
end Go.Proofs.Qxb6600087a
