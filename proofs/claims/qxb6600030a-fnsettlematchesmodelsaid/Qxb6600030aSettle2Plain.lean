import Derived.Test.Qxb6600030aSettlePlain
import Derived.ArgAppend
namespace Go.Proofs.Qxb6600030a
open Go.ChangeShapes Go.WideShapes Go.ChangeAt Go.RowKit

/-- What becomes of operation i. -/
def fate (F : Nat → SOp) (len i : Nat) : Option (Option Int) := settled (stat F (F i).val len) (F i)
/-- How many of the first i are kept. -/
def pos (F : Nat → SOp) (len : Nat) : Nat → Nat
  | 0 => 0
  | i + 1 => pos F len i + if (fate F len i).isSome then 1 else 0
theorem pos_le (F : Nat → SOp) (len : Nat) : ∀ i, pos F len i ≤ i
  | 0 => Nat.le_refl _
  | i + 1 => by have := pos_le F len i; unfold pos; split <;> omega
theorem pos_some {F : Nat → SOp} {len i : Nat} {r : Option Int} (h : fate F len i = some r) : pos F len (i + 1) = pos F len i + 1 := by simp [pos, h]
theorem pos_none {F : Nat → SOp} {len i : Nat} (h : fate F len i = none) : pos F len (i + 1) = pos F len i := by simp [pos, h]
theorem pos_mono {F : Nat → SOp} {len : Nat} {i j : Nat} (h : i ≤ j) : pos F len i ≤ pos F len j := by
  induction j with
  | zero => obtain rfl : i = 0 := by omega
            exact Nat.le_refl _
  | succ j ih =>
    by_cases e : i = j + 1
    · subst e; exact Nat.le_refl _
    · have := ih (by omega)
      simp only [pos]; omega
theorem pos_lt {F : Nat → SOp} {len : Nat} {i j : Nat} {r : Option Int} (h : fate F len i = some r) (hij : i < j) : pos F len i < pos F len j := by
  have := pos_mono (F := F) (len := len) (show i + 1 ≤ j from hij)
  rw [pos_some h] at this; omega

/-- The row in block g holds, in order, what is kept of the first i operations. -/
def Kept (w : World) (g : Nat) (F : Nat → SOp) (len i : Nat) : Prop := ∀ j, j < i → ∀ r, fate F len j = some r → ∃ vp rp, HOpAt w g (pos F len j) (F j) j r vp rp

structure R2 (w w2 : World) (g len : Nat) (F : Nat → SOp) (i : Nat) : Prop where
  kept : Kept w2 g F len i
  row : Row w2 g (len * 6)
  three : Three w2 w.heap.size F len
  below : Below w.heap.size w w2
  gle : w.heap.size + 3 ≤ g

theorem three_keep {w w' : World} {B : Nat} {F : Nat → SOp} {k : Nat} (h : Three w B F k) (h0 : w'.heap[B]? = w.heap[B]?) (h1 : w'.heap[B + 1]? = w.heap[B + 1]?) (h2 : w'.heap[B + 2]? = w.heap[B + 2]?) : Three w' B F k := by
  obtain ⟨⟨n0, m0⟩, ⟨n1, m1⟩, ⟨n2, m2⟩⟩ := h
  exact ⟨⟨n0, m0.same h0⟩, ⟨n1, m1.same h1⟩, ⟨n2, m2.same h2⟩⟩

theorem R2.skip {w w2 W : World} {g len : Nat} {F : Nat → SOp} {i : Nat} (h : R2 w w2 g len F i) (hW : Below w2.heap.size w2 W) (hf : fate F len i = none) : R2 w W g len F (i + 1) := by
  have hlt := h.row.lt
  have hgl := h.gle
  refine ⟨?_, h.row.same (hW.block g hlt), three_keep h.three (hW.block _ (by omega)) (hW.block _ (by omega)) (hW.block _ (by omega)), h.below.trans (hW.mono (by have := h.below.size; omega)), h.gle⟩
  intro j hj r hr
  by_cases e : j = i
  · subst e; rw [hf] at hr; cases hr
  · obtain ⟨vp, rp, hh⟩ := h.kept j (by omega) r hr
    exact ⟨vp, rp, hh.below hW rfl⟩

theorem R2.push {w w2 W : World} {g len : Nat} {F : Nat → SOp} {i : Nat} {r : Option Int} {vp rp : Value} (h : R2 w w2 g len F i) (hil : i < len) (hW : Below w2.heap.size w2 W) (hf : fate F len i = some r)
    (hs : ptrS W g vp (ownV (F i))) (hi : ptrI W g rp r) :
    R2 w (set6 W g (pos F len i * 6) (.string ⟨#[107]⟩) (.int .i64 i) (.int .u8 (F i).kind) vp (.int .i64 (F i).call) rp) g len F (i + 1) := by
  have hlt := h.row.lt
  have hgl := h.gle
  have hpl := pos_le F len i
  have hrW := h.row.same (hW.block g hlt)
  have hbW := h.below.trans (hW.mono (by have := h.below.size; omega))
  have blk : ∀ n, n ≠ g → n < w2.heap.size → (set6 W g (pos F len i * 6) (.string ⟨#[107]⟩) (.int .i64 i) (.int .u8 (F i).kind) vp (.int .i64 (F i).call) rp).heap[n]? = w2.heap[n]? := fun n hn hl => by
    rw [set6_block hn]; exact hW.block n hl
  refine ⟨?_, set6_row hrW, three_keep h.three (blk _ (by omega) (by omega)) (blk _ (by omega) (by omega)) (blk _ (by omega) (by omega)), set6_below hbW (by omega), h.gle⟩
  intro j hj r' hr'
  by_cases e : j = i
  · subst e
    rw [hf] at hr'
    cases hr'
    obtain ⟨h0, h1, h2, h3, h4, h5⟩ := set6_in (o := pos F len j * 6) (v0 := .string ⟨#[107]⟩) (v1 := .int .i64 j) (v2 := .int .u8 (F j).kind) (v3 := vp) (v4 := .int .i64 (F j).call) (v5 := rp) hrW (by omega)
    exact ⟨vp, rp, h0, h1, h2, h3, h4, h5, hs.keep fun n _ hn => set6_block hn, hi.keep fun n _ hn => set6_block hn⟩
  · obtain ⟨vp', rp', hh⟩ := h.kept j (by omega) r' hr'
    have hp := pos_lt (j := i) hr' (by omega)
    refine ⟨vp', rp', hh.keep (fun n hn hne => blk n hne hn) (fun t ht => ?_)⟩
    rw [set6_out (by omega)]
    exact cell_same (hW.block g hlt) _

theorem heap_new (w : World) (o : Obj) (n : Nat) (h : w.heap.size = n) : (w.alloc o).heap[n]? = some o := by
  subst h; show (w.heap.push o)[w.heap.size]? = _; simp

theorem wpList_push6 {P : Program} (w : World) {ops : Array Oper} {rest : List Oper} {o : Oper} {a : Act} {Q : Exit → Act → World → Prop}
    (hg : o.guard = none) (s x : Operand) (t e : TypeId) (hop : o.op = Op.call { callee := Callee.builtin Builtin.append, args := #[s, x], argTypes := #[t, t] }) (i : TypeInfo) (h1 : P.underlying t = some (.slice e)) (h2 : P.info? e = some i) (h3 : i.size = 6)
    (g k cap : Nat) (hs : a.eval s = .slice (some ⟨g, 0, none⟩) k cap) (hr : Row w g (cap * 6)) (hk : k + 1 ≤ cap) (n c : Nat) (v0 v1 v2 v3 v4 v5 : Value) (e' : TypeId) (hx : a.eval x = .slice (some ⟨n, 0, none⟩) 1 c)
    (hc : w.heap[n]? = some (.cells #[v0, v1, v2, v3, v4, v5] e' (0, 0))) (one : ∀ u ∈ [v0, v1, v2, v3, v4, v5], u.oneCell' = true)
    (hK : wpList P ops Q rest (a.put o.dst (.slice (some ⟨g, 0, none⟩) (k + 1) cap)) (set6 w g (k * 6) v0 v1 v2 v3 v4 v5)) : wpList P ops Q (o :: rest) a w := by
  refine wpList_plain hg fun K hK' => ?_
  have hrun := run_append_room_cells (P := P) w t o.type e i h1 h2 g 0 k cap ⟨n, 0, none⟩ 1 c [v0, v1, v2, v3, v4, v5] (by rw [h3]; rfl)
    (fun j u hj => by
      have : (⟨n, 0, none⟩ : Addr).add j = ⟨n, j, none⟩ := by unfold Addr.add; split <;> simp_all
      rw [this]
      simpa [World.cell?, hc] using hj) one hk
    (fun j hj => by
      obtain ⟨v, hv⟩ := hr.cell (i := 0 + k * i.size + j) (by rw [h3]; simp at hj; omega)
      rw [hv]; rfl)
    (fun j hj => hr.free _)
  unfold Oper.wp
  simp [execOp, hop, resolve, invoke, builtin, hs, hx, hrun, Result.andThen]
  have e6 : w.setCells g (k * i.size) [v0, v1, v2, v3, v4, v5] = set6 w g (k * 6) v0 v1 v2 v3 v4 v5 := by rw [h3]; rfl
  rw [e6]
  exact hK' _ _ hK

theorem R2.start {w wr w1 : World} {F : Nat → SOp} {k base : Nat} {xs : List Value} (h : R1 w wr F k) (hown : w1.ownsRow base 36 6 (.slice (some ⟨wr.heap.size, 0, none⟩) 0 k) 0 xs) (hg : wr.grownBy w1 none) : R2 w w1 wr.heap.size k F 0 := by
  have hs := h.size
  exact ⟨fun j hj => absurd hj (by omega), Row.ofOwns hown, three_keep h.three (hg.block _ (by omega) (by simp)) (hg.block _ (by omega) (by simp)) (hg.block _ (by omega) (by simp)), h.below.grown hg (by omega) (fun _ e => by cases e), hs⟩

theorem ptrS.re {w W : World} {b g : Nat} {v : Value} {s : Option ByteArray} (h : ptrS w b v s) (hb : Below w.heap.size w W) (hg : w.heap.size ≤ g) : ptrS W g v s := by
  cases s with
  | none => exact h
  | some s => obtain ⟨a, h1, h2, h3⟩ := h; exact ⟨a, h1, by have hq : a < w.heap.size := cell_lt h3; show a ≠ g; omega, by rw [cell_same (hb.block a (cell_lt h3))]; exact h3⟩
theorem ptrI.re {w W : World} {b g : Nat} {v : Value} {s : Option Int} (h : ptrI w b v s) (hb : Below w.heap.size w W) (hg : w.heap.size ≤ g) : ptrI W g v s := by
  cases s with
  | none => exact h
  | some s => obtain ⟨a, h1, h2, h3⟩ := h; exact ⟨a, h1, by have hq : a < w.heap.size := cell_lt h3; show a ≠ g; omega, by rw [cell_same (hb.block a (cell_lt h3))]; exact h3⟩

theorem zero3 (w : World) : (zeroValue 3).run Try.prog w = .ok (.int .i64 0) w := by kernel_rfl
theorem zero2 (w : World) : (zeroValue 2).run Try.prog w = .ok (.int .i64 0) w := by kernel_rfl
theorem zero4 (w : World) : (zeroValue 4).run Try.prog w = .ok (.bool false) w := by kernel_rfl

section
variable {w : World} {B n k : Nat} {F : Nat → SOp}
theorem look_w (h : MapIs strKey w B (Mw F k) n) (v : ByteArray) : (Instr.lookup 42 (.map (some B)) (.string v) false).run Try.prog w = .ok (.int .i64 (stat F v k).writes) w := by
  have := h.look (P := Try.prog) Try.underlying42 Try.underlying9 (zero3 _) v false
  simp only [Bool.false_eq_true, if_false, Mw_get] at this
  exact this
theorem look_r (h : MapIs strKey w B (Mr F k) n) (v : ByteArray) : (Instr.lookup 43 (.map (some B)) (.string v) false).run Try.prog w = .ok (.bool (stat F v k).carried) w := by
  have := h.look (P := Try.prog) Try.underlying43 Try.underlying9 (zero4 _) v false
  simp only [Bool.false_eq_true, if_false, Mr_get] at this
  exact this
theorem look_e (h : MapIs strKey w B (Me F k) n) (v : ByteArray) : (Instr.lookup 44 (.map (some B)) (.string v) true).run Try.prog w = .ok (.tuple #[.int .i64 ((stat F v k).first.getD 0), .bool (stat F v k).first.isSome]) w := by
  have := h.look (P := Try.prog) Try.underlying44 Try.underlying9 (zero2 _) v true
  simp only [if_true, Me_get, Me_some] at this
  exact this
end

section
variable {B : Nat} {a w : World}
theorem bel2 (h : Below B a w) (hB : B ≤ w.heap.size) (o1 o2 : Obj) : Below B a ((w.alloc o1).alloc o2) := (h.alloc hB _).alloc (by rw [size_alloc]; omega) _
theorem bel3 (h : Below B a w) (hB : B ≤ w.heap.size) (o1 o2 o3 : Obj) : Below B a (((w.alloc o1).alloc o2).alloc o3) := (bel2 h hB _ _).alloc (by rw [size_alloc, size_alloc]; omega) _
theorem bel3d (h : Below B a w) (hB : B ≤ w.heap.size) (o1 o2 o3 : Obj) (n : Nat) : Below B a ((((w.alloc o1).alloc o2).alloc o3).drewN n) := bel_drewN (bel3 h hB _ _ _) n
theorem row2 {g m : Nat} (h : Row w g m) (o1 o2 : Obj) : Row ((w.alloc o1).alloc o2) g m := (h.alloc _).alloc _
theorem row3d {g m : Nat} (h : Row w g m) (o1 o2 o3 : Obj) (n : Nat) : Row ((((w.alloc o1).alloc o2).alloc o3).drewN n) g m := (((h.alloc o1).alloc o2).alloc o3).same rfl
theorem heap3d (o1 o2 o3 : Obj) (n : Nat) : ((((w.alloc o1).alloc o2).alloc o3).drewN n).heap[w.heap.size + 1 + 1]? = some o3 := heap_new _ _ _ (by simp only [size_alloc])
theorem heap2 (o1 o2 : Obj) : ((w.alloc o1).alloc o2).heap[w.heap.size + 1]? = some o2 := heap_new _ _ _ (size_alloc _ _)
theorem cell3d (o1 o3 : Obj) (v : Value) (t n : Nat) : ((((w.alloc o1).alloc (.cells #[v] t)).alloc o3).drewN n).cell? ⟨w.heap.size + 1, 0, none⟩ = some v :=
  cell_old _ _ _ _ (cell_new _ _ _ _ (size_alloc _ _))

/-- Two new blocks, a draw, a store into each, a third block. -/
theorem bel4 (h : Below B a w) (hB : B ≤ w.heap.size) (o1 o2 o3 : Obj) (n i j : Nat) (v1 v2 : Value) :
    Below B a ((((((w.alloc o1).alloc o2).drewN n).setCell ⟨w.heap.size + 1, i, none⟩ v1).setCell ⟨w.heap.size, j, none⟩ v2).alloc o3) :=
  (((bel_drewN (bel2 h hB o1 o2) n).setCell (p := ⟨w.heap.size + 1, i, none⟩) (by show B ≤ w.heap.size + 1; omega) v1).setCell (p := ⟨w.heap.size, j, none⟩) hB v2).alloc (by simp only [size_setCell, World.heap_drewN, size_alloc]; omega) o3
theorem row4 {g m : Nat} (h : Row w g m) (o1 o2 o3 : Obj) (n : Nat) (a1 a2 : Addr) (v1 v2 : Value) :
    Row ((((((w.alloc o1).alloc o2).drewN n).setCell a1 v1).setCell a2 v2).alloc o3) g m :=
  ((Row.setCell (Row.same (w' := ((w.alloc o1).alloc o2).drewN n) ((h.alloc o1).alloc o2) rfl) a1 v1).setCell a2 v2).alloc o3
theorem heap4 (o1 o2 o3 : Obj) (n : Nat) (a1 a2 : Addr) (v1 v2 : Value) : ((((((w.alloc o1).alloc o2).drewN n).setCell a1 v1).setCell a2 v2).alloc o3).heap[w.heap.size + 1 + 1]? = some o3 :=
  heap_new _ _ _ (by simp only [size_setCell, World.heap_drewN, size_alloc])
theorem cell4 (o1 o3 : Obj) (n j t : Nat) (v v1 v2 : Value) : ((((((w.alloc o1).alloc (.cells #[v] t)).drewN n).setCell ⟨w.heap.size + 1, 0, none⟩ v1).setCell ⟨w.heap.size, j, none⟩ v2).alloc o3).cell? ⟨w.heap.size + 1, 0, none⟩ = some v1 := by
  refine cell_old _ _ _ _ ?_
  rw [World.cell?_setCell_other _ _ _ _ (fun e => by have := congrArg Addr.block e; simp at this)]
  exact World.cell?_setCell_same _ _ _ (u := v) (cell_new _ _ _ _ (size_alloc _ _))
end
end Go.Proofs.Qxb6600030a
