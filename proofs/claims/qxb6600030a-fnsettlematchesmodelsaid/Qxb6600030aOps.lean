import Derived.Test.Qxb6600030aClone
namespace Go.Proofs.Qxb6600030a
open Go.ChangeShapes Go.WideShapes Go.ChangeAt Go.RowKit

def ptrS (w : World) (g : Nat) (v : Value) : Option ByteArray → Prop
  | none => v = .pointer none
  | some s => ∃ a, v = .pointer (some ⟨a, 0, none⟩) ∧ a ≠ g ∧ w.cell? ⟨a, 0, none⟩ = some (.string s)
def ptrI (w : World) (g : Nat) (v : Value) : Option Int → Prop
  | none => v = .pointer none
  | some s => ∃ a, v = .pointer (some ⟨a, 0, none⟩) ∧ a ≠ g ∧ w.cell? ⟨a, 0, none⟩ = some (.int .i64 s)

def ownV (o : SOp) : Option ByteArray := if o.hasV then some o.val else none

/-- An operation of package history, client i, return r, at element k of the row in block g. -/
structure HOpAt (w : World) (g k : Nat) (o : SOp) (i : Nat) (r : Option Int) (vp rp : Value) : Prop where
  key : w.cell? ⟨g, k * 6, none⟩ = some (.string ⟨#[107]⟩)
  client : w.cell? ⟨g, k * 6 + 1, none⟩ = some (.int .i64 i)
  kind : w.cell? ⟨g, k * 6 + 2, none⟩ = some (.int .u8 o.kind)
  val : w.cell? ⟨g, k * 6 + 3, none⟩ = some vp
  call : w.cell? ⟨g, k * 6 + 4, none⟩ = some (.int .i64 o.call)
  ret : w.cell? ⟨g, k * 6 + 5, none⟩ = some rp
  ps : ptrS w g vp (ownV o)
  pi : ptrI w g rp r

theorem cell_same {w w' : World} {b : Nat} (e : w'.heap[b]? = w.heap[b]?) (i : Nat) : w'.cell? ⟨b, i, none⟩ = w.cell? ⟨b, i, none⟩ := by simp [World.cell?, e]

theorem ptrS.keep {w w' : World} {g : Nat} {v : Value} {s : Option ByteArray} (h : ptrS w g v s) (hb : ∀ i, i < w.heap.size → i ≠ g → w'.heap[i]? = w.heap[i]?) : ptrS w' g v s := by
  cases s with
  | none => exact h
  | some s => obtain ⟨a, h1, h2, h3⟩ := h; exact ⟨a, h1, h2, by rw [cell_same (hb a (cell_lt h3) h2)]; exact h3⟩
theorem ptrI.keep {w w' : World} {g : Nat} {v : Value} {s : Option Int} (h : ptrI w g v s) (hb : ∀ i, i < w.heap.size → i ≠ g → w'.heap[i]? = w.heap[i]?) : ptrI w' g v s := by
  cases s with
  | none => exact h
  | some s => obtain ⟨a, h1, h2, h3⟩ := h; exact ⟨a, h1, h2, by rw [cell_same (hb a (cell_lt h3) h2)]; exact h3⟩

theorem HOpAt.keep {w w' : World} {g k : Nat} {o : SOp} {i : Nat} {r : Option Int} {vp rp : Value} (h : HOpAt w g k o i r vp rp) (hb : ∀ i, i < w.heap.size → i ≠ g → w'.heap[i]? = w.heap[i]?)
    (hc : ∀ t, t < 6 → w'.cell? ⟨g, k * 6 + t, none⟩ = w.cell? ⟨g, k * 6 + t, none⟩) : HOpAt w' g k o i r vp rp :=
  ⟨(hc 0 (by omega)).trans h.key, (hc 1 (by omega)).trans h.client, (hc 2 (by omega)).trans h.kind, (hc 3 (by omega)).trans h.val, (hc 4 (by omega)).trans h.call, (hc 5 (by omega)).trans h.ret, h.ps.keep hb, h.pi.keep hb⟩

theorem HOpAt.lt {w : World} {g k : Nat} {o : SOp} {i : Nat} {r : Option Int} {vp rp : Value} (h : HOpAt w g k o i r vp rp) : g < w.heap.size := cell_lt h.key

/-- Elements 0 .. k-1 of the row in block g, as 'settleOps' lays them. -/
def Laid (w : World) (g k : Nat) (F : Nat → SOp) : Prop := ∀ j, j < k → ∃ vp rp, HOpAt w g j (F j) j (own (F j)) vp rp

/-- One element more: six stores at element k, then new blocks behind. -/
theorem laid_step {w W : World} {g k m : Nat} {F : Nat → SOp} {vp rp : Value} (h : Laid w g k F) (hr : Row w g m) (hm : k * 6 + 6 ≤ m)
    (hW : Below w.heap.size (set6 w g (k * 6) (.string ⟨#[107]⟩) (.int .i64 k) (.int .u8 (F k).kind) vp (.int .i64 (F k).call) rp) W)
    (hs : ptrS W g vp (ownV (F k))) (hi : ptrI W g rp (own (F k))) {B : Nat} {w0 : World} (hbl : Below B w0 w) (hB : B ≤ g) : Laid W g (k + 1) F ∧ Row W g m ∧ Below B w0 W := by
  have hg := hW.block g hr.lt
  have hlt := hr.lt
  refine ⟨?_, (set6_row hr).same hg, (set6_below hbl hB).trans (hW.mono (by omega))⟩
  intro j hj
  by_cases e : j = k
  · subst e
    obtain ⟨h0, h1, h2, h3, h4, h5⟩ := set6_in (v0 := .string ⟨#[107]⟩) (v1 := .int .i64 j) (v2 := .int .u8 (F j).kind) (v3 := vp) (v4 := .int .i64 (F j).call) (v5 := rp) hr hm
    exact ⟨vp, rp, (cell_same hg _).trans h0, (cell_same hg _).trans h1, (cell_same hg _).trans h2, (cell_same hg _).trans h3, (cell_same hg _).trans h4, (cell_same hg _).trans h5, hs, hi⟩
  · obtain ⟨vp', rp', hh⟩ := h j (by omega)
    refine ⟨vp', rp', hh.keep (fun i hi hne => by rw [hW.block i hi]; exact set6_block hne) (fun t ht => ?_)⟩
    rw [cell_same hg, set6_out (by omega)]

theorem set6_size (w : World) (b o : Nat) (v0 v1 v2 v3 v4 v5 : Value) : (set6 w b o v0 v1 v2 v3 v4 v5).heap.size = w.heap.size := by
  simp [set6, World.setCell]

theorem cell_new (w : World) (n : Nat) (v : Value) (t : TypeId) (h : w.heap.size = n) : (w.alloc (.cells #[v] t)).cell? ⟨n, 0, none⟩ = some v := by
  subst h
  exact World.cell?_alloc_new w #[v] t 0
theorem cell_old (w : World) (a : Addr) (v : Value) (o : Obj) (h : w.cell? a = some v) : (w.alloc o).cell? a = some v := by
  have hb := cell_lt h
  have : (w.alloc o).heap[a.block]? = w.heap[a.block]? := Below.heap_alloc _ _ _ hb
  unfold World.cell? at h ⊢
  rw [this]; exact h
theorem size_setCell (w : World) (a : Addr) (v : Value) : (w.setCell a v).heap.size = w.heap.size := by simp [World.setCell]
theorem size_alloc (w : World) (o : Obj) : (w.alloc o).heap.size = w.heap.size + 1 := by show (w.heap.push o).size = _; simp

theorem Try.info36 : (Try.prog.info? 36).map (fun i => (i.zero, i.size, i.bytes)) = some (some (.agg #[.string ⟨#[]⟩, .int .i64 0, .int .u8 0, .pointer none, .int .i64 0, .pointer none]), 6, 56) := by kernel_rfl

set_option maxHeartbeats 1000000 in
theorem ops_any (ao : Option Addr) (b cap : Nat) (len : Nat) (F : Nat → SOp) (w : World) (ha : 0 < len → ao = some ⟨b, 0, none⟩)
   (hm : len ≤ 65536) (hc : ∀ k, k < len → OpAt w b 0 k (F k)) :
    Calls Try.prog 12 #[.slice ao len cap] w fun e w' => e = .returned (.slice (some ⟨w.heap.size, 0, none⟩) len len) ∧ Laid w' w.heap.size len F ∧ Below w.heap.size w w' ∧ w.heap.size < w'.heap.size := by
  obtain ⟨i0, hi, hz0, hz1, hz2⟩ := info_parts Try.info36
  by_cases h0 : len = 0
  · subst h0
    clear hc ha hm
    go_enter Try.func12, Try.ntmps12
    go_wp2_with (at_make; refine wpList_make_full _ rfl _ _ 26 rfl w.heap.size 36 i0 _ 6 Try.underlying26 hi hz0 hz1 .i64 .i64 _ _ 0 rfl rfl rfl rfl (by omega) (by unfold maxLen; omega) (by omega) ?_; intro w1 hown hgrow)
    refine wp_loop_rounds 1 ?_
    rw [rounds_succ]
    go_wp2
    go_ret
    exact ⟨rfl, fun k hk => absurd hk (by omega), (Below.refl _ _).grown hgrow (Nat.le_refl _) (fun _ h => by cases h), (Row.ofOwns hown).lt⟩
  · obtain rfl := ha (by omega)
    clear ha
    go_enter Try.func12, Try.ntmps12
    go_wp2_with (at_make; refine wpList_make_full _ rfl _ _ 26 rfl w.heap.size 36 i0 _ 6 Try.underlying26 hi hz0 hz1 .i64 .i64 _ _ len rfl rfl rfl rfl (by rw [hz2]; omega) (by unfold maxLen; omega) (by omega) ?_; intro w1 hown hgrow)
    have hrow := Row.ofOwns hown
    have hb1 : Below w.heap.size w w1 := (Below.refl _ _).grown hgrow (Nat.le_refl _) (fun _ h => by cases h)
    clear hown hgrow
    go_loopw [4] (fun i wr => ∃ k : Nat, k ≤ len ∧ i = .int .i64 k ∧ Laid wr w.heap.size k F ∧ Row wr w.heap.size (len * 6) ∧ Below w.heap.size w wr) (fun i _ => len - (intOf i).toNat)
    case atStart => exact ⟨0, Nat.zero_le _, rfl, fun j hj => absurd hj (by omega), hrow, hb1⟩
    case round =>
      obtain ⟨k, hk, rfl, hj, hr, hbl⟩ := hrel
      by_cases hlt : k < len
      · have hb := (hc k hlt).lt
        obtain ⟨c0, c1, c2, c3, c4, c5⟩ := (hc k hlt).same (hbl.block b hb)
        rw [Nat.zero_add] at c0 c1 c2 c3 c4 c5
        obtain ⟨y0, z0⟩ := hr.cell (i := k * 6) (by omega)
        obtain ⟨y1, z1⟩ := hr.cell (i := k * 6 + 1) (by omega)
        obtain ⟨y2, z2⟩ := hr.cell (i := k * 6 + 2) (by omega)
        obtain ⟨y3, z3⟩ := hr.cell (i := k * 6 + 3) (by omega)
        obtain ⟨y4, z4⟩ := hr.cell (i := k * 6 + 4) (by omega)
        obtain ⟨y5, z5⟩ := hr.cell (i := k * 6 + 5) (by omega)
        have hfr := hr.free
        have hlt2 := hr.lt
        have hlt3 : w.heap.size < wr.heap.size + 1 := by omega
        have hlt4 : w.heap.size < wr.heap.size + 1 + 1 := by omega
        have hlt5 : w.heap.size < wr.heap.size + 1 + 1 + 1 := by omega
        clear hc hrow hb1 hz0 hi
        cases hv : (F k).hasV with
        | false =>
          rw [hv] at c1
          cases hR : (F k).hasR with
          | false =>
            rw [hR] at c4
            have HV : Hid ((F k).hasV = false ∧ (F k).hasR = false) := ⟨hv, hR⟩
            clear hv hR
            go_wp2
            go_round
            case rel =>
              refine ⟨k + 1, by omega, by go_num, laid_step (vp := .pointer none) (rp := .pointer none) hj hr (by omega) ?_ ?_ ?_ hbl (Nat.le_refl _)⟩
              · iterate 2 refine Below.alloc ?_ (by simp only [size_alloc, size_setCell]; omega) _
                exact Below.refl _ _
              · simp [ptrS, ownV, HV.out.1]
              · simp [ptrI, own, HV.out.2]
            case measure => simp [intOf]; omega
          | true =>
            rw [hR] at c4
            have HV : Hid ((F k).hasV = false ∧ (F k).hasR = true) := ⟨hv, hR⟩
            clear hv hR
            go_wp2
            go_round
            case rel =>
              refine ⟨k + 1, by omega, by go_num, laid_step (vp := .pointer none) (rp := .pointer (some ⟨wr.heap.size + 2, 0, none⟩)) hj hr (by omega) ?_ ?_ ?_ hbl (Nat.le_refl _)⟩
              · iterate 3 refine Below.alloc ?_ (by simp only [size_alloc, size_setCell]; omega) _
                exact Below.refl _ _
              · simp [ptrS, ownV, HV.out.1]
              · simp only [ptrI, own, HV.out.2, if_true]; exact ⟨_, rfl, by omega, cell_new _ _ (.int .i64 (F k).ret) 2 (by simp only [size_alloc, size_setCell])⟩
            case measure => simp [intOf]; omega
        | true =>
          rw [hv] at c1
          cases hR : (F k).hasR with
          | false =>
            rw [hR] at c4
            have HV : Hid ((F k).hasV = true ∧ (F k).hasR = false) := ⟨hv, hR⟩
            clear hv hR
            go_wp2
            go_round
            case rel =>
              refine ⟨k + 1, by omega, by go_num, laid_step (vp := .pointer (some ⟨wr.heap.size + 2, 0, none⟩)) (rp := .pointer none) hj hr (by omega) ?_ ?_ ?_ hbl (Nat.le_refl _)⟩
              · iterate 3 refine Below.alloc ?_ (by simp only [size_alloc, size_setCell]; omega) _
                exact Below.refl _ _
              · simp only [ptrS, ownV, HV.out.1, if_true]; exact ⟨_, rfl, by omega, cell_new _ _ (.string (F k).val) 9 (by simp only [size_alloc, size_setCell])⟩
              · simp [ptrI, own, HV.out.2]
            case measure => simp [intOf]; omega
          | true =>
            rw [hR] at c4
            have HV : Hid ((F k).hasV = true ∧ (F k).hasR = true) := ⟨hv, hR⟩
            clear hv hR
            go_wp2
            go_round
            case rel =>
              refine ⟨k + 1, by omega, by go_num, laid_step (vp := .pointer (some ⟨wr.heap.size + 2, 0, none⟩)) (rp := .pointer (some ⟨wr.heap.size + 3, 0, none⟩)) hj hr (by omega) ?_ ?_ ?_ hbl (Nat.le_refl _)⟩
              · iterate 4 refine Below.alloc ?_ (by simp only [size_alloc, size_setCell]; omega) _
                exact Below.refl _ _
              · simp only [ptrS, ownV, HV.out.1, if_true]; exact ⟨_, rfl, by omega, cell_old _ _ _ _ (cell_new _ _ (.string (F k).val) 9 (by simp only [size_alloc, size_setCell]))⟩
              · simp only [ptrI, own, HV.out.2, if_true]; exact ⟨_, rfl, by omega, cell_new _ _ (.int .i64 (F k).ret) 2 (by simp only [size_alloc, size_setCell])⟩
            case measure => simp [intOf]; omega
      · go_wp2
        go_ret
        obtain rfl : k = len := by omega
        exact ⟨rfl, hj, hbl, hr.lt⟩
end Go.Proofs.Qxb6600030a
