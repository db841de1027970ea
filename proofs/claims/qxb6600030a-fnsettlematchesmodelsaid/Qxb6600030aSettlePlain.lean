import Derived.Test.Qxb6600030aMatch
namespace Go.Proofs.Qxb6600030a
open Go.ChangeShapes Go.WideShapes Go.ChangeAt Go.RowKit

/-! What settle's three maps hold behind k operations. -/
def Mw (F : Nat → SOp) (k : Nat) (v : ByteArray) : Option Value := if (stat F v k).writes = 0 then none else some (.int .i64 (stat F v k).writes)
def Mr (F : Nat → SOp) (k : Nat) (v : ByteArray) : Option Value := if (stat F v k).carried then some (.bool true) else none
def Me (F : Nat → SOp) (k : Nat) (v : ByteArray) : Option Value := (stat F v k).first.map (.int .i64 ·)

theorem Mw_get (F : Nat → SOp) (k : Nat) (v : ByteArray) : (Mw F k v).getD (.int .i64 0) = .int .i64 (stat F v k).writes := by
  unfold Mw; split <;> simp_all
theorem Mr_get (F : Nat → SOp) (k : Nat) (v : ByteArray) : (Mr F k v).getD (.bool false) = .bool (stat F v k).carried := by
  unfold Mr; split <;> simp_all
theorem Me_get (F : Nat → SOp) (k : Nat) (v : ByteArray) : (Me F k v).getD (.int .i64 0) = .int .i64 ((stat F v k).first.getD 0) := by
  unfold Me; cases (stat F v k).first <;> rfl
theorem Me_some (F : Nat → SOp) (k : Nat) (v : ByteArray) : (Me F k v).isSome = (stat F v k).first.isSome := by
  unfold Me; cases (stat F v k).first <;> rfl

theorem stat_other {F : Nat → SOp} {k : Nat} {v : ByteArray} (h : ¬ ((F k).hasV = true ∧ (F k).val = v)) : stat F v (k + 1) = stat F v k := bump_no h
theorem stat_w {F : Nat → SOp} {k : Nat} (h : (F k).hasV = true) (h3 : (F k).kind = 1) : stat F (F k).val (k + 1) = { stat F (F k).val k with writes := (stat F (F k).val k).writes + 1 } := bump_w h rfl h3
theorem stat_r {F : Nat → SOp} {k : Nat} (h : (F k).hasV = true) (h3 : ¬ (F k).kind = 1) : stat F (F k).val (k + 1) = { stat F (F k).val k with carried := true, first := later (stat F (F k).val k).first (F k) } := bump_r h rfl h3

/-- A write: the count of its value goes up by one, the other two maps stay. -/
theorem maps_w {F : Nat → SOp} {k : Nat} (h : (F k).hasV = true) (h3 : (F k).kind = 1) :
    (∀ v, Mw F (k + 1) v = upd (Mw F k) (F k).val (some (.int .i64 ((stat F (F k).val k).writes + 1))) v) ∧ (∀ v, Mr F (k + 1) v = Mr F k v) ∧ (∀ v, Me F (k + 1) v = Me F k v) := by
  have ho : ∀ v, v ≠ (F k).val → stat F v (k + 1) = stat F v k := fun v hv => stat_other (fun e => hv e.2.symm)
  refine ⟨fun v => ?_, fun v => ?_, fun v => ?_⟩
  · by_cases e : v = (F k).val
    · subst e; rw [upd_same]; unfold Mw; rw [stat_w h h3]; simp
    · rw [upd_other _ _ _ e]; unfold Mw; rw [ho v e]
  · by_cases e : v = (F k).val
    · subst e; unfold Mr; rw [stat_w h h3]
    · unfold Mr; rw [ho v e]
  · by_cases e : v = (F k).val
    · subst e; unfold Me; rw [stat_w h h3]
    · unfold Me; rw [ho v e]

theorem maps_no {F : Nat → SOp} {k : Nat} (h : (F k).hasV = false) :
    (∀ v, Mw F (k + 1) v = Mw F k v) ∧ (∀ v, Mr F (k + 1) v = Mr F k v) ∧ (∀ v, Me F (k + 1) v = Me F k v) := by
  have ho : ∀ v, stat F v (k + 1) = stat F v k := fun v => stat_other (fun e => by rw [h] at e; cases e.1)
  exact ⟨fun v => by unfold Mw; rw [ho v], fun v => by unfold Mr; rw [ho v], fun v => by unfold Me; rw [ho v]⟩

theorem maps_r {F : Nat → SOp} {k : Nat} (h : (F k).hasV = true) (h3 : ¬ (F k).kind = 1) :
    (∀ v, Mw F (k + 1) v = Mw F k v) ∧ (∀ v, Mr F (k + 1) v = upd (Mr F k) (F k).val (some (.bool true)) v) ∧
    (later (stat F (F k).val k).first (F k) = (stat F (F k).val k).first → ∀ v, Me F (k + 1) v = Me F k v) ∧
    (∀ r, later (stat F (F k).val k).first (F k) = some r → ∀ v, Me F (k + 1) v = upd (Me F k) (F k).val (some (.int .i64 r)) v) := by
  have ho : ∀ v, v ≠ (F k).val → stat F v (k + 1) = stat F v k := fun v hv => stat_other (fun e => hv e.2.symm)
  refine ⟨fun v => ?_, fun v => ?_, fun hl v => ?_, fun r hl v => ?_⟩
  · by_cases e : v = (F k).val
    · subst e; unfold Mw; rw [stat_r h h3]
    · unfold Mw; rw [ho v e]
  · by_cases e : v = (F k).val
    · subst e; rw [upd_same]; unfold Mr; rw [stat_r h h3]; simp
    · rw [upd_other _ _ _ e]; unfold Mr; rw [ho v e]
  · by_cases e : v = (F k).val
    · subst e; unfold Me; rw [stat_r h h3]; simp only [hl]
    · unfold Me; rw [ho v e]
  · by_cases e : v = (F k).val
    · subst e; rw [upd_same]; unfold Me; rw [stat_r h h3]; simp only [hl]; rfl
    · rw [upd_other _ _ _ e]; unfold Me; rw [ho v e]

/-- The relation of the first loop: three maps in blocks B, B+1, B+2. -/
structure Three (w : World) (B : Nat) (F : Nat → SOp) (k : Nat) : Prop where
  mw : ∃ n, MapIs strKey w B (Mw F k) n
  mr : ∃ n, MapIs strKey w (B + 1) (Mr F k) n
  me : ∃ n, MapIs strKey w (B + 2) (Me F k) n

theorem Three.start (w : World) (F : Nat → SOp) : Three (((w.alloc (.map #[] 0)).alloc (.map #[] 0)).alloc (.map #[] 0)) w.heap.size F 0 := by
  refine ⟨⟨0, ?_⟩, ⟨0, ?_⟩, ⟨0, ?_⟩⟩
  · exact (((MapIs.made strKey w).alloc _).alloc _).congr (fun v => by simp [Mw, stat])
  · have := (MapIs.made strKey (w.alloc (.map #[] 0))).alloc (.map #[] 0)
    rw [size_alloc] at this
    exact this.congr (fun v => by simp [Mr, stat])
  · have := MapIs.made strKey ((w.alloc (.map #[] 0)).alloc (.map #[] 0))
    rw [size_alloc, size_alloc] at this
    exact this.congr (fun v => by simp [Me, stat])

theorem cell_grown {w w' : World} {r n i : Nat} {v : Value} (hg : w.grownBy w' (some r)) (hc : w.cell? ⟨n, i, none⟩ = some v) (hne : n ≠ r) : w'.cell? ⟨n, i, none⟩ = some v := by
  rw [cell_same (hg.block n (cell_lt hc) (fun e => hne (by cases e; rfl)))]; exact hc

theorem below_grown {B r : Nat} {a w w' : World} (h : Below B a w) (hg : w.grownBy w' (some r)) (hB : B ≤ w.heap.size) (hr : B ≤ r) : Below B a w' :=
  h.grown hg hB (fun k hk => by cases hk; exact hr)

theorem HOpAt.below {w w' : World} {g k : Nat} {o : SOp} {i : Nat} {r : Option Int} {vp rp : Value} {B : Nat} (h : HOpAt w g k o i r vp rp) (hb : Below B w w') (hB : B = w.heap.size) : HOpAt w' g k o i r vp rp := by
  subst hB
  exact h.keep (fun i hi _ => hb.block i hi) (fun t _ => cell_same (hb.block g h.lt) _)

theorem ptrI.shape {w : World} {g : Nat} {v : Value} {r : Option Int} (h : ptrI w g v r) : ∃ x, v = .pointer x := by
  cases r with
  | none => exact ⟨_, h⟩
  | some r => obtain ⟨a, h, _⟩ := h; exact ⟨_, h⟩
theorem ptrS.shape {w : World} {g : Nat} {v : Value} {r : Option ByteArray} (h : ptrS w g v r) : ∃ x, v = .pointer x := by
  cases r with
  | none => exact ⟨_, h⟩
  | some r => obtain ⟨a, h, _⟩ := h; exact ⟨_, h⟩

theorem drew_grown (w : World) : w.grownBy w.drew none := ⟨rfl, rfl, rfl, Nat.le_refl _, fun _ _ _ => rfl⟩

/-- The first loop's relation, all of it. -/
structure R1 (w wr : World) (F : Nat → SOp) (k : Nat) : Prop where
  three : Three wr w.heap.size F k
  below : Below w.heap.size w wr
  size : w.heap.size + 3 ≤ wr.heap.size

theorem R1.w {w wr w1 : World} {F : Nat → SOp} {k nr ne n : Nat} {o : Obj} (hv : (F k).hasV = true) (hk : (F k).kind = 1) (hw : MapIs strKey w1 w.heap.size (upd (Mw F k) (F k).val (some (.int .i64 ((stat F (F k).val k).writes + 1)))) n)
    (hr : MapIs strKey wr (w.heap.size + 1) (Mr F k) nr) (he : MapIs strKey wr (w.heap.size + 2) (Me F k) ne) (hb : Below w.heap.size w wr) (hs : w.heap.size + 3 ≤ wr.heap.size)
    (hg : (wr.alloc o).grownBy w1 (some w.heap.size)) : R1 w w1 F (k + 1) := by
  obtain ⟨m1, m2, m3⟩ := maps_w hv hk
  have := hg.size
  rw [size_alloc] at this
  refine ⟨⟨⟨_, hw.congr m1⟩, ⟨_, ((hr.alloc o).grown hg (by simp)).congr m2⟩, ⟨_, ((he.alloc o).grown hg (by simp)).congr m3⟩⟩, below_grown (hb.alloc (by omega) o) hg (by rw [size_alloc]; omega) (Nat.le_refl _), by omega⟩

theorem R1.no {w wr : World} {F : Nat → SOp} {k nw nr ne : Nat} {o : Obj} (hv : (F k).hasV = false) (hw : MapIs strKey wr w.heap.size (Mw F k) nw)
    (hr : MapIs strKey wr (w.heap.size + 1) (Mr F k) nr) (he : MapIs strKey wr (w.heap.size + 2) (Me F k) ne) (hb : Below w.heap.size w wr) (hs : w.heap.size + 3 ≤ wr.heap.size) : R1 w (wr.alloc o) F (k + 1) := by
  obtain ⟨m1, m2, m3⟩ := maps_no hv
  exact ⟨⟨⟨_, (hw.alloc o).congr m1⟩, ⟨_, (hr.alloc o).congr m2⟩, ⟨_, (he.alloc o).congr m3⟩⟩, hb.alloc (by omega) o, by rw [size_alloc]; omega⟩

/-- A non-write with a value, whose return changes nothing. -/
theorem R1.r {w wr w1 : World} {F : Nat → SOp} {k nw ne n : Nat} {o : Obj} (hv : (F k).hasV = true) (hk : ¬ (F k).kind = 1) (hw : MapIs strKey wr w.heap.size (Mw F k) nw)
    (hr : MapIs strKey w1 (w.heap.size + 1) (upd (Mr F k) (F k).val (some (.bool true))) n) (he : MapIs strKey wr (w.heap.size + 2) (Me F k) ne) (hb : Below w.heap.size w wr) (hs : w.heap.size + 3 ≤ wr.heap.size)
    (hg : (wr.alloc o).grownBy w1 (some (w.heap.size + 1))) (hl : later (stat F (F k).val k).first (F k) = (stat F (F k).val k).first) : R1 w w1 F (k + 1) := by
  obtain ⟨m1, m2, m3, _⟩ := maps_r hv hk
  have := hg.size
  rw [size_alloc] at this
  exact ⟨⟨⟨_, ((hw.alloc o).grown hg (by simp)).congr m1⟩, ⟨_, hr.congr m2⟩, ⟨_, ((he.alloc o).grown hg (by simp)).congr (m3 hl)⟩⟩, below_grown (hb.alloc (by omega) o) hg (by rw [size_alloc]; omega) (by omega), by omega⟩

/-- .. whose return is the first. -/
theorem R1.e {w wr w1 w3 : World} {F : Nat → SOp} {k nw n n3 : Nat} {o : Obj} {x : Int} (hv : (F k).hasV = true) (hk : ¬ (F k).kind = 1) (hw : MapIs strKey wr w.heap.size (Mw F k) nw)
    (hr : MapIs strKey w1 (w.heap.size + 1) (upd (Mr F k) (F k).val (some (.bool true))) n) (hb : Below w.heap.size w wr) (hs : w.heap.size + 3 ≤ wr.heap.size)
    (hg : (wr.alloc o).grownBy w1 (some (w.heap.size + 1))) (he : MapIs strKey w3 (w.heap.size + 2) (upd (Me F k) (F k).val (some (.int .i64 x))) n3) (hg3 : w1.drew.grownBy w3 (some (w.heap.size + 2)))
    (hl : later (stat F (F k).val k).first (F k) = some x) : R1 w w3 F (k + 1) := by
  obtain ⟨m1, m2, _, m3⟩ := maps_r hv hk
  have s1 := hg.size
  rw [size_alloc] at s1
  have s2 : w1.heap.size ≤ w3.heap.size := hg3.size
  have b1 := (below_grown (hb.alloc (by omega) o) hg (by rw [size_alloc]; omega) (by omega)).drew
  exact ⟨⟨⟨_, (((hw.alloc o).grown hg (by simp)).drew.grown hg3 (by simp)).congr m1⟩, ⟨_, (hr.drew.grown hg3 (by simp)).congr m2⟩, ⟨_, he.congr (m3 x hl)⟩⟩, below_grown b1 hg3 (by show w.heap.size ≤ w1.heap.size; omega) (by omega), by omega⟩

theorem ptrS.to {w w' : World} {B g : Nat} {v : Value} {s : ByteArray} (h : ptrS w g v (some s)) (hb : Below B w w') (hB : B = w.heap.size) : ∃ a, v = .pointer (some ⟨a, 0, none⟩) ∧ a < w.heap.size ∧ a < w'.heap.size ∧ w'.cell? ⟨a, 0, none⟩ = some (.string s) := by
  obtain ⟨a, h1, h2, h3⟩ := h
  have hl := cell_lt h3
  exact ⟨a, h1, hl, Nat.lt_of_lt_of_le hl hb.size, by rw [cell_same (hb.block a (by rw [hB]; exact hl))]; exact h3⟩
theorem ptrI.to {w w' : World} {B g : Nat} {v : Value} {s : Int} (h : ptrI w g v (some s)) (hb : Below B w w') (hB : B = w.heap.size) : ∃ a, v = .pointer (some ⟨a, 0, none⟩) ∧ a < w.heap.size ∧ a < w'.heap.size ∧ w'.cell? ⟨a, 0, none⟩ = some (.int .i64 s) := by
  obtain ⟨a, h1, h2, h3⟩ := h
  have hl := cell_lt h3
  exact ⟨a, h1, hl, Nat.lt_of_lt_of_le hl hb.size, by rw [cell_same (hb.block a (by rw [hB]; exact hl))]; exact h3⟩
theorem ownV_some {o : SOp} (h : o.hasV = true) : ownV o = some o.val := by simp [ownV, h]
theorem ownV_none {o : SOp} (h : o.hasV = false) : ownV o = none := by simp [ownV, h]
theorem own_some {o : SOp} (h : o.hasR = true) : own o = some o.ret := by simp [own, h]
theorem own_none {o : SOp} (h : o.hasR = false) : own o = none := by simp [own, h]
end Go.Proofs.Qxb6600030a
