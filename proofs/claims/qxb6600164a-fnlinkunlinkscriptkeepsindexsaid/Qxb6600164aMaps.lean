import Derived.WalkKit
import Derived.Maps.OwnSet
namespace Go.Proofs.Qxb6600164a
open Go.MapKept

/-! ### Maps by their look-up function and their number of entries. Keys come from a plain type α by 'kv'. -/

/-- Where an entry with the key stands, its value. -/
def findV (k : Value → Bool) : List MapEntry → Option Value
  | [] => none
  | e :: es => if k e.key then some e.val else findV k es

/-- How a plain type makes keys of kind d. -/
structure KeyBy (α : Type) where
  kv : α → Value
  d : TypeDesc
  isKey : ∀ a, IsKey d (kv a)
  inj : ∀ a b, kv a = kv b → a = b
  plain : ∀ a, Instr.sameBits 10000 (kv a) (kv a) = true

def strKey : KeyBy ByteArray where
  kv := .string
  d := .string
  isKey := fun _ => trivial
  inj := fun a b h => by cases h; rfl
  plain := fun a => by simp [Instr.sameBits, (bytes_beq a a).2 rfl]

def i64Key : KeyBy Int where
  kv := .int .i64
  d := .int .i64
  isKey := fun _ => rfl
  inj := fun a b h => by cases h; rfl
  plain := fun a => by simp [Instr.sameBits]

/-- Block b of w is a map: keys by 'K', no key twice, n entries, look-ups by M. -/
def MapIs {α : Type} (K : KeyBy α) (w : World) (b : Nat) (M : α → Option Value) (n : Nat) : Prop :=
  ∃ (es : Array MapEntry) (clock : Nat) (ks : List α), w.heap[b]? = some (.map es clock) ∧ es.toList.map (·.key) = ks.map K.kv ∧ ks.Nodup ∧ es.size = n ∧
    ∀ k v, M k = some v ↔ ∃ e ∈ es.toList, e.key = K.kv k ∧ e.val = v

section
variable {α : Type} {K : KeyBy α} {w w' : World} {b : Nat} {M : α → Option Value} {n : Nat}

theorem MapIs.made (K : KeyBy α) (w : World) : MapIs K (w.alloc (.map #[] 0)) w.heap.size (fun _ => none) 0 :=
  ⟨#[], 0, [], by show (w.heap.push _)[w.heap.size]? = _; simp, rfl, List.nodup_nil, rfl, by simp⟩

theorem MapIs.same (h : MapIs K w b M n) (e : w'.heap[b]? = w.heap[b]?) : MapIs K w' b M n := by
  obtain ⟨es, c, ks, h1, h2⟩ := h
  exact ⟨es, c, ks, e.trans h1, h2⟩

theorem MapIs.lt (h : MapIs K w b M n) : b < w.heap.size := by
  obtain ⟨es, c, ks, h1, h2⟩ := h
  exact (Array.getElem?_eq_some_iff.1 h1).1

theorem MapIs.congr (h : MapIs K w b M n) {M' : α → Option Value} (e : ∀ k, M' k = M k) : MapIs K w b M' n := by
  have : M' = M := funext e
  rw [this]; exact h

theorem MapIs.alloc (h : MapIs K w b M n) (o : Obj) : MapIs K (w.alloc o) b M n :=
  h.same (by have := h.lt; show (w.heap.push o)[b]? = _; rw [Array.getElem?_push, if_neg (by omega)])

theorem MapIs.drew (h : MapIs K w b M n) : MapIs K w.drew b M n := h.same rfl

theorem MapIs.grown (h : MapIs K w b M n) {row : Option Nat} (g : w.grownBy w' row) (hr : some b ≠ row) : MapIs K w' b M n :=
  h.same (g.block b h.lt hr)

/-- What the search comes to. -/
theorem find_spec {es : Array MapEntry} {ks : List α} (hk : es.toList.map (·.key) = ks.map K.kv) (k : α) :
    (Instr.findNow K.d (K.kv k) es.toList 0 = some none ∧ ∀ e ∈ es.toList, e.key ≠ K.kv k) ∨
    ∃ j e, Instr.findNow K.d (K.kv k) es.toList 0 = some (some (j, e.val)) ∧ es.toList[j]? = some e ∧ e.key = K.kv k := by
  have hks : ∀ x ∈ es.toList, IsKey K.d x.key := by
    intro x hx
    have : x.key ∈ es.toList.map (·.key) := List.mem_map_of_mem hx
    rw [hk] at this
    obtain ⟨a, _, ha⟩ := List.mem_map.1 this
    rw [← ha]; exact K.isKey a
  rcases findNow_spec (K.isKey k) es.toList 0 hks with ⟨h1, h2⟩ | ⟨j, e, h1, h2, h3⟩
  · exact .inl ⟨h1, h2⟩
  · exact .inr ⟨j, e, by simpa using h1, h2, h3⟩

theorem key_unique {es : Array MapEntry} {ks : List α} (hk : es.toList.map (·.key) = ks.map K.kv) (hd : ks.Nodup) {i j : Nat} {e e' : MapEntry}
    (hi : es.toList[i]? = some e) (hj : es.toList[j]? = some e') (h : e.key = e'.key) : i = j := by
  have hl : es.toList.length = ks.length := by simpa using congrArg List.length hk
  have hi' := (List.getElem?_eq_some_iff.1 hi).1
  have hj' := (List.getElem?_eq_some_iff.1 hj).1
  have a1 : (es.toList.map (·.key))[i]? = some e.key := by rw [List.getElem?_map, hi]; rfl
  have a2 : (es.toList.map (·.key))[j]? = some e'.key := by rw [List.getElem?_map, hj]; rfl
  rw [hk, List.getElem?_map] at a1 a2
  rw [List.getElem?_eq_getElem (by omega)] at a1 a2
  simp only [Option.map_some, Option.some.injEq] at a1 a2
  have := K.inj _ _ (a1.trans (h.trans a2.symm))
  have hp := List.pairwise_iff_getElem.1 hd
  rcases Nat.lt_trichotomy i j with hlt | heq | hgt
  · exact absurd this (hp i j (by omega) (by omega) hlt)
  · exact heq
  · exact absurd this.symm (hp j i (by omega) (by omega) hgt)

theorem MapIs.none_iff (h : MapIs K w b M n) (k : α) : ∀ es clock, w.heap[b]? = some (.map es clock) → (M k = none ↔ ∀ e ∈ es.toList, e.key ≠ K.kv k) := by
  obtain ⟨es, c, ks, h1, h2, h3, h4, h5⟩ := h
  intro es' c' h'
  rw [h1] at h'
  cases h'
  constructor
  · intro hn e he hk
    have := (h5 k e.val).2 ⟨e, he, hk, rfl⟩
    rw [hn] at this; cases this
  · intro hall
    cases hM : M k with
    | none => rfl
    | some v =>
      obtain ⟨e, he, hk, _⟩ := (h5 k v).1 hM
      exact absurd hk (hall e he)

variable {P : Program} {t kt et : TypeId}

/-- 'm[k]' and 'v, ok := m[k]'. -/
theorem MapIs.look (h : MapIs K w b M n) (ht : P.underlying t = some (.map kt et)) (hk : P.underlying kt = some K.d) {z : Value} (hz : (zeroValue et).run P w = .ok z w) (k : α) (c : Bool) :
    (Instr.lookup t (.map (some b)) (K.kv k) c).run P w = .ok (if c then .tuple #[(M k).getD z, .bool (M k).isSome] else (M k).getD z) w := by
  have hnone := h.none_iff k
  obtain ⟨es, clock, ks, h1, h2, h3, h4, h5⟩ := h
  have hn := hnone es clock h1
  unfold Instr.lookup
  rcases find_spec h2 k with ⟨g1, g2⟩ | ⟨j, e, g1, g2, g3⟩
  · have hM := hn.2 g2
    simp [run_underlying ht, Result.andThen, MapKept.run_getObj_map h1, run_checkKey hk (K.isKey k), run_findKey hk g1, hz, hM]
  · have hM : M k = some e.val := (h5 k e.val).2 ⟨e, List.mem_of_getElem? g2, g3, rfl⟩
    simp [run_underlying ht, Result.andThen, MapKept.run_getObj_map h1, run_checkKey hk (K.isKey k), run_findKey hk g1, hM]

theorem look_nil (ht : P.underlying t = some (.map kt et)) (hk : P.underlying kt = some K.d) {z : Value} (hz : (zeroValue et).run P w = .ok z w) (k : α) (c : Bool) :
    (Instr.lookup t (.map none) (K.kv k) c).run P w = .ok (if c then .tuple #[z, .bool false] else z) w := by
  unfold Instr.lookup
  have hf : Instr.findNow K.d (K.kv k) [] 0 = some none := rfl
  simp [run_underlying ht, Result.andThen, run_checkKey hk (K.isKey k), run_findKey hk hf, hz]

def upd [DecidableEq α] (M : α → Option Value) (k : α) (v : Option Value) : α → Option Value := fun x => if x = k then v else M x

theorem upd_same [DecidableEq α] (M : α → Option Value) (k : α) (v : Option Value) : upd M k v k = v := by simp [upd]
theorem upd_other [DecidableEq α] (M : α → Option Value) (k : α) (v : Option Value) {x : α} (h : x ≠ k) : upd M k v x = M x := by simp [upd, h]

theorem heap_set_same {w : World} {b : Nat} {o o' : Obj} (h : w.heap[b]? = some o) : (w.heap.setIfInBounds b o')[b]? = some o' := by
  have := (Array.getElem?_eq_some_iff.1 h).1
  simp [this]

theorem grown_set (w : World) (b : Nat) (o : Obj) : w.grownBy { w with heap := w.heap.setIfInBounds b o } (some b) :=
  ⟨rfl, rfl, rfl, by simp, fun k hk hne => by
    have : ¬ b = k := fun e => hne (by rw [e])
    simp [this]⟩

/-- 'm[k] = v'. -/
theorem MapIs.update [DecidableEq α] (h : MapIs K w b M n) (ht : P.underlying t = some (.map kt et)) (hk : P.underlying kt = some K.d) (k : α) (v : Value) :
    ∃ w', (Instr.mapUpdate t (.map (some b)) (K.kv k) v).run P w = .ok () w' ∧ MapIs K w' b (upd M k (some v)) (if (M k).isSome then n else n + 1) ∧ w.grownBy w' (some b) ∧ w'.heap.size = w.heap.size := by
  have hnone := h.none_iff k
  obtain ⟨es, clock, ks, h1, h2, h3, h4, h5⟩ := h
  have hn := hnone es clock h1
  unfold Instr.mapUpdate
  rcases find_spec h2 k with ⟨g1, g2⟩ | ⟨j, e, g1, g2, g3⟩
  · have hM := hn.2 g2
    refine ⟨{ w with heap := w.heap.setIfInBounds b (.map (es.push { key := K.kv k, val := v, born := clock }) (clock + 1)) }, by simp [run_underlying ht, Result.andThen, MapKept.run_getObj_map h1, run_checkKey hk (K.isKey k), run_findKey hk g1, run_setObj_map _ h1], ?_, grown_set _ _ _, by simp⟩
    refine ⟨_, _, ks ++ [k], heap_set_same h1, by simp [h2], ?_, by simp [h4, hM], ?_⟩
    · rw [List.nodup_append]
      refine ⟨h3, by simp, ?_⟩
      intro a ha c hc e
      simp only [List.mem_singleton] at hc
      subst hc; subst e
      have hm : K.kv a ∈ es.toList.map (·.key) := by rw [h2]; exact List.mem_map_of_mem ha
      obtain ⟨x, hx, hxk⟩ := List.mem_map.1 hm
      exact g2 x hx hxk
    · intro x u
      by_cases hx : x = k
      · subst hx
        simp only [upd_same, Option.some.injEq, Array.toList_push, List.mem_append, List.mem_singleton]
        constructor
        · intro e; exact ⟨_, .inr rfl, rfl, e⟩
        · rintro ⟨y, hy | hy, h6, h7⟩
          · exact absurd h6 (g2 y hy)
          · subst hy; exact h7
      · rw [upd_other _ _ _ hx, h5]
        simp only [Array.toList_push, List.mem_append, List.mem_singleton]
        constructor
        · rintro ⟨y, hy, h6⟩; exact ⟨y, .inl hy, h6⟩
        · rintro ⟨y, hy | hy, h6, h7⟩
          · exact ⟨y, hy, h6, h7⟩
          · subst hy; exact absurd (K.inj _ _ h6) (fun q => hx q.symm)
  · have hM : M k = some e.val := (h5 k e.val).2 ⟨e, List.mem_of_getElem? g2, g3, rfl⟩
    have hj : j < es.toList.length := (List.getElem?_eq_some_iff.1 g2).1
    have hje : es[j]? = some e := by simpa using g2
    have hstay : ∀ w : World, (Instr.keyThatStays (((es[j]?).map (·.key)).getD (K.kv k)) (K.kv k)).run P w = .ok (K.kv k) w := by
      intro w
      simp [Instr.keyThatStays, hje, g3, K.plain]
    refine ⟨_, by simp only [Sem.run_bind, run_underlying ht, Result.andThen, MapKept.run_getObj_map h1, run_checkKey hk (K.isKey k), run_findKey hk g1, hstay, run_setObj_map _ h1]; rfl, ?_, grown_set _ _ _, by simp⟩
    have hmod : (es.modify j fun e => { e with key := K.kv k, val := v }).toList = es.toList.modify j (fun e => { e with key := K.kv k, val := v }) := by simp
    refine ⟨_, _, ks, heap_set_same h1, ?_, h3, by simp [h4, hM], ?_⟩
    · rw [hmod, ← h2]
      apply List.ext_getElem?
      intro i
      simp only [List.getElem?_map, List.getElem?_modify]
      by_cases hij : j = i
      · subst hij; rw [g2]; simp [g3]
      · simp [hij]
    · intro x u
      have hmem : ∀ y : MapEntry, y ∈ (es.modify j fun e => { e with key := K.kv k, val := v }).toList ↔ (∃ i, i ≠ j ∧ es.toList[i]? = some y) ∨ y = { e with key := K.kv k, val := v } := by
        intro y
        rw [hmod, List.mem_iff_getElem?]
        constructor
        · rintro ⟨i, hi⟩
          rw [List.getElem?_modify] at hi
          by_cases hij : j = i
          · subst hij; rw [g2] at hi; simp at hi; exact .inr hi.symm
          · simp [hij] at hi; exact .inl ⟨i, fun q => hij q.symm, by simpa using hi⟩
        · rintro (⟨i, hi, hy⟩ | hy)
          · exact ⟨i, by rw [List.getElem?_modify, hy]; simp; exact fun q => absurd q.symm hi⟩
          · exact ⟨j, by rw [List.getElem?_modify, g2, hy]; simp⟩
      by_cases hx : x = k
      · subst hx
        rw [upd_same]
        simp only [Option.some.injEq]
        constructor
        · intro q; exact ⟨_, (hmem _).2 (.inr rfl), rfl, q⟩
        · rintro ⟨y, hy, h6, h7⟩
          rcases (hmem y).1 hy with ⟨i, hi, hy'⟩ | rfl
          · exact absurd (key_unique h2 h3 hy' g2 (h6.trans g3.symm)) hi
          · exact h7
      · rw [upd_other _ _ _ hx, h5]
        constructor
        · rintro ⟨y, hy, h6, h7⟩
          obtain ⟨i, hi⟩ := List.mem_iff_getElem?.1 hy
          refine ⟨y, (hmem y).2 (.inl ⟨i, ?_, hi⟩), h6, h7⟩
          intro q; subst q
          rw [g2] at hi
          cases hi
          exact hx (K.inj _ _ (h6.symm.trans g3))
        · rintro ⟨y, hy, h6, h7⟩
          rcases (hmem y).1 hy with ⟨i, hi, hy'⟩ | rfl
          · exact ⟨y, List.mem_of_getElem? hy', h6, h7⟩
          · exact absurd (K.inj _ _ h6) (fun q => hx q.symm)


theorem mem_eraseIdx_key {es : Array MapEntry} {ks : List α} (h2 : es.toList.map (·.key) = ks.map K.kv) (h3 : ks.Nodup) {j : Nat} {e : MapEntry} (g2 : es.toList[j]? = some e) (y : MapEntry) :
    y ∈ es.toList.eraseIdx j ↔ y ∈ es.toList ∧ y.key ≠ e.key := by
  have hj := (List.getElem?_eq_some_iff.1 g2).1
  rw [List.mem_eraseIdx_iff_getElem?]
  constructor
  · rintro ⟨i, hij, hi⟩
    exact ⟨List.mem_of_getElem? hi, fun hk => hij (key_unique h2 h3 hi g2 hk)⟩
  · rintro ⟨hm, hk⟩
    obtain ⟨i, hi⟩ := List.mem_iff_getElem?.1 hm
    refine ⟨i, fun hij => ?_, hi⟩
    subst hij
    rw [g2] at hi
    cases hi
    exact hk rfl

theorem map_eraseIdx {β γ : Type} (f : β → γ) (l : List β) (j : Nat) : (l.eraseIdx j).map f = (l.map f).eraseIdx j := by
  induction l generalizing j with
  | nil => simp
  | cons x l ih => cases j with
    | zero => simp
    | succ j => simp [ih]

/-- 'delete(m, k)'. -/
theorem MapIs.del [DecidableEq α] {kt' ty : TypeId} (h : MapIs K w b M n) (ht : P.underlying t = some (.map kt et)) (hk : P.underlying kt = some K.d) (k : α) :
    ∃ w', (Builtin.delete_ #[t, kt'] ty #[.map (some b), K.kv k]).run P w = .ok (.tuple #[]) w' ∧ MapIs K w' b (upd M k none) (if (M k).isSome then n - 1 else n) ∧ w.grownBy w' (some b) ∧ w'.heap.size = w.heap.size := by
  have hnone := h.none_iff k
  obtain ⟨es, clock, ks, h1, h2, h3, h4, h5⟩ := h
  have hn := hnone es clock h1
  unfold Builtin.delete_
  rcases find_spec h2 k with ⟨g1, g2⟩ | ⟨j, e, g1, g2, g3⟩
  · have hM := hn.2 g2
    refine ⟨{ w with heap := w.heap.setIfInBounds b (.map es clock) }, by simp [run_underlying ht, Result.andThen, MapKept.run_getObj_map h1, run_checkKey hk (K.isKey k), run_findKey hk g1, run_setObj_map _ h1], ?_, grown_set _ _ _, by simp⟩
    refine ⟨es, clock, ks, heap_set_same h1, h2, h3, by simp [h4, hM], ?_⟩
    intro x u
    by_cases hx : x = k
    · subst hx
      rw [upd_same]
      constructor
      · intro q; cases q
      · rintro ⟨y, hy, h6, _⟩; exact absurd h6 (g2 y hy)
    · rw [upd_other _ _ _ hx, h5]
  · have hM : M k = some e.val := (h5 k e.val).2 ⟨e, List.mem_of_getElem? g2, g3, rfl⟩
    have hj : j < es.toList.length := (List.getElem?_eq_some_iff.1 g2).1
    have hj' : j < es.size := by simpa using hj
    refine ⟨{ w with heap := w.heap.setIfInBounds b (.map (es.eraseIdxIfInBounds j) clock) }, by simp [run_underlying ht, Result.andThen, MapKept.run_getObj_map h1, run_checkKey hk (K.isKey k), run_findKey hk g1, run_setObj_map _ h1], ?_, grown_set _ _ _, by simp⟩
    have hl : (es.eraseIdxIfInBounds j).toList = es.toList.eraseIdx j := by simp [Array.eraseIdxIfInBounds, hj']
    refine ⟨_, clock, ks.eraseIdx j, heap_set_same h1, ?_, ?_, ?_, ?_⟩
    · rw [hl, map_eraseIdx, h2, map_eraseIdx]
    · exact h3.sublist (List.eraseIdx_sublist _ _)
    · have hs : (es.eraseIdxIfInBounds j).size = es.size - 1 := by rw [← Array.length_toList, hl, List.length_eraseIdx_of_lt hj]; simp
      rw [hM, hs, h4]; simp
    · intro x u
      rw [hl]
      by_cases hx : x = k
      · subst hx
        rw [upd_same]
        constructor
        · intro q; cases q
        · rintro ⟨y, hy, h6, _⟩
          exact absurd (h6.trans g3.symm) ((mem_eraseIdx_key h2 h3 g2 y).1 hy).2
      · rw [upd_other _ _ _ hx, h5]
        constructor
        · rintro ⟨y, hy, h6, h7⟩
          exact ⟨y, (mem_eraseIdx_key h2 h3 g2 y).2 ⟨hy, fun q => hx (K.inj _ _ (h6.symm.trans (q.trans g3)))⟩, h6, h7⟩
        · rintro ⟨y, hy, h6, h7⟩
          exact ⟨y, ((mem_eraseIdx_key h2 h3 g2 y).1 hy).1, h6, h7⟩

/-- 'len(m)'. -/
theorem MapIs.len {ty : TypeId} (h : MapIs K w b M n) (ht : P.underlying t = some (.map kt et)) : (Builtin.len_ #[t] ty #[.map (some b)]).run P w = .ok (.int .i64 n) w := by
  obtain ⟨es, clock, ks, h1, h2, h3, h4, h5⟩ := h
  simp [Builtin.len_, run_underlying ht, Result.andThen, MapKept.run_getObj_map h1, goInt, h4]

end

/-- 'm[k] = v' AT THE OPERATION. -/
theorem wpList_put {α : Type} [DecidableEq α] {P : Program} (K : KeyBy α) (w : World) {ops : Array Oper} {rest : List Oper} {o : Oper} {a : Act} {Q : Exit → Act → World → Prop}
    (hg : o.guard = none) (m x v : Operand) (t kt et : TypeId) (hop : o.op = Op.mapUpdate t m x v) (ht : P.underlying t = some (.map kt et)) (hk : P.underlying kt = some K.d)
    (b n : Nat) (M : α → Option Value) (hm : a.eval m = .map (some b)) (h : MapIs K w b M n) (k : α) (hx : a.eval x = K.kv k) (val : Value) (hv : a.eval v = val)
    (hK : ∀ w', MapIs K w' b (upd M k (some val)) (if (M k).isSome then n else n + 1) → w.grownBy w' (some b) → w'.heap.size = w.heap.size → wpList P ops Q rest (a.put o.dst undef) w') :
    wpList P ops Q (o :: rest) a w := by
  refine wpList_plain hg fun K' hK' => ?_
  obtain ⟨w', hrun, r1, r2, r3⟩ := h.update ht hk k val
  unfold Oper.wp
  simp [execOp, hop, hm, hx, hv, hrun, Result.andThen]
  exact hK' _ _ (hK w' r1 r2 r3)

/-- 'm[k]', 'v, ok := m[k]' AT THE OPERATION. -/
theorem wpList_look {α : Type} {P : Program} (K : KeyBy α) (w : World) {ops : Array Oper} {rest : List Oper} {o : Oper} {a : Act} {Q : Exit → Act → World → Prop}
    (hg : o.guard = none) (m x : Operand) (t kt et : TypeId) (c : Bool) (hop : o.op = Op.lookup t m x c) (ht : P.underlying t = some (.map kt et)) (hk : P.underlying kt = some K.d)
    (b n : Nat) (M : α → Option Value) (hm : a.eval m = .map (some b)) (h : MapIs K w b M n) (k : α) (hx : a.eval x = K.kv k) (z : Value) (hz : (zeroValue et).run P w = .ok z w)
    (r : Value) (hr : r = if c then .tuple #[(M k).getD z, .bool (M k).isSome] else (M k).getD z)
    (hK : wpList P ops Q rest (a.put o.dst r) w) :
    wpList P ops Q (o :: rest) a w := by
  refine wpList_plain hg fun K' hK' => ?_
  have hrun := h.look ht hk hz k c
  rw [← hr] at hrun
  unfold Oper.wp
  simp [execOp, hop, hm, hx, hrun, Result.andThen]
  exact hK' _ _ hK

/-- 'delete(m, k)' AT THE OPERATION. -/
theorem wpList_del {α : Type} [DecidableEq α] {P : Program} (K : KeyBy α) (w : World) {ops : Array Oper} {rest : List Oper} {o : Oper} {a : Act} {Q : Exit → Act → World → Prop}
    (hg : o.guard = none) (m x : Operand) (t kt kt' et : TypeId) (hop : o.op = Op.call { callee := Callee.builtin Builtin.delete, args := #[m, x], argTypes := #[t, kt'] }) (ht : P.underlying t = some (.map kt et)) (hk : P.underlying kt = some K.d)
    (b n : Nat) (M : α → Option Value) (hm : a.eval m = .map (some b)) (h : MapIs K w b M n) (k : α) (hx : a.eval x = K.kv k)
    (hK : ∀ w', MapIs K w' b (upd M k none) (if (M k).isSome then n - 1 else n) → w.grownBy w' (some b) → w'.heap.size = w.heap.size → wpList P ops Q rest (a.put o.dst (.tuple #[])) w') :
    wpList P ops Q (o :: rest) a w := by
  refine wpList_plain hg fun K' hK' => ?_
  obtain ⟨w', hrun, r1, r2, r3⟩ := h.del (kt' := kt') (ty := o.type) ht hk k
  unfold Oper.wp
  simp [execOp, hop, resolve, invoke, builtin, hm, hx, hrun, Result.andThen]
  exact hK' _ _ (hK w' r1 r2 r3)

/-- 'len(m)' AT THE OPERATION. -/
theorem wpList_mlen {α : Type} {P : Program} (K : KeyBy α) (w : World) {ops : Array Oper} {rest : List Oper} {o : Oper} {a : Act} {Q : Exit → Act → World → Prop}
    (hg : o.guard = none) (m : Operand) (t kt et : TypeId) (hop : o.op = Op.call { callee := Callee.builtin Builtin.len, args := #[m], argTypes := #[t] }) (ht : P.underlying t = some (.map kt et))
    (b n : Nat) (M : α → Option Value) (hm : a.eval m = .map (some b)) (h : MapIs K w b M n) (hK : wpList P ops Q rest (a.put o.dst (.int .i64 n)) w) : wpList P ops Q (o :: rest) a w := by
  refine wpList_plain hg fun K' hK' => ?_
  have hrun := h.len (ty := o.type) ht
  unfold Oper.wp
  simp [execOp, hop, resolve, invoke, builtin, hm, hrun, Result.andThen]
  exact hK' _ _ hK
end Go.Proofs.Qxb6600164a
