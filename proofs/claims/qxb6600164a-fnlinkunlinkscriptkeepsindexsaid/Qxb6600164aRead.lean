import Derived.Test.Qxb6600164aUnlink
namespace Go.Proofs.Qxb6600164a
open Go.MapKept
open Go.ChangeShapes Go.WideShapes Go.ChangeAt Go.RowKit

set_option maxHeartbeats 1000000 in
theorem new7 (o : Int) (w : World) : Calls Try.prog 7 #[.int .i64 o] w fun e w' => e = .returned (.pointer (some ⟨w.heap.size, 0, none⟩)) ∧ NewNode w' w.heap.size o ∧ Below w.heap.size w w' ∧ w'.heap.size = w.heap.size + 1 := by
  go_enter Try.func7, Try.ntmps7
  go_wp2
  go_ret
  refine ⟨rfl, ⟨⟨_, _, heap_new _ _ _ rfl, rfl⟩, ?_, ?_⟩, (Below.refl _ _).alloc (Nat.le_refl _) _, size_alloc _ _⟩
  · simp only [World.cell?, heap_new w _ _ rfl]; rfl
  · simp only [World.cell?, heap_new w _ _ rfl]; rfl

section
variable {w : World} {B T x : Nat} {A : Abs} {p s : ByteArray} {o : Int}

set_option maxHeartbeats 1000000 in
theorem count10 (h : Rep w B T A) : Calls Try.prog 10 #[.pointer (some ⟨T, 0, none⟩)] w fun e w' => e = .returned (.int .i64 A.nn) ∧ w' = w := by
  obtain ⟨hB, N, E, role, kid, set, r, hp⟩ := h
  have t0 := r.t0
  have m := r.nodes
  clear hp
  go_enter Try.func10, Try.ntmps10
  go_wp2_with (at_len; refine wpList_mlen strKey _ rfl _ 53 9 24 rfl Try.underlying53 N _ _ rfl m ?_)
  go_ret
  exact ⟨rfl, rfl⟩
set_option maxHeartbeats 1000000 in
theorem owners11 (h : Rep w B T A) : Calls Try.prog 11 #[.pointer (some ⟨T, 0, none⟩)] w fun e w' => e = .returned (.int .i64 A.en) ∧ w' = w := by
  obtain ⟨hB, N, E, role, kid, set, r, hp⟩ := h
  have t1 := r.t1
  have m := r.ephs
  clear hp
  go_enter Try.func11, Try.ntmps11
  go_wp2_with (at_len; refine wpList_mlen i64Key _ rfl _ 54 2 50 rfl Try.underlying54 E _ _ rfl m ?_)
  go_ret
  exact ⟨rfl, rfl⟩
set_option maxHeartbeats 1000000 in
theorem kids12 (h : Rep w B T A) (hx : A.live x) : Calls Try.prog 12 #[.pointer (some ⟨x, 0, none⟩)] w fun e w' => e = .returned (.int .i64 (A.kn x)) ∧ w' = w := by
  obtain ⟨hB, N, E, role, kid, set, r, hp⟩ := h
  have t0 := r.c12 x hx
  clear hp
  cases hk : kid x with
  | none =>
    rw [hk] at t0
    have e := (r.k0 x hx hk).2
    go_enter Try.func12, Try.ntmps12
    go_wp2_with (at_len; refine wpList_len_nil _ rfl _ 50 9 58 rfl Try.underlying50 rfl ?_)
    go_ret
    exact ⟨by rw [e]; rfl, rfl⟩
  | some c =>
    rw [hk] at t0
    have m := r.k1 x c hx hk
    go_enter Try.func12, Try.ntmps12
    go_wp2_with (at_len; refine wpList_mlen strKey _ rfl _ 50 9 58 rfl Try.underlying50 c _ _ rfl m ?_)
    go_ret
    exact ⟨rfl, rfl⟩
set_option maxHeartbeats 1000000 in
theorem owned13 (h : Rep w B T A) : Calls Try.prog 13 #[.pointer (some ⟨T, 0, none⟩), .int .i64 o] w fun e w' => e = .returned (.int .i64 (A.on o)) ∧ w' = w := by
  obtain ⟨hB, N, E, role, kid, set, r, hp⟩ := h
  have t1 := r.t1
  have m := r.ephs
  clear hp
  cases hs : set o with
  | none =>
    have e := (r.s0 o hs).2
    go_enter Try.func13, Try.ntmps13
    go_wp2_with (first | (at_lookup; refine wpList_look i64Key _ rfl _ _ 54 2 50 false rfl Try.underlying54 Try.underlying2 E _ _ rfl m o rfl (.map none) (zero50 _) (.map none) (by simp [hs]) ?_) | (at_len; refine wpList_len_nil _ rfl _ 50 9 58 rfl Try.underlying50 rfl ?_))
    go_ret
    exact ⟨by rw [e]; rfl, rfl⟩
  | some s =>
    have m1 := r.s1 o s hs
    go_enter Try.func13, Try.ntmps13
    go_wp2_with (first | (at_lookup; refine wpList_look i64Key _ rfl _ _ 54 2 50 false rfl Try.underlying54 Try.underlying2 E _ _ rfl m o rfl (.map none) (zero50 _) (.map (some s)) (by simp [hs]) ?_) | (at_len; refine wpList_mlen strKey _ rfl _ 50 9 58 rfl Try.underlying50 s _ _ rfl m1 ?_))
    go_ret
    exact ⟨rfl, rfl⟩
set_option maxHeartbeats 1000000 in
theorem nodeAt14 (h : Rep w B T A) : Calls Try.prog 14 #[.pointer (some ⟨T, 0, none⟩), .string p] w fun e w' => e = .returned (.pointer ((A.node p).map fun x => ⟨x, 0, none⟩)) ∧ w' = w := by
  obtain ⟨hB, N, E, role, kid, set, r, hp⟩ := h
  have t0 := r.t0
  have m := r.nodes
  clear hp
  go_enter Try.func14, Try.ntmps14
  go_wp2_with (at_lookup; refine wpList_look strKey _ rfl _ _ 53 9 24 false rfl Try.underlying53 Try.underlying9 N _ _ rfl m p rfl (.pointer none) (zero24 _) (.pointer ((A.node p).map fun x => ⟨x, 0, none⟩)) (by cases A.node p <;> rfl) ?_)
  go_ret
  exact ⟨rfl, rfl⟩
set_option maxHeartbeats 1000000 in
theorem ownerOf18 (h : Rep w B T A) (hx : A.live x) : Calls Try.prog 18 #[.pointer (some ⟨x, 0, none⟩)] w fun e w' => e = .returned (.int .i64 (A.own x)) ∧ w' = w := by
  obtain ⟨hB, N, E, role, kid, set, r, hp⟩ := h
  have t0 := r.own x hx
  clear hp
  go_enter Try.func18, Try.ntmps18
  go_wp2
  go_ret
  exact ⟨rfl, rfl⟩

set_option maxHeartbeats 1000000 in
theorem hasChild15 (h : Rep w B T A) (hx : A.live x) : Calls Try.prog 15 #[.pointer (some ⟨x, 0, none⟩), .string s] w fun e w' => e = .returned (.bool (A.kids x s)) ∧ Below w.heap.size w w' := by
  obtain ⟨hB, N, E, role, kid, set, r, hp⟩ := h
  have t0 := r.c12 x hx
  clear hp
  cases hk : kid x with
  | none =>
    rw [hk] at t0
    have e := (r.k0 x hx hk).1 s
    go_enter Try.func15, Try.ntmps15
    go_wp2_with (at_lookup; refine wpList_look_nil strKey _ rfl _ _ 50 9 58 true rfl Try.underlying50 Try.underlying9 rfl s rfl (.agg #[]) (zero58 _) (.tuple #[.agg #[], .bool false]) rfl ?_)
    go_ret
    exact ⟨by rw [e]; rfl, (Below.refl _ _).alloc (Nat.le_refl _) _⟩
  | some c =>
    rw [hk] at t0
    have m := r.k1 x c hx hk
    go_enter Try.func15, Try.ntmps15
    go_wp2_with (at_lookup; refine wpList_look strKey _ rfl _ _ 50 9 58 true rfl Try.underlying50 Try.underlying9 c _ _ rfl m s rfl (.agg #[]) (zero58 _) (.tuple #[.agg #[], .bool (A.kids x s)]) (by cases A.kids x s <;> rfl) ?_)
    go_ret
    exact ⟨rfl, (Below.refl _ _).alloc (Nat.le_refl _) _⟩
set_option maxHeartbeats 1000000 in
theorem owns16 (h : Rep w B T A) : Calls Try.prog 16 #[.pointer (some ⟨T, 0, none⟩), .int .i64 o, .string s] w fun e w' => e = .returned (.bool (A.owned o s)) ∧ Below w.heap.size w w' := by
  obtain ⟨hB, N, E, role, kid, set, r, hp⟩ := h
  have t1 := r.t1
  have m := r.ephs
  clear hp
  cases hs : set o with
  | none =>
    have e := (r.s0 o hs).1 s
    go_enter Try.func16, Try.ntmps16
    go_wp2_with (at_lookup; first | refine wpList_look i64Key _ rfl _ _ 54 2 50 false rfl Try.underlying54 Try.underlying2 E _ _ rfl m o rfl (.map none) (zero50 _) (.map none) (by simp [hs]) ?_ | refine wpList_look_nil strKey _ rfl _ _ 50 9 58 true rfl Try.underlying50 Try.underlying9 rfl s rfl (.agg #[]) (zero58 _) (.tuple #[.agg #[], .bool false]) rfl ?_)
    go_ret
    exact ⟨by rw [e]; rfl, (Below.refl _ _).alloc (Nat.le_refl _) _⟩
  | some c =>
    have m1 := r.s1 o c hs
    go_enter Try.func16, Try.ntmps16
    go_wp2_with (at_lookup; first | refine wpList_look i64Key _ rfl _ _ 54 2 50 false rfl Try.underlying54 Try.underlying2 E _ _ rfl m o rfl (.map none) (zero50 _) (.map (some c)) (by simp [hs]) ?_ | refine wpList_look strKey _ rfl _ _ 50 9 58 true rfl Try.underlying50 Try.underlying9 c _ _ rfl m1 s rfl (.agg #[]) (zero58 _) (.tuple #[.agg #[], .bool (A.owned o s)]) (by cases A.owned o s <;> rfl) ?_)
    go_ret
    exact ⟨rfl, (Below.refl _ _).alloc (Nat.le_refl _) _⟩
end

/-- 'link'. -/
def Abs.link (A : Abs) (x : Nat) (name p : ByteArray) (y : Nat) : Abs := if A.own y = 0 then A.put x name p y else (A.put x name p y).give (A.own y) p
/-- 'unlink'. -/
def Abs.unlink (A : Abs) (x : Nat) (name p : ByteArray) (y : Nat) : Abs := if A.own y = 0 then A.cut x name p else (A.cut x name p).take (A.own y) p

theorem link24 {w : World} {B T x y : Nat} {A : Abs} {name p : ByteArray} (h : Rep w B T A) (hx : A.live x) (hy : A.live y) (hp : A.node p = none) (hn : A.kids x name = false) (hw : A.owned (A.own y) p = false) :
    Calls Try.prog 24 #[.pointer (some ⟨T, 0, none⟩), .pointer (some ⟨x, 0, none⟩), .string name, .string p, .pointer (some ⟨y, 0, none⟩)] w fun e w' => e = .returned (.tuple #[]) ∧ Rep w' B T (A.link x name p y) ∧ Below B w w' := by
  obtain ⟨hB, N, E, role, kid, set, r, hpos⟩ := h
  have r0 : St w w B T N E role kid set A := ⟨r, hB, Below.refl _ _⟩
  unfold Abs.link
  by_cases ho : A.own y = 0
  · rw [if_pos ho]
    cases hk : kid x with
    | none => exact link_none_zero r0 hpos hx hy hp hn hk ho
    | some c => exact link_some_zero r0 hpos hx hy hp hn hk ho
  · rw [if_neg ho]
    have ho' : (A.own y == 0) = false := by simpa using ho
    cases hk : kid x with
    | none => cases hs : set (A.own y) with
      | none => exact link_none_none r0 hpos hx hy hp hn hk rfl ho' hs
      | some s => exact link_none_some r0 hpos hx hy hp hn hk rfl ho' hs hw
    | some c => cases hs : set (A.own y) with
      | none => exact link_some_none r0 hpos hx hy hp hn hk rfl ho' hs
      | some s => exact link_some_some r0 hpos hx hy hp hn hk rfl ho' hs hw

theorem unlink25 {w : World} {B T x y : Nat} {A : Abs} {nm p pp : ByteArray} (h : Rep w B T A)
    (hsp : Calls Try.prog 26 #[.string p] w fun e w' => e = .returned (.tuple #[.string pp, .string nm]) ∧ Below w.heap.size w w' ∧ w'.heap.size = w.heap.size)
    (hx : A.node pp = some x) (hn : A.kids x nm = true) (hy : A.node p = some y) (hw : A.own y ≠ 0 → A.owned (A.own y) p = true) :
    Calls Try.prog 25 #[.pointer (some ⟨T, 0, none⟩), .string p] w fun e w' => e = .returned (.tuple #[]) ∧ Rep w' B T (A.unlink x nm p y) ∧ Below B w w' := by
  obtain ⟨hB, N, E, role, kid, set, r, hpos⟩ := h
  unfold Abs.unlink
  cases hk : kid x with
  | none =>
    have := (r.k0 x (r.alive pp x hx) hk).1 nm
    rw [hn] at this; cases this
  | some c =>
    by_cases ho : A.own y = 0
    · rw [if_pos ho]
      exact unlink_zero r hB hpos hsp hx hk hn hy ho
    · rw [if_neg ho]
      have ho' : (A.own y == 0) = false := by simpa using ho
      cases hs : set (A.own y) with
      | none =>
        have := (r.s0 _ hs).1 p
        rw [hw ho] at this; cases this
      | some s =>
        by_cases hm : A.on (A.own y) - 1 = 0
        · exact unlink_last r hB hpos hsp hx hk hn hy rfl ho' hs (hw ho) hm rfl
        · exact unlink_more r hB hpos hsp hx hk hn hy rfl ho' hs (hw ho) rfl (by simp; omega)

theorem link9 {w : World} {B T x y : Nat} {A : Abs} {name p : ByteArray} (h : Rep w B T A) (hx : A.live x) (hy : A.live y) (hp : A.node p = none) (hn : A.kids x name = false) (hw : A.owned (A.own y) p = false) :
    Calls Try.prog 9 #[.pointer (some ⟨T, 0, none⟩), .pointer (some ⟨x, 0, none⟩), .string name, .string p, .pointer (some ⟨y, 0, none⟩)] w fun e w' => e = .returned (.tuple #[]) ∧ Rep w' B T (A.link x name p y) ∧ Below B w w' := by
  have H := link24 h hx hy hp hn hw
  clear hp hn hw
  go_enter Try.func9, Try.ntmps9
  go_wp2_with fail
  refine H.mono ?_
  rintro _ w1 ⟨rfl, h1, h2⟩
  go_wp2
  go_end0
  exact ⟨rfl, h1, h2⟩
theorem unlink17 {w : World} {B T x y : Nat} {A : Abs} {nm p pp : ByteArray} (h : Rep w B T A)
    (hsp : Calls Try.prog 26 #[.string p] w fun e w' => e = .returned (.tuple #[.string pp, .string nm]) ∧ Below w.heap.size w w' ∧ w'.heap.size = w.heap.size)
    (hx : A.node pp = some x) (hn : A.kids x nm = true) (hy : A.node p = some y) (hw : A.own y ≠ 0 → A.owned (A.own y) p = true) :
    Calls Try.prog 17 #[.pointer (some ⟨T, 0, none⟩), .string p] w fun e w' => e = .returned (.tuple #[]) ∧ Rep w' B T (A.unlink x nm p y) ∧ Below B w w' := by
  have H := unlink25 h hsp hx hn hy hw
  clear hsp hx hn hy hw
  go_enter Try.func17, Try.ntmps17
  go_wp2_with fail
  refine H.mono ?_
  rintro _ w1 ⟨rfl, h1, h2⟩
  go_wp2
  go_end0
  exact ⟨rfl, h1, h2⟩

/-- A tree with its root alone. -/
def Abs.init (x : Nat) : Abs where
  node := fun p => if p = sl then some x else none
  nn := 1
  live := fun y => y = x
  own := fun _ => 0
  kids := fun _ _ => false
  kn := fun _ => 0
  owned := fun _ _ => false
  on := fun _ => 0
  en := 0

set_option maxHeartbeats 1000000 in
theorem tree8 {w : World} {B x : Nat} (hB : B ≤ x) (hx : NewNode w x 0) : Calls Try.prog 8 #[.pointer (some ⟨x, 0, none⟩)] w fun e w' => (∃ T, e = .returned (.pointer (some ⟨T, 0, none⟩)) ∧ Rep w' B T (Abs.init x)) ∧ Below w.heap.size w w' := by
  have hm := fun w => run_makeMap (P := Try.prog) 53 w
  have hm' := fun w => run_makeMap (P := Try.prog) 54 w
  obtain ⟨w1, hrun, m1, g1, z1⟩ := (MapIs.made strKey w).update (P := Try.prog) Try.underlying53 Try.underlying9 sl (ptr x)
  have hr : (Instr.mapUpdate 53 (.map (some w.heap.size)) (.string ⟨#[47]⟩) (.pointer (some ⟨x, 0, none⟩))).run Try.prog (w.alloc (.map #[] 0)) = .ok () w1 := hrun
  rw [size_alloc] at z1
  have z2 : Hid (w1.heap.size = w.heap.size + 1) := z1
  clear hrun z1
  go_enter Try.func8, Try.ntmps8
  go_wp2
  go_ret
  have z1 := z2.out
  have b1 : ∀ b, b < w.heap.size → w1.heap[b]? = w.heap[b]? := fun b hb => by
    rw [g1.block b (by rw [size_alloc]; omega) (by simp; omega)]
    exact Below.heap_alloc _ _ _ hb
  have bel : Below w.heap.size w ((w1.alloc (.map #[] 0)).alloc (.cells #[.map (some w.heap.size), .map (some w1.heap.size), .int .i64 0] 56)) := by
    have q := ((Below.refl w.heap.size w).alloc (Nat.le_refl _) (.map #[] 0)).grown g1 (by rw [size_alloc]; omega) (fun k e => by cases e; omega)
    exact (q.alloc (by omega) _).alloc (by rw [size_alloc]; omega) _
  have xl := hx.1.lt
  have bx := bel.block x xl
  refine ⟨⟨w1.heap.size + 1, by simp, ?_⟩, bel⟩
  refine ⟨by have := bel.size; omega, w.heap.size, w1.heap.size, fun b => if b = x then .node else if b = w.heap.size then .nodes else if b = w1.heap.size then .eph else if b = w1.heap.size + 1 then .tree else .none, fun _ => none, fun _ => none, ?_, fun _ _ h => by cases h⟩
  have hT : ((w1.alloc (.map #[] 0)).alloc (.cells #[.map (some w.heap.size), .map (some w1.heap.size), .int .i64 0] 56)).heap[w1.heap.size + 1]? = some (.cells #[.map (some w.heap.size), .map (some w1.heap.size), .int .i64 0] 56) := heap_new _ _ _ (size_alloc _ _)
  refine { rT := ?_, rN := ?_, rE := ?_, rx := ?_, rk := ?_, rs := ?_, lo := ?_, t0 := ?_, t1 := ?_, nodes := ?_, ephs := ?_, alive := ?_, own := ?_, row := ?_, c12 := ?_, k0 := ?_, k1 := ?_, s0 := ?_, s1 := ?_ }
  · rw [if_neg (by omega), if_neg (by omega), if_neg (by omega), if_pos rfl]
  · rw [if_neg (by omega), if_pos rfl]
  · rw [if_neg (by omega), if_neg (by omega), if_pos rfl]
  · intro y hy
    obtain rfl : y = x := hy
    rw [if_pos rfl]
  · intro y c _ h; cases h
  · intro y c h; cases h
  · intro b hb
    by_cases e1 : b = x
    · omega
    · by_cases e2 : b = w.heap.size
      · omega
      · by_cases e3 : b = w1.heap.size
        · omega
        · by_cases e4 : b = w1.heap.size + 1
          · omega
          · rw [if_neg e1, if_neg e2, if_neg e3, if_neg e4] at hb
            exact absurd rfl hb
  · simp only [World.cell?, hT]; rfl
  · simp only [World.cell?, hT]; rfl
  · refine ((m1.alloc _).alloc _).congr (fun p => ?_)
    by_cases e : p = sl
    · simp [Abs.init, upd, e]
    · simp [Abs.init, upd, e]
  · exact ((MapIs.made i64Key w1).alloc _).congr (fun o => rfl)
  · intro p y hp
    simp only [Abs.init] at hp
    by_cases e : p = sl
    · rw [if_pos e] at hp; cases hp; rfl
    · rw [if_neg e] at hp; cases hp
  · intro y hy
    obtain rfl : y = x := hy
    rw [cell_same bx]; exact hx.2.1
  · intro y hy
    obtain rfl : y = x := hy
    exact hx.1.same bx
  · intro y hy
    obtain rfl : y = x := hy
    rw [cell_same bx]; exact hx.2.2
  · intro y hy _; exact ⟨fun _ => rfl, rfl⟩
  · intro y c _ h; cases h
  · intro o _; exact ⟨fun _ => rfl, rfl⟩
  · intro o c h; cases h
end Go.Proofs.Qxb6600164a
