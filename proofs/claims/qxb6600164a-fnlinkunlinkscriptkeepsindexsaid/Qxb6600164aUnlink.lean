import Derived.Test.Qxb6600164aSplit
namespace Go.Proofs.Qxb6600164a
open Go.MapKept
open Go.ChangeShapes Go.WideShapes Go.ChangeAt Go.RowKit

theorem MapIs.empty {α : Type} {K : KeyBy α} {w : World} {b : Nat} {M : α → Option Value} (h : MapIs K w b M 0) (k : α) : M k = none := by
  obtain ⟨es, c, ks, h1, h2, h3, h4, h5⟩ := h
  cases hM : M k with
  | none => rfl
  | some v =>
    obtain ⟨e, he, _⟩ := (h5 k v).1 hM
    have : es = #[] := Array.eq_empty_of_size_eq_zero h4
    rw [this] at he
    simp at he

theorem unit_none {b : Bool} (h : unit b = none) : b = false := by
  cases b
  · rfl
  · cases h

set_option maxHeartbeats 1000000 in
theorem unlink_zero {w : World} {B T N E x y c : Nat} {role : Nat → Role} {kid : Nat → Option Nat} {set : Int → Option Nat} {A : Abs} {nm p pp : ByteArray} (h0 : RepAt w B T N E role kid set A) (hB : B ≤ w.heap.size) (hpos : ∀ o s, set o = some s → 0 < A.on o)
    (hsp : Calls Try.prog 26 #[.string p] w fun e w' => e = .returned (.tuple #[.string pp, .string nm]) ∧ Below w.heap.size w w' ∧ w'.heap.size = w.heap.size)
    (hx : A.node pp = some x) (hk : kid x = some c) (hn : A.kids x nm = true) (hy : A.node p = some y) (ho : A.own y = 0) :
    Calls Try.prog 25 #[.pointer (some ⟨T, 0, none⟩), .string p] w fun e w' => e = .returned (.tuple #[]) ∧ Rep w' B T (A.cut x nm p) ∧ Below B w w' := by
  go_enter Try.func25, Try.ntmps25
  go_wp2_with fail
  refine hsp.mono ?_
  rintro _ w1 ⟨rfl, hb1, hz1⟩
  have r1 : St w w1 B T N E role kid set A := ⟨h0.same (fun b _ hb => hb1.block b hb), by rw [hz1]; exact hB, hb1.mono hB⟩
  clear hb1 hz1 h0 hB hsp
  have lx := r1.r.alive pp x hx
  have ly := r1.r.alive p y hy
  have t0 := r1.r.t0
  have n1 := r1.r.nodes
  have c12 := r1.r.c12 x lx
  rw [hk] at c12
  have k1 := r1.r.k1 x c lx hk
  go_wp2_with (at_lookup; refine wpList_look strKey _ rfl _ _ 53 9 24 false rfl Try.underlying53 Try.underlying9 N _ _ rfl n1 pp rfl (.pointer none) (zero24 _) (.pointer (some ⟨x, 0, none⟩)) (by simp [hx, ptr]) ?_; refine Halt.of ?_)
  refine Halt.go ?_
  go_wp2_with (at_delete; refine wpList_del strKey _ rfl _ _ 50 9 9 58 rfl Try.underlying50 Try.underlying9 c _ _ rfl k1 nm rfl ?_; intro w2 m2 g2 z2; refine Halt.of ?_)
  refine Halt.go ?_
  have r2 := r1.setKid lx hk g2 z2 (m2.outro_ hn)
  clear m2 g2 z2 k1 c12 n1 t0
  have t0 := r2.r.t0
  have n2 := r2.r.nodes
  have o2 := r2.r.own y ly
  simp only [ho] at o2
  go_wp2_with (at_lookup; refine wpList_look strKey _ rfl _ _ 53 9 24 false rfl Try.underlying53 Try.underlying9 N _ _ rfl n2 p rfl (.pointer none) (zero24 _) (.pointer (some ⟨y, 0, none⟩)) (by simp [hy, ptr]) ?_; refine Halt.of ?_)
  refine Halt.go ?_
  go_wp2_with (at_delete; refine wpList_del strKey _ rfl _ _ 53 9 9 24 rfl Try.underlying53 Try.underlying9 N _ _ rfl n2 p rfl ?_; intro w3 m3 g3 z3; refine Halt.of ?_)
  refine Halt.go ?_
  have r3 := r2.setNodes g3 z3 (m3.node_out hy) (fun q z hq => by
    by_cases e : q = p
    · rw [if_pos e] at hq; cases hq
    · rw [if_neg e] at hq; exact r2.r.alive q z hq)
  go_wp2
  go_end0
  exact ⟨rfl, ⟨r3.z, N, E, _, _, set, r3.r, hpos⟩, r3.bel⟩

set_option maxHeartbeats 1000000 in
theorem unlink_last {w : World} {B T N E x y c : Nat} {role : Nat → Role} {kid : Nat → Option Nat} {set : Int → Option Nat} {A : Abs} {nm p pp : ByteArray} (h0 : RepAt w B T N E role kid set A) (hB : B ≤ w.heap.size) (hpos : ∀ o s, set o = some s → 0 < A.on o)
    (hsp : Calls Try.prog 26 #[.string p] w fun e w' => e = .returned (.tuple #[.string pp, .string nm]) ∧ Below w.heap.size w w' ∧ w'.heap.size = w.heap.size)
    (hx : A.node pp = some x) (hk : kid x = some c) (hn : A.kids x nm = true) (hy : A.node p = some y) {o : Int} {s m : Nat} (ho : A.own y = o) (ho0 : (o == 0) = false) (hs : set o = some s) (how : A.owned o p = true) (hmm : A.on o - 1 = m) (hm0 : m = 0) :
    Calls Try.prog 25 #[.pointer (some ⟨T, 0, none⟩), .string p] w fun e w' => e = .returned (.tuple #[]) ∧ Rep w' B T ((A.cut x nm p).take o p) ∧ Below B w w' := by
  go_enter Try.func25, Try.ntmps25
  go_wp2_with fail
  refine hsp.mono ?_
  rintro _ w1 ⟨rfl, hb1, hz1⟩
  have r1 : St w w1 B T N E role kid set A := ⟨h0.same (fun b _ hb => hb1.block b hb), by rw [hz1]; exact hB, hb1.mono hB⟩
  clear hb1 hz1 h0 hB hsp
  have lx := r1.r.alive pp x hx
  have ly := r1.r.alive p y hy
  have t0 := r1.r.t0
  have n1 := r1.r.nodes
  have c12 := r1.r.c12 x lx
  rw [hk] at c12
  have k1 := r1.r.k1 x c lx hk
  go_wp2_with (at_lookup; refine wpList_look strKey _ rfl _ _ 53 9 24 false rfl Try.underlying53 Try.underlying9 N _ _ rfl n1 pp rfl (.pointer none) (zero24 _) (.pointer (some ⟨x, 0, none⟩)) (by simp [hx, ptr]) ?_; refine Halt.of ?_)
  refine Halt.go ?_
  go_wp2_with (at_delete; refine wpList_del strKey _ rfl _ _ 50 9 9 58 rfl Try.underlying50 Try.underlying9 c _ _ rfl k1 nm rfl ?_; intro w2 m2 g2 z2; refine Halt.of ?_)
  refine Halt.go ?_
  have r2 := r1.setKid lx hk g2 z2 (m2.outro_ hn)
  clear m2 g2 z2 k1 c12 n1 t0
  have t0 := r2.r.t0
  have n2 := r2.r.nodes
  have o2 := r2.r.own y ly
  simp only [ho] at o2
  go_wp2_with (at_lookup; refine wpList_look strKey _ rfl _ _ 53 9 24 false rfl Try.underlying53 Try.underlying9 N _ _ rfl n2 p rfl (.pointer none) (zero24 _) (.pointer (some ⟨y, 0, none⟩)) (by simp [hy, ptr]) ?_; refine Halt.of ?_)
  refine Halt.go ?_
  have t1 := r2.r.t1
  have e2 := r2.r.ephs
  have s2 := r2.r.s1 o s hs
  go_wp2_with (at_lookup; refine wpList_look i64Key _ rfl _ _ 54 2 50 false rfl Try.underlying54 Try.underlying2 E _ _ rfl e2 o rfl (.map none) (zero50 _) (.map (some s)) (by simp [hs]) ?_; refine Halt.of ?_)
  refine Halt.go ?_
  go_wp2_with (at_delete; refine wpList_del strKey _ rfl _ _ 50 9 9 58 rfl Try.underlying50 Try.underlying9 s _ _ rfl s2 p rfl ?_; intro w3 m3 g3 z3; refine Halt.of ?_)
  refine Halt.go ?_
  have r3 := r2.setSet hs g3 z3 (m3.outro_ how)
  clear m3 g3 z3 s2 e2 t1 n2 t0 r2
  have t0 := r3.r.t0
  have t1 := r3.r.t1
  have e3 := r3.r.ephs
  have s3 := r3.r.s1 o s hs
  simp only [if_true, hmm] at s3
  subst hm0
  go_wp2_with (at_lookup; refine wpList_look i64Key _ rfl _ _ 54 2 50 false rfl Try.underlying54 Try.underlying2 E _ _ rfl e3 o rfl (.map none) (zero50 _) (.map (some s)) (by simp [hs]) ?_; refine Halt.of ?_)
  refine Halt.go ?_
  go_wp2_with (at_len; refine wpList_mlen strKey _ rfl _ 50 9 58 rfl Try.underlying50 s _ _ rfl s3 ?_; refine Halt.of ?_)
  refine Halt.go ?_
  go_wp2_with (at_delete; refine wpList_del i64Key _ rfl _ _ 54 2 2 50 rfl Try.underlying54 Try.underlying2 E _ _ rfl e3 o rfl ?_; intro w4 m4 g4 z4; refine Halt.of ?_)
  refine Halt.go ?_
  have r4 := r3.dropSet (o := o) ⟨fun q => by simpa using unit_none (s3.empty q), by simpa using hmm⟩ g4 z4 m4
  clear m4 g4 z4 e3 t1 t0 s3 r3
  have t0 := r4.r.t0
  have n4 := r4.r.nodes
  go_wp2_with (at_delete; refine wpList_del strKey _ rfl _ _ 53 9 9 24 rfl Try.underlying53 Try.underlying9 N _ _ rfl n4 p rfl ?_; intro w5 m5 g5 z5; refine Halt.of ?_)
  refine Halt.go ?_
  have r5 := r4.setNodes g5 z5 (m5.node_out hy) (fun q z hq => by
    by_cases e : q = p
    · rw [if_pos e] at hq; cases hq
    · rw [if_neg e] at hq; exact r4.r.alive q z hq)
  go_wp2
  go_end0
  have z1 : A.on o = 1 := by have := hpos o s hs; omega
  have r6 := r5.r
  refine ⟨rfl, ⟨r5.z, N, E, _, _, _, by simpa [Abs.take, Abs.cut, z1, hs] using r6, ?_⟩, r5.bel⟩
  intro q s' hq
  by_cases e : q = o
  · simp [e] at hq
  · rw [if_neg e] at hq
    simpa [e, Abs.take, Abs.cut] using hpos q s' hq

set_option maxHeartbeats 1000000 in
theorem unlink_more {w : World} {B T N E x y c : Nat} {role : Nat → Role} {kid : Nat → Option Nat} {set : Int → Option Nat} {A : Abs} {nm p pp : ByteArray} (h0 : RepAt w B T N E role kid set A) (hB : B ≤ w.heap.size) (hpos : ∀ o s, set o = some s → 0 < A.on o)
    (hsp : Calls Try.prog 26 #[.string p] w fun e w' => e = .returned (.tuple #[.string pp, .string nm]) ∧ Below w.heap.size w w' ∧ w'.heap.size = w.heap.size)
    (hx : A.node pp = some x) (hk : kid x = some c) (hn : A.kids x nm = true) (hy : A.node p = some y) {o : Int} {s m : Nat} (ho : A.own y = o) (ho0 : (o == 0) = false) (hs : set o = some s) (how : A.owned o p = true) (hmm : A.on o - 1 = m) (hm0 : ((m : Int) == 0) = false) :
    Calls Try.prog 25 #[.pointer (some ⟨T, 0, none⟩), .string p] w fun e w' => e = .returned (.tuple #[]) ∧ Rep w' B T ((A.cut x nm p).take o p) ∧ Below B w w' := by
  go_enter Try.func25, Try.ntmps25
  go_wp2_with fail
  refine hsp.mono ?_
  rintro _ w1 ⟨rfl, hb1, hz1⟩
  have r1 : St w w1 B T N E role kid set A := ⟨h0.same (fun b _ hb => hb1.block b hb), by rw [hz1]; exact hB, hb1.mono hB⟩
  clear hb1 hz1 h0 hB hsp
  have lx := r1.r.alive pp x hx
  have ly := r1.r.alive p y hy
  have t0 := r1.r.t0
  have n1 := r1.r.nodes
  have c12 := r1.r.c12 x lx
  rw [hk] at c12
  have k1 := r1.r.k1 x c lx hk
  go_wp2_with (at_lookup; refine wpList_look strKey _ rfl _ _ 53 9 24 false rfl Try.underlying53 Try.underlying9 N _ _ rfl n1 pp rfl (.pointer none) (zero24 _) (.pointer (some ⟨x, 0, none⟩)) (by simp [hx, ptr]) ?_; refine Halt.of ?_)
  refine Halt.go ?_
  go_wp2_with (at_delete; refine wpList_del strKey _ rfl _ _ 50 9 9 58 rfl Try.underlying50 Try.underlying9 c _ _ rfl k1 nm rfl ?_; intro w2 m2 g2 z2; refine Halt.of ?_)
  refine Halt.go ?_
  have r2 := r1.setKid lx hk g2 z2 (m2.outro_ hn)
  clear m2 g2 z2 k1 c12 n1 t0
  have t0 := r2.r.t0
  have n2 := r2.r.nodes
  have o2 := r2.r.own y ly
  simp only [ho] at o2
  go_wp2_with (at_lookup; refine wpList_look strKey _ rfl _ _ 53 9 24 false rfl Try.underlying53 Try.underlying9 N _ _ rfl n2 p rfl (.pointer none) (zero24 _) (.pointer (some ⟨y, 0, none⟩)) (by simp [hy, ptr]) ?_; refine Halt.of ?_)
  refine Halt.go ?_
  have t1 := r2.r.t1
  have e2 := r2.r.ephs
  have s2 := r2.r.s1 o s hs
  go_wp2_with (at_lookup; refine wpList_look i64Key _ rfl _ _ 54 2 50 false rfl Try.underlying54 Try.underlying2 E _ _ rfl e2 o rfl (.map none) (zero50 _) (.map (some s)) (by simp [hs]) ?_; refine Halt.of ?_)
  refine Halt.go ?_
  go_wp2_with (at_delete; refine wpList_del strKey _ rfl _ _ 50 9 9 58 rfl Try.underlying50 Try.underlying9 s _ _ rfl s2 p rfl ?_; intro w3 m3 g3 z3; refine Halt.of ?_)
  refine Halt.go ?_
  have r3 := r2.setSet hs g3 z3 (m3.outro_ how)
  clear m3 g3 z3 s2 e2 t1 n2 t0 r2
  have t0 := r3.r.t0
  have t1 := r3.r.t1
  have e3 := r3.r.ephs
  have s3 := r3.r.s1 o s hs
  simp only [if_true, hmm] at s3
  go_wp2_with (at_lookup; refine wpList_look i64Key _ rfl _ _ 54 2 50 false rfl Try.underlying54 Try.underlying2 E _ _ rfl e3 o rfl (.map none) (zero50 _) (.map (some s)) (by simp [hs]) ?_; refine Halt.of ?_)
  refine Halt.go ?_
  go_wp2_with (at_len; refine wpList_mlen strKey _ rfl _ 50 9 58 rfl Try.underlying50 s _ _ rfl s3 ?_; refine Halt.of ?_)
  refine Halt.go ?_
  have n3 := r3.r.nodes
  go_wp2_with (at_delete; refine wpList_del strKey _ rfl _ _ 53 9 9 24 rfl Try.underlying53 Try.underlying9 N _ _ rfl n3 p rfl ?_; intro w5 m5 g5 z5; refine Halt.of ?_)
  refine Halt.go ?_
  have r5 := r3.setNodes g5 z5 (m5.node_out hy) (fun q z hq => by
    by_cases e : q = p
    · rw [if_pos e] at hq; cases hq
    · rw [if_neg e] at hq; exact r3.r.alive q z hq)
  go_wp2
  go_end0
  have hm1 : ¬ (m : Int) = 0 := by simpa using hm0
  have z1 : ¬ A.on o = 1 := by omega
  have r6 := r5.r
  refine ⟨rfl, ⟨r5.z, N, E, _, _, set, by simpa [Abs.take, Abs.cut, z1] using r6, ?_⟩, r5.bel⟩
  intro q s' hq
  by_cases e : q = o
  · simp [e, Abs.take, Abs.cut]; omega
  · simpa [e, Abs.take, Abs.cut] using hpos q s' hq

end Go.Proofs.Qxb6600164a
