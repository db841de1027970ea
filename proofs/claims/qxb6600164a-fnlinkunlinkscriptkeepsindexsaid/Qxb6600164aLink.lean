import Derived.Test.Qxb6600164aBase
import Derived.WalkSpells
import Derived.Carry
namespace Go.Proofs.Qxb6600164a
open Go.MapKept
open Go.ChangeShapes Go.WideShapes Go.ChangeAt Go.RowKit

theorem MapIs.intro_ {w : World} {c n : Nat} {f : ByteArray → Bool} {k : ByteArray} (h : MapIs strKey w c (upd (fun s => unit (f s)) k (some (.agg #[]))) (if (unit (f k)).isSome then n else n + 1)) (hf : f k = false) :
    MapIs strKey w c (fun s => unit (if s = k then true else f s)) (n + 1) := by
  simp only [hf, unit] at h
  refine h.congr (fun s => ?_)
  by_cases e : s = k
  · simp [e, unit, upd]
  · simp [e, unit, upd]
theorem MapIs.outro_ {w : World} {c n : Nat} {f : ByteArray → Bool} {k : ByteArray} (h : MapIs strKey w c (upd (fun s => unit (f s)) k none) (if (unit (f k)).isSome then n - 1 else n)) (hf : f k = true) :
    MapIs strKey w c (fun s => unit (if s = k then false else f s)) (n - 1) := by
  simp only [hf, unit] at h
  refine h.congr (fun s => ?_)
  by_cases e : s = k
  · simp [e, unit, upd]
  · simp [e, unit, upd]
theorem MapIs.node_in {w : World} {c n : Nat} {f : ByteArray → Option Nat} {k : ByteArray} {y : Nat} (h : MapIs strKey w c (upd (fun s => (f s).map ptr) k (some (ptr y))) (if ((f k).map ptr).isSome then n else n + 1)) (hf : f k = none) :
    MapIs strKey w c (fun s => (if s = k then some y else f s).map ptr) (n + 1) := by
  simp only [hf] at h
  refine h.congr (fun s => ?_)
  by_cases e : s = k
  · simp [e, upd]
  · simp [e, upd]
theorem MapIs.node_out {w : World} {c n : Nat} {f : ByteArray → Option Nat} {k : ByteArray} {y : Nat} (h : MapIs strKey w c (upd (fun s => (f s).map ptr) k none) (if ((f k).map ptr).isSome then n - 1 else n)) (hf : f k = some y) :
    MapIs strKey w c (fun s => (if s = k then none else f s).map ptr) (n - 1) := by
  simp only [hf] at h
  refine h.congr (fun s => ?_)
  by_cases e : s = k
  · simp [e, upd]
  · simp [e, upd]

/-- The tree in w, on the way from w0. -/
structure St (w0 w : World) (B T N E : Nat) (role : Nat → Role) (kid : Nat → Option Nat) (set : Int → Option Nat) (A : Abs) : Prop where
  r : RepAt w B T N E role kid set A
  z : B ≤ w.heap.size
  bel : Below B w0 w

section
variable {w0 w w' : World} {B T N E : Nat} {role : Nat → Role} {kid : Nat → Option Nat} {set : Int → Option Nat} {A : Abs}
theorem St.newKid (h : St w0 w B T N E role kid set A) {x : Nat} (hx : A.live x) (hk : kid x = none) :
    St w0 ((w.alloc (.map #[] 0)).setCell ⟨x, 12, none⟩ (.map (some w.heap.size))) B T N E (fun b => if b = w.heap.size then .kid x else role b) (fun y => if y = x then some w.heap.size else kid y) set A :=
  ⟨h.r.newKid h.z hx hk, by rw [size_setCell, size_alloc]; have := h.z; omega, (h.bel.alloc h.z _).setCell (h.r.lo _ (by rw [h.r.rx x hx]; nofun)) _⟩
theorem St.setKid (h : St w0 w B T N E role kid set A) {x c : Nat} (hx : A.live x) (hk : kid x = some c) (g : w.grownBy w' (some c)) (hz : w'.heap.size = w.heap.size) {ks : ByteArray → Bool} {n : Nat}
    (hm : MapIs strKey w' c (fun s => unit (ks s)) n) :
    St w0 w' B T N E role kid set { A with kids := fun y s => if y = x then ks s else A.kids y s, kn := fun y => if y = x then n else A.kn y } :=
  ⟨h.r.setKid hx hk g hm, by rw [hz]; exact h.z, h.bel.grown g h.z (fun k e => by cases e; exact h.r.lo _ (by rw [h.r.rk x c hx hk]; nofun))⟩
theorem St.setNodes (h : St w0 w B T N E role kid set A) (g : w.grownBy w' (some N)) (hz : w'.heap.size = w.heap.size) {nd : ByteArray → Option Nat} {n : Nat}
    (hm : MapIs strKey w' N (fun p => (nd p).map ptr) n) (hl : ∀ p x, nd p = some x → A.live x) :
    St w0 w' B T N E role kid set { A with node := nd, nn := n } :=
  ⟨h.r.setNodes g hm hl, by rw [hz]; exact h.z, h.bel.grown g h.z (fun k e => by cases e; exact h.r.lo _ (by rw [h.r.rN]; nofun))⟩
theorem St.newSet (h : St w0 w B T N E role kid set A) {o : Int} (ho : set o = none) (g : (w.alloc (.map #[] 0)).grownBy w' (some E)) (hz : w'.heap.size = (w.alloc (.map #[] 0)).heap.size) {n : Nat}
    (hm : MapIs i64Key w' E (upd (fun o => (set o).map fun s => .map (some s)) o (some (.map (some w.heap.size)))) n) :
    St w0 w' B T N E (fun b => if b = w.heap.size then .set o else role b) kid (fun q => if q = o then some w.heap.size else set q) { A with en := n } :=
  ⟨h.r.newSet h.z ho g hm, by rw [hz, size_alloc]; have := h.z; omega, (h.bel.alloc h.z _).grown g (by rw [size_alloc]; have := h.z; omega) (fun k e => by cases e; exact h.r.lo _ (by rw [h.r.rE]; nofun))⟩
theorem St.setSet (h : St w0 w B T N E role kid set A) {o : Int} {c : Nat} (hk : set o = some c) (g : w.grownBy w' (some c)) (hz : w'.heap.size = w.heap.size) {ks : ByteArray → Bool} {n : Nat}
    (hm : MapIs strKey w' c (fun s => unit (ks s)) n) :
    St w0 w' B T N E role kid set { A with owned := fun y s => if y = o then ks s else A.owned y s, on := fun y => if y = o then n else A.on y } :=
  ⟨h.r.setSet hk g hm, by rw [hz]; exact h.z, h.bel.grown g h.z (fun k e => by cases e; exact h.r.lo _ (by rw [h.r.rs o c hk]; nofun))⟩
theorem St.dropSet (h : St w0 w B T N E role kid set A) {o : Int} (he : (∀ p, A.owned o p = false) ∧ A.on o = 0) (g : w.grownBy w' (some E)) (hz : w'.heap.size = w.heap.size) {n : Nat}
    (hm : MapIs i64Key w' E (upd (fun o => (set o).map fun s => .map (some s)) o none) n) :
    St w0 w' B T N E role kid (fun q => if q = o then none else set q) { A with en := n } :=
  ⟨h.r.dropSet he g hm, by rw [hz]; exact h.z, h.bel.grown g h.z (fun k e => by cases e; exact h.r.lo _ (by rw [h.r.rE]; nofun))⟩
end

/-- A child in, at path p. -/
def Abs.put (A : Abs) (x : Nat) (name p : ByteArray) (y : Nat) : Abs := { A with
  node := fun q => if q = p then some y else A.node q
  nn := A.nn + 1
  kids := fun z s => if z = x then (if s = name then true else A.kids x s) else A.kids z s
  kn := fun z => if z = x then A.kn x + 1 else A.kn z }
/-- Path p to the owner o. -/
def Abs.give (A : Abs) (o : Int) (p : ByteArray) : Abs := { A with
  owned := fun q s => if q = o then (if s = p then true else A.owned o s) else A.owned q s
  on := fun q => if q = o then A.on o + 1 else A.on q
  en := if A.on o = 0 then A.en + 1 else A.en }
/-- A child out. -/
def Abs.cut (A : Abs) (x : Nat) (name p : ByteArray) : Abs := { A with
  node := fun q => if q = p then none else A.node q
  nn := A.nn - 1
  kids := fun z s => if z = x then (if s = name then false else A.kids x s) else A.kids z s
  kn := fun z => if z = x then A.kn x - 1 else A.kn z }
/-- Path p from the owner o. -/
def Abs.take (A : Abs) (o : Int) (p : ByteArray) : Abs := { A with
  owned := fun q s => if q = o then (if s = p then false else A.owned o s) else A.owned q s
  on := fun q => if q = o then A.on o - 1 else A.on q
  en := if A.on o = 1 then A.en - 1 else A.en }

--PART
def Halt (p : Prop) : Prop := p
theorem Halt.of {p : Prop} (h : Halt p) : p := h
theorem Halt.go {p : Prop} (h : p) : Halt p := h
theorem zero50 (w : World) : (zeroValue 50).run Try.prog w = .ok (.map none) w := by kernel_rfl
theorem zero24 (w : World) : (zeroValue 24).run Try.prog w = .ok (.pointer none) w := by kernel_rfl
theorem zero58 (w : World) : (zeroValue 58).run Try.prog w = .ok (.agg #[]) w := by kernel_rfl
theorem eql50 (w : World) (r : Option Nat) : (binOp .eql 50 (.map r) (.map none)).run Try.prog w = .ok (.bool r.isNone) w := run_eql_map_nil w _ _ _ r Try.underlying50

set_option maxHeartbeats 1000000 in
theorem link_none_zero {w : World} {B T N E x y : Nat} {role : Nat → Role} {kid : Nat → Option Nat} {set : Int → Option Nat} {A : Abs} {name p : ByteArray} (r0 : St w w B T N E role kid set A) (hpos : ∀ o s, set o = some s → 0 < A.on o) (hx : A.live x) (hy : A.live y)
    (hp : A.node p = none) (hn : A.kids x name = false) (hk : kid x = none) (ho : A.own y = 0) :
    Calls Try.prog 24 #[.pointer (some ⟨T, 0, none⟩), .pointer (some ⟨x, 0, none⟩), .string name, .string p, .pointer (some ⟨y, 0, none⟩)] w fun e w' => e = .returned (.tuple #[]) ∧ Rep w' B T (A.put x name p y) ∧ Below B w w' := by
  have fr : (w.alloc (.map #[] 0)).frozen? ⟨x, 12, none⟩ = false := ((r0.r.row x hx).alloc _).free 12
  have c12 := r0.r.c12 x hx
  rw [hk] at c12
  have c12a := (r0.r.same (w' := w.alloc (.map #[] 0)) (fun b _ hb => Below.heap_alloc _ _ _ hb)).c12 x hx
  rw [hk] at c12a
  have r1 := r0.newKid hx hk
  have c12' := r1.r.c12 x hx
  simp only [if_true] at c12'
  have m1 := r1.r.k1 x w.heap.size hx (by simp)
  have q50 := eql50
  have hmm := fun w => run_makeMap (P := Try.prog) 50 w
  go_enter Try.func24, Try.ntmps24
  go_wp2_with (at_mapUpdate; refine wpList_put strKey _ rfl _ _ _ 50 9 58 rfl Try.underlying50 Try.underlying9 w.heap.size _ _ rfl m1 name rfl (.agg #[]) rfl ?_; intro w2 m2 g2 z2; refine Halt.of ?_)
  refine Halt.go ?_
  have r2 := r1.setKid hx (by simp) g2 z2 (m2.intro_ hn)
  have t0 := r2.r.t0
  have n2 := r2.r.nodes
  clear m1 m2 c12' r1
  go_wp2_with (at_mapUpdate; refine wpList_put strKey _ rfl _ _ _ 53 9 24 rfl Try.underlying53 Try.underlying9 N _ _ rfl n2 p rfl (ptr y) rfl ?_; intro w3 m3 g3 z3; refine Halt.of ?_)
  refine Halt.go ?_
  have r3 := r2.setNodes g3 z3 (m3.node_in hp) (fun q z hq => by
    by_cases e : q = p
    · rw [if_pos e] at hq; cases hq; exact hy
    · rw [if_neg e] at hq; exact r2.r.alive q z hq)
  have o3 := r3.r.own y hy
  clear m3 n2 t0 g2 z2 z3 r2
  simp only [ho] at o3
  go_wp2
  go_end0
  exact ⟨rfl, ⟨r3.z, N, E, _, _, set, r3.r, hpos⟩, r3.bel⟩

set_option maxHeartbeats 1000000 in
theorem link_none_none {w : World} {B T N E x y : Nat} {role : Nat → Role} {kid : Nat → Option Nat} {set : Int → Option Nat} {A : Abs} {name p : ByteArray} (r0 : St w w B T N E role kid set A) (hpos : ∀ o s, set o = some s → 0 < A.on o) (hx : A.live x) (hy : A.live y)
    (hp : A.node p = none) (hn : A.kids x name = false) {o : Int} (hk : kid x = none) (ho : A.own y = o) (ho0 : (o == 0) = false) (hs : set o = none) :
    Calls Try.prog 24 #[.pointer (some ⟨T, 0, none⟩), .pointer (some ⟨x, 0, none⟩), .string name, .string p, .pointer (some ⟨y, 0, none⟩)] w fun e w' => e = .returned (.tuple #[]) ∧ Rep w' B T ((A.put x name p y).give o p) ∧ Below B w w' := by
  have fr : (w.alloc (.map #[] 0)).frozen? ⟨x, 12, none⟩ = false := ((r0.r.row x hx).alloc _).free 12
  have c12 := r0.r.c12 x hx
  rw [hk] at c12
  have c12a := (r0.r.same (w' := w.alloc (.map #[] 0)) (fun b _ hb => Below.heap_alloc _ _ _ hb)).c12 x hx
  rw [hk] at c12a
  have r1 := r0.newKid hx hk
  have c12' := r1.r.c12 x hx
  simp only [if_true] at c12'
  have m1 := r1.r.k1 x w.heap.size hx (by simp)
  have q50 := eql50
  have hmm := fun w => run_makeMap (P := Try.prog) 50 w
  go_enter Try.func24, Try.ntmps24
  go_wp2_with (at_mapUpdate; refine wpList_put strKey _ rfl _ _ _ 50 9 58 rfl Try.underlying50 Try.underlying9 w.heap.size _ _ rfl m1 name rfl (.agg #[]) rfl ?_; intro w2 m2 g2 z2; refine Halt.of ?_)
  refine Halt.go ?_
  have r2 := r1.setKid hx (by simp) g2 z2 (m2.intro_ hn)
  have t0 := r2.r.t0
  have n2 := r2.r.nodes
  clear m1 m2 c12' r1
  go_wp2_with (at_mapUpdate; refine wpList_put strKey _ rfl _ _ _ 53 9 24 rfl Try.underlying53 Try.underlying9 N _ _ rfl n2 p rfl (ptr y) rfl ?_; intro w3 m3 g3 z3; refine Halt.of ?_)
  refine Halt.go ?_
  have r3 := r2.setNodes g3 z3 (m3.node_in hp) (fun q z hq => by
    by_cases e : q = p
    · rw [if_pos e] at hq; cases hq; exact hy
    · rw [if_neg e] at hq; exact r2.r.alive q z hq)
  have o3 := r3.r.own y hy
  clear m3 n2 t0 g2 z2 z3 r2
  simp only [ho] at o3
  have t1 := r3.r.t1
  have e3 := r3.r.ephs
  go_wp2_with (at_lookup; refine wpList_look i64Key _ rfl _ _ 54 2 50 false rfl Try.underlying54 Try.underlying2 E _ _ rfl e3 o rfl (.map none) (zero50 _) (.map none) (by simp [hs]) ?_; refine Halt.of ?_)
  refine Halt.go ?_
  have e3' := e3.alloc (.map #[] 0)
  have t1' := r3.r.same (w' := w3.alloc (.map #[] 0)) (fun b _ hb => Below.heap_alloc _ _ _ hb) |>.t1
  go_wp2_with (at_mapUpdate; refine wpList_put i64Key _ rfl _ _ _ 54 2 50 rfl Try.underlying54 Try.underlying2 E _ _ rfl e3' o rfl (.map (some w3.heap.size)) rfl ?_; intro w4 m4 g4 z4; refine Halt.of ?_)
  refine Halt.go ?_
  have r4 := r3.newSet hs g4 z4 (by simpa [hs] using m4)
  have t1 := r4.r.t1
  have e4 := r4.r.ephs
  have m5 := r4.r.s1 o w3.heap.size (by simp)
  have z0 := (r3.r.s0 o hs)
  clear m4 t1' e3' e3 z4
  go_wp2_with (at_lookup; refine wpList_look i64Key _ rfl _ _ 54 2 50 false rfl Try.underlying54 Try.underlying2 E _ _ rfl e4 o rfl (.map none) (zero50 _) (.map (some w3.heap.size)) (by simp) ?_; refine Halt.of ?_)
  refine Halt.go ?_
  go_wp2_with (at_mapUpdate; refine wpList_put strKey _ rfl _ _ _ 50 9 58 rfl Try.underlying50 Try.underlying9 w3.heap.size _ _ rfl m5 p rfl (.agg #[]) rfl ?_; intro w5 m6 g5 z5; refine Halt.of ?_)
  refine Halt.go ?_
  have r5 := r4.setSet (o := o) (by simp) g5 z5 (m6.intro_ (z0.1 p))
  go_wp2
  go_end0
  have z1 : A.on o = 0 := z0.2
  have r6 := r5.r
  refine ⟨rfl, ⟨r5.z, N, E, _, _, _, by simpa [Abs.give, Abs.put, z1] using r6, ?_⟩, r5.bel⟩
  intro q s hq
  by_cases e : q = o
  · simp [e, Abs.give, Abs.put]
  · rw [if_neg e] at hq
    simpa [e, Abs.give, Abs.put] using hpos q s hq

set_option maxHeartbeats 1000000 in
theorem link_none_some {w : World} {B T N E x y : Nat} {role : Nat → Role} {kid : Nat → Option Nat} {set : Int → Option Nat} {A : Abs} {name p : ByteArray} (r0 : St w w B T N E role kid set A) (hpos : ∀ o s, set o = some s → 0 < A.on o) (hx : A.live x) (hy : A.live y)
    (hp : A.node p = none) (hn : A.kids x name = false) {o : Int} {s : Nat} (hk : kid x = none) (ho : A.own y = o) (ho0 : (o == 0) = false) (hs : set o = some s) (how : A.owned o p = false) :
    Calls Try.prog 24 #[.pointer (some ⟨T, 0, none⟩), .pointer (some ⟨x, 0, none⟩), .string name, .string p, .pointer (some ⟨y, 0, none⟩)] w fun e w' => e = .returned (.tuple #[]) ∧ Rep w' B T ((A.put x name p y).give o p) ∧ Below B w w' := by
  have fr : (w.alloc (.map #[] 0)).frozen? ⟨x, 12, none⟩ = false := ((r0.r.row x hx).alloc _).free 12
  have c12 := r0.r.c12 x hx
  rw [hk] at c12
  have c12a := (r0.r.same (w' := w.alloc (.map #[] 0)) (fun b _ hb => Below.heap_alloc _ _ _ hb)).c12 x hx
  rw [hk] at c12a
  have r1 := r0.newKid hx hk
  have c12' := r1.r.c12 x hx
  simp only [if_true] at c12'
  have m1 := r1.r.k1 x w.heap.size hx (by simp)
  have q50 := eql50
  have hmm := fun w => run_makeMap (P := Try.prog) 50 w
  go_enter Try.func24, Try.ntmps24
  go_wp2_with (at_mapUpdate; refine wpList_put strKey _ rfl _ _ _ 50 9 58 rfl Try.underlying50 Try.underlying9 w.heap.size _ _ rfl m1 name rfl (.agg #[]) rfl ?_; intro w2 m2 g2 z2; refine Halt.of ?_)
  refine Halt.go ?_
  have r2 := r1.setKid hx (by simp) g2 z2 (m2.intro_ hn)
  have t0 := r2.r.t0
  have n2 := r2.r.nodes
  clear m1 m2 c12' r1
  go_wp2_with (at_mapUpdate; refine wpList_put strKey _ rfl _ _ _ 53 9 24 rfl Try.underlying53 Try.underlying9 N _ _ rfl n2 p rfl (ptr y) rfl ?_; intro w3 m3 g3 z3; refine Halt.of ?_)
  refine Halt.go ?_
  have r3 := r2.setNodes g3 z3 (m3.node_in hp) (fun q z hq => by
    by_cases e : q = p
    · rw [if_pos e] at hq; cases hq; exact hy
    · rw [if_neg e] at hq; exact r2.r.alive q z hq)
  have o3 := r3.r.own y hy
  clear m3 n2 t0 g2 z2 z3 r2
  simp only [ho] at o3
  have t1 := r3.r.t1
  have e3 := r3.r.ephs
  go_wp2_with (at_lookup; refine wpList_look i64Key _ rfl _ _ 54 2 50 false rfl Try.underlying54 Try.underlying2 E _ _ rfl e3 o rfl (.map none) (zero50 _) (.map (some s)) (by simp [hs]) ?_; refine Halt.of ?_)
  refine Halt.go ?_
  go_wp2_with (at_lookup; refine wpList_look i64Key _ rfl _ _ 54 2 50 false rfl Try.underlying54 Try.underlying2 E _ _ rfl e3 o rfl (.map none) (zero50 _) (.map (some s)) (by simp [hs]) ?_; refine Halt.of ?_)
  refine Halt.go ?_
  have m5 := r3.r.s1 o s hs
  go_wp2_with (at_mapUpdate; refine wpList_put strKey _ rfl _ _ _ 50 9 58 rfl Try.underlying50 Try.underlying9 s _ _ rfl m5 p rfl (.agg #[]) rfl ?_; intro w5 m6 g5 z5; refine Halt.of ?_)
  refine Halt.go ?_
  have r5 := r3.setSet (o := o) hs g5 z5 (m6.intro_ how)
  go_wp2
  go_end0
  have z1 : ¬ A.on o = 0 := by have := hpos o s hs; omega
  have r6 := r5.r
  refine ⟨rfl, ⟨r5.z, N, E, _, _, set, by simpa [Abs.give, Abs.put, z1] using r6, ?_⟩, r5.bel⟩
  intro q s hq
  by_cases e : q = o
  · simp [e, Abs.give, Abs.put]
  · simpa [e, Abs.give, Abs.put] using hpos q s hq

set_option maxHeartbeats 1000000 in
theorem link_some_zero {w : World} {B T N E x y : Nat} {role : Nat → Role} {kid : Nat → Option Nat} {set : Int → Option Nat} {A : Abs} {name p : ByteArray} (r0 : St w w B T N E role kid set A) (hpos : ∀ o s, set o = some s → 0 < A.on o) (hx : A.live x) (hy : A.live y)
    (hp : A.node p = none) (hn : A.kids x name = false) {c : Nat} (hk : kid x = some c) (ho : A.own y = 0) :
    Calls Try.prog 24 #[.pointer (some ⟨T, 0, none⟩), .pointer (some ⟨x, 0, none⟩), .string name, .string p, .pointer (some ⟨y, 0, none⟩)] w fun e w' => e = .returned (.tuple #[]) ∧ Rep w' B T (A.put x name p y) ∧ Below B w w' := by
  have c12' := r0.r.c12 x hx
  rw [hk] at c12'
  have r1 := r0
  have m1 := r1.r.k1 x c hx hk
  have q50 := eql50
  have hmm := fun w => run_makeMap (P := Try.prog) 50 w
  go_enter Try.func24, Try.ntmps24
  go_wp2_with (at_mapUpdate; refine wpList_put strKey _ rfl _ _ _ 50 9 58 rfl Try.underlying50 Try.underlying9 c _ _ rfl m1 name rfl (.agg #[]) rfl ?_; intro w2 m2 g2 z2; refine Halt.of ?_)
  refine Halt.go ?_
  have r2 := r1.setKid hx hk g2 z2 (m2.intro_ hn)
  have t0 := r2.r.t0
  have n2 := r2.r.nodes
  clear m1 m2 c12' r1
  go_wp2_with (at_mapUpdate; refine wpList_put strKey _ rfl _ _ _ 53 9 24 rfl Try.underlying53 Try.underlying9 N _ _ rfl n2 p rfl (ptr y) rfl ?_; intro w3 m3 g3 z3; refine Halt.of ?_)
  refine Halt.go ?_
  have r3 := r2.setNodes g3 z3 (m3.node_in hp) (fun q z hq => by
    by_cases e : q = p
    · rw [if_pos e] at hq; cases hq; exact hy
    · rw [if_neg e] at hq; exact r2.r.alive q z hq)
  have o3 := r3.r.own y hy
  clear m3 n2 t0 g2 z2 z3 r2
  simp only [ho] at o3
  go_wp2
  go_end0
  exact ⟨rfl, ⟨r3.z, N, E, _, _, set, r3.r, hpos⟩, r3.bel⟩

set_option maxHeartbeats 1000000 in
theorem link_some_none {w : World} {B T N E x y : Nat} {role : Nat → Role} {kid : Nat → Option Nat} {set : Int → Option Nat} {A : Abs} {name p : ByteArray} (r0 : St w w B T N E role kid set A) (hpos : ∀ o s, set o = some s → 0 < A.on o) (hx : A.live x) (hy : A.live y)
    (hp : A.node p = none) (hn : A.kids x name = false) {c : Nat} {o : Int} (hk : kid x = some c) (ho : A.own y = o) (ho0 : (o == 0) = false) (hs : set o = none) :
    Calls Try.prog 24 #[.pointer (some ⟨T, 0, none⟩), .pointer (some ⟨x, 0, none⟩), .string name, .string p, .pointer (some ⟨y, 0, none⟩)] w fun e w' => e = .returned (.tuple #[]) ∧ Rep w' B T ((A.put x name p y).give o p) ∧ Below B w w' := by
  have c12' := r0.r.c12 x hx
  rw [hk] at c12'
  have r1 := r0
  have m1 := r1.r.k1 x c hx hk
  have q50 := eql50
  have hmm := fun w => run_makeMap (P := Try.prog) 50 w
  go_enter Try.func24, Try.ntmps24
  go_wp2_with (at_mapUpdate; refine wpList_put strKey _ rfl _ _ _ 50 9 58 rfl Try.underlying50 Try.underlying9 c _ _ rfl m1 name rfl (.agg #[]) rfl ?_; intro w2 m2 g2 z2; refine Halt.of ?_)
  refine Halt.go ?_
  have r2 := r1.setKid hx hk g2 z2 (m2.intro_ hn)
  have t0 := r2.r.t0
  have n2 := r2.r.nodes
  clear m1 m2 c12' r1
  go_wp2_with (at_mapUpdate; refine wpList_put strKey _ rfl _ _ _ 53 9 24 rfl Try.underlying53 Try.underlying9 N _ _ rfl n2 p rfl (ptr y) rfl ?_; intro w3 m3 g3 z3; refine Halt.of ?_)
  refine Halt.go ?_
  have r3 := r2.setNodes g3 z3 (m3.node_in hp) (fun q z hq => by
    by_cases e : q = p
    · rw [if_pos e] at hq; cases hq; exact hy
    · rw [if_neg e] at hq; exact r2.r.alive q z hq)
  have o3 := r3.r.own y hy
  clear m3 n2 t0 g2 z2 z3 r2
  simp only [ho] at o3
  have t1 := r3.r.t1
  have e3 := r3.r.ephs
  go_wp2_with (at_lookup; refine wpList_look i64Key _ rfl _ _ 54 2 50 false rfl Try.underlying54 Try.underlying2 E _ _ rfl e3 o rfl (.map none) (zero50 _) (.map none) (by simp [hs]) ?_; refine Halt.of ?_)
  refine Halt.go ?_
  have e3' := e3.alloc (.map #[] 0)
  have t1' := r3.r.same (w' := w3.alloc (.map #[] 0)) (fun b _ hb => Below.heap_alloc _ _ _ hb) |>.t1
  go_wp2_with (at_mapUpdate; refine wpList_put i64Key _ rfl _ _ _ 54 2 50 rfl Try.underlying54 Try.underlying2 E _ _ rfl e3' o rfl (.map (some w3.heap.size)) rfl ?_; intro w4 m4 g4 z4; refine Halt.of ?_)
  refine Halt.go ?_
  have r4 := r3.newSet hs g4 z4 (by simpa [hs] using m4)
  have t1 := r4.r.t1
  have e4 := r4.r.ephs
  have m5 := r4.r.s1 o w3.heap.size (by simp)
  have z0 := (r3.r.s0 o hs)
  clear m4 t1' e3' e3 z4
  go_wp2_with (at_lookup; refine wpList_look i64Key _ rfl _ _ 54 2 50 false rfl Try.underlying54 Try.underlying2 E _ _ rfl e4 o rfl (.map none) (zero50 _) (.map (some w3.heap.size)) (by simp) ?_; refine Halt.of ?_)
  refine Halt.go ?_
  go_wp2_with (at_mapUpdate; refine wpList_put strKey _ rfl _ _ _ 50 9 58 rfl Try.underlying50 Try.underlying9 w3.heap.size _ _ rfl m5 p rfl (.agg #[]) rfl ?_; intro w5 m6 g5 z5; refine Halt.of ?_)
  refine Halt.go ?_
  have r5 := r4.setSet (o := o) (by simp) g5 z5 (m6.intro_ (z0.1 p))
  go_wp2
  go_end0
  have z1 : A.on o = 0 := z0.2
  have r6 := r5.r
  refine ⟨rfl, ⟨r5.z, N, E, _, _, _, by simpa [Abs.give, Abs.put, z1] using r6, ?_⟩, r5.bel⟩
  intro q s hq
  by_cases e : q = o
  · simp [e, Abs.give, Abs.put]
  · rw [if_neg e] at hq
    simpa [e, Abs.give, Abs.put] using hpos q s hq

set_option maxHeartbeats 1000000 in
theorem link_some_some {w : World} {B T N E x y : Nat} {role : Nat → Role} {kid : Nat → Option Nat} {set : Int → Option Nat} {A : Abs} {name p : ByteArray} (r0 : St w w B T N E role kid set A) (hpos : ∀ o s, set o = some s → 0 < A.on o) (hx : A.live x) (hy : A.live y)
    (hp : A.node p = none) (hn : A.kids x name = false) {c : Nat} {o : Int} {s : Nat} (hk : kid x = some c) (ho : A.own y = o) (ho0 : (o == 0) = false) (hs : set o = some s) (how : A.owned o p = false) :
    Calls Try.prog 24 #[.pointer (some ⟨T, 0, none⟩), .pointer (some ⟨x, 0, none⟩), .string name, .string p, .pointer (some ⟨y, 0, none⟩)] w fun e w' => e = .returned (.tuple #[]) ∧ Rep w' B T ((A.put x name p y).give o p) ∧ Below B w w' := by
  have c12' := r0.r.c12 x hx
  rw [hk] at c12'
  have r1 := r0
  have m1 := r1.r.k1 x c hx hk
  have q50 := eql50
  have hmm := fun w => run_makeMap (P := Try.prog) 50 w
  go_enter Try.func24, Try.ntmps24
  go_wp2_with (at_mapUpdate; refine wpList_put strKey _ rfl _ _ _ 50 9 58 rfl Try.underlying50 Try.underlying9 c _ _ rfl m1 name rfl (.agg #[]) rfl ?_; intro w2 m2 g2 z2; refine Halt.of ?_)
  refine Halt.go ?_
  have r2 := r1.setKid hx hk g2 z2 (m2.intro_ hn)
  have t0 := r2.r.t0
  have n2 := r2.r.nodes
  clear m1 m2 c12' r1
  go_wp2_with (at_mapUpdate; refine wpList_put strKey _ rfl _ _ _ 53 9 24 rfl Try.underlying53 Try.underlying9 N _ _ rfl n2 p rfl (ptr y) rfl ?_; intro w3 m3 g3 z3; refine Halt.of ?_)
  refine Halt.go ?_
  have r3 := r2.setNodes g3 z3 (m3.node_in hp) (fun q z hq => by
    by_cases e : q = p
    · rw [if_pos e] at hq; cases hq; exact hy
    · rw [if_neg e] at hq; exact r2.r.alive q z hq)
  have o3 := r3.r.own y hy
  clear m3 n2 t0 g2 z2 z3 r2
  simp only [ho] at o3
  have t1 := r3.r.t1
  have e3 := r3.r.ephs
  go_wp2_with (at_lookup; refine wpList_look i64Key _ rfl _ _ 54 2 50 false rfl Try.underlying54 Try.underlying2 E _ _ rfl e3 o rfl (.map none) (zero50 _) (.map (some s)) (by simp [hs]) ?_; refine Halt.of ?_)
  refine Halt.go ?_
  go_wp2_with (at_lookup; refine wpList_look i64Key _ rfl _ _ 54 2 50 false rfl Try.underlying54 Try.underlying2 E _ _ rfl e3 o rfl (.map none) (zero50 _) (.map (some s)) (by simp [hs]) ?_; refine Halt.of ?_)
  refine Halt.go ?_
  have m5 := r3.r.s1 o s hs
  go_wp2_with (at_mapUpdate; refine wpList_put strKey _ rfl _ _ _ 50 9 58 rfl Try.underlying50 Try.underlying9 s _ _ rfl m5 p rfl (.agg #[]) rfl ?_; intro w5 m6 g5 z5; refine Halt.of ?_)
  refine Halt.go ?_
  have r5 := r3.setSet (o := o) hs g5 z5 (m6.intro_ how)
  go_wp2
  go_end0
  have z1 : ¬ A.on o = 0 := by have := hpos o s hs; omega
  have r6 := r5.r
  refine ⟨rfl, ⟨r5.z, N, E, _, _, set, by simpa [Abs.give, Abs.put, z1] using r6, ?_⟩, r5.bel⟩
  intro q s hq
  by_cases e : q = o
  · simp [e, Abs.give, Abs.put]
  · simpa [e, Abs.give, Abs.put] using hpos q s hq

end Go.Proofs.Qxb6600164a
