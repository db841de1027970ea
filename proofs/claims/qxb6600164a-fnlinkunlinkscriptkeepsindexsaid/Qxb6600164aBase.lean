import Derived.Test.Qxb6600164aRows
import Derived.Test.Qxb6600164aMaps
import Derived.WalkKit
import Derived.ProofKit
import Derived.Deep.QuietTactic
import Derived.BigQuiet
namespace Go.Proofs.Qxb6600164a
open Go.MapKept
open Go.ChangeShapes Go.WideShapes Go.ChangeAt Go.RowKit

/-- Block g is a row of m cells, none frozen. -/
def Row (w : World) (g m : Nat) : Prop := ∃ c e, w.heap[g]? = some (.cells c e (0, 0)) ∧ c.size = m

theorem Row.lt {w : World} {g m : Nat} (h : Row w g m) : g < w.heap.size := by
  obtain ⟨c, e, h1, _⟩ := h
  exact (Array.getElem?_eq_some_iff.1 h1).1
theorem Row.same {w w' : World} {g m : Nat} (h : Row w g m) (e : w'.heap[g]? = w.heap[g]?) : Row w' g m := by
  obtain ⟨c, t, h1, h2⟩ := h
  exact ⟨c, t, e.trans h1, h2⟩
theorem Row.cell {w : World} {g m : Nat} (h : Row w g m) {i : Nat} (hi : i < m) : ∃ v, w.cell? ⟨g, i, none⟩ = some v := by
  obtain ⟨c, t, h1, h2⟩ := h
  exact ⟨c[i], by simp [World.cell?, h1, h2, hi]⟩
theorem Row.free {w : World} {g m : Nat} (h : Row w g m) (i : Nat) : w.frozen? ⟨g, i, none⟩ = false := by
  obtain ⟨c, t, h1, h2⟩ := h
  simp [World.frozen?, h1]
theorem Row.setCell {w : World} {g m : Nat} (h : Row w g m) (a : Addr) (v : Value) : Row (w.setCell a v) g m := by
  obtain ⟨c, t, h1, h2⟩ := h
  by_cases e : g = a.block
  · refine ⟨if a.spot.isSome then c else c.setIfInBounds a.off v, t, ?_, ?_⟩
    · simp only [World.setCell, Array.getElem?_modify]
      rw [if_pos e.symm, h1]; rfl
    · split <;> simp [h2]
  · exact ⟨c, t, by rw [Below.heap_setCell _ _ _ _ e]; exact h1, h2⟩
theorem Row.alloc {w : World} {g m : Nat} (h : Row w g m) (o : Obj) : Row (w.alloc o) g m :=
  h.same (Below.heap_alloc _ _ _ h.lt)
theorem Row.ofOwns {w : World} {base e size g n cap : Nat} {xs : List Value} (h : w.ownsRow base e size (.slice (some ⟨g, 0, none⟩) n cap) n xs) : Row w g (cap * size) := by
  obtain ⟨_, h | ⟨g', cap', cur, h1, h2, h3, h4, h5, h6, h7⟩⟩ := h
  · cases h.1
  · cases h1
    exact ⟨cur, e, h3, h6⟩

theorem cell_lt {w : World} {a : Addr} {v : Value} (h : w.cell? a = some v) : a.block < w.heap.size := by
  unfold World.cell? at h
  cases hb : w.heap[a.block]? with
  | none => rw [hb] at h; cases h
  | some o => exact (Array.getElem?_eq_some_iff.1 hb).1
theorem cell_same {w w' : World} {b : Nat} (e : w'.heap[b]? = w.heap[b]?) (i : Nat) : w'.cell? ⟨b, i, none⟩ = w.cell? ⟨b, i, none⟩ := by simp [World.cell?, e]
theorem cell_ne {w : World} {b i j : Nat} (v : Value) (h : i ≠ j) : (w.setCell ⟨b, i, none⟩ v).cell? ⟨b, j, none⟩ = w.cell? ⟨b, j, none⟩ :=
  World.cell?_setCell_other _ _ _ _ (fun e => h (by cases e; rfl))
theorem set_cell {w : World} {g m i : Nat} (h : Row w g m) (hi : i < m) (v : Value) : (w.setCell ⟨g, i, none⟩ v).cell? ⟨g, i, none⟩ = some v := by
  obtain ⟨u, hu⟩ := h.cell hi
  exact World.cell?_setCell_same _ _ _ hu
theorem size_setCell (w : World) (a : Addr) (v : Value) : (w.setCell a v).heap.size = w.heap.size := by simp [World.setCell]
theorem size_alloc (w : World) (o : Obj) : (w.alloc o).heap.size = w.heap.size + 1 := by show (w.heap.push o).size = _; simp
theorem heap_new (w : World) (o : Obj) (n : Nat) (h : w.heap.size = n) : (w.alloc o).heap[n]? = some o := by
  subst h; show (w.heap.push o)[w.heap.size]? = _; simp

/-- The call returned a bool of which φ tells. -/
def RetB (φ : Bool → Prop) (e : Ending) : Prop := ∃ r, e = .returned (.bool r) ∧ φ r
theorem RetB.mk {φ : Bool → Prop} {v : Value} {r : Bool} (h : v = .bool r) (hr : φ r) : RetB φ (.returned v) := ⟨r, by rw [h], hr⟩

section
variable {α : Type} {P : Program} (K : KeyBy α) (w : World) {ops : Array Oper} {rest : List Oper} {o : Oper} {a : Act} {Q : Exit → Act → World → Prop}
/-- 'm[k]' of a nil map AT THE OPERATION. -/
theorem wpList_look_nil (hg : o.guard = none) (m x : Operand) (t kt et : TypeId) (c : Bool) (hop : o.op = Op.lookup t m x c) (ht : P.underlying t = some (.map kt et)) (hk : P.underlying kt = some K.d)
    (hm : a.eval m = .map none) (k : α) (hx : a.eval x = K.kv k) (z : Value) (hz : (zeroValue et).run P w = .ok z w)
    (r : Value) (hr : r = if c then .tuple #[z, .bool false] else z)
    (hK : wpList P ops Q rest (a.put o.dst r) w) :
    wpList P ops Q (o :: rest) a w := by
  refine wpList_plain hg fun K' hK' => ?_
  have hrun := look_nil (K := K) ht hk hz k c
  rw [← hr] at hrun
  unfold Oper.wp
  simp [execOp, hop, hm, hx, hrun, Result.andThen]
  exact hK' _ _ hK
/-- 'len(m)' of a nil map AT THE OPERATION. -/
theorem wpList_len_nil (hg : o.guard = none) (m : Operand) (t kt et : TypeId) (hop : o.op = Op.call { callee := Callee.builtin Builtin.len, args := #[m], argTypes := #[t] }) (ht : P.underlying t = some (.map kt et))
    (hm : a.eval m = .map none) (hK : wpList P ops Q rest (a.put o.dst (.int .i64 0)) w) : wpList P ops Q (o :: rest) a w := by
  refine wpList_plain hg fun K' hK' => ?_
  have hrun := Maps.len_nil (w := w) ht o.type
  unfold Oper.wp
  simp [execOp, hop, resolve, invoke, builtin, hm, hrun, Result.andThen]
  exact hK' _ _ hK
end

/-! ### The blocks of a tree -/
/-- What a block is for. -/
inductive Role where
  | none | tree | nodes | eph | node | kid (x : Nat) | set (o : Int)

/-- A tree's content. -/
structure Abs where
  node : ByteArray → Option Nat
  nn : Nat
  live : Nat → Prop
  own : Nat → Int
  kids : Nat → ByteArray → Bool
  kn : Nat → Nat
  owned : Int → ByteArray → Bool
  on : Int → Nat
  en : Nat

def ptr (x : Nat) : Value := .pointer (some ⟨x, 0, none⟩)
def unit (b : Bool) : Option Value := if b then some (.agg #[]) else none

/-- The tree at block T of w, all of it from block B on, holds A. -/
structure RepAt (w : World) (B T N E : Nat) (role : Nat → Role) (kid : Nat → Option Nat) (set : Int → Option Nat) (A : Abs) : Prop where
  rT : role T = .tree
  rN : role N = .nodes
  rE : role E = .eph
  rx : ∀ x, A.live x → role x = .node
  rk : ∀ x c, A.live x → kid x = some c → role c = .kid x
  rs : ∀ o s, set o = some s → role s = .set o
  lo : ∀ b, role b ≠ .none → B ≤ b
  t0 : w.cell? ⟨T, 0, none⟩ = some (.map (some N))
  t1 : w.cell? ⟨T, 1, none⟩ = some (.map (some E))
  nodes : MapIs strKey w N (fun p => (A.node p).map ptr) A.nn
  ephs : MapIs i64Key w E (fun o => (set o).map fun s => .map (some s)) A.en
  alive : ∀ p x, A.node p = some x → A.live x
  own : ∀ x, A.live x → w.cell? ⟨x, 8, none⟩ = some (.int .i64 (A.own x))
  row : ∀ x, A.live x → Row w x 13
  c12 : ∀ x, A.live x → w.cell? ⟨x, 12, none⟩ = some (.map (kid x))
  k0 : ∀ x, A.live x → kid x = none → (∀ s, A.kids x s = false) ∧ A.kn x = 0
  k1 : ∀ x c, A.live x → kid x = some c → MapIs strKey w c (fun s => unit (A.kids x s)) (A.kn x)
  s0 : ∀ o, set o = none → (∀ p, A.owned o p = false) ∧ A.on o = 0
  s1 : ∀ o s, set o = some s → MapIs strKey w s (fun p => unit (A.owned o p)) (A.on o)

section
variable {w w' : World} {B T N E : Nat} {role : Nat → Role} {kid : Nat → Option Nat} {set : Int → Option Nat} {A : Abs}

theorem RepAt.apart (_ : RepAt w B T N E role kid set A) {b c : Nat} {r s : Role} (hb : role b = r) (hc : role c = s) (h : r ≠ s) : b ≠ c := fun e => h (by rw [← hb, ← hc, e])

/-- What the tree's blocks keep, the tree keeps. -/
theorem RepAt.same (h : RepAt w B T N E role kid set A) (hs : ∀ b, B ≤ b → b < w.heap.size → w'.heap[b]? = w.heap[b]?) : RepAt w' B T N E role kid set A where
  rT := h.rT
  rN := h.rN
  rE := h.rE
  rx := h.rx
  rk := h.rk
  rs := h.rs
  lo := h.lo
  t0 := by rw [cell_same (hs _ (h.lo _ (by rw [h.rT]; nofun)) (cell_lt h.t0))]; exact h.t0
  t1 := by rw [cell_same (hs _ (h.lo _ (by rw [h.rT]; nofun)) (cell_lt h.t0))]; exact h.t1
  nodes := h.nodes.same (hs _ (h.lo _ (by rw [h.rN]; nofun)) h.nodes.lt)
  ephs := h.ephs.same (hs _ (h.lo _ (by rw [h.rE]; nofun)) h.ephs.lt)
  alive := h.alive
  own := fun x hx => by rw [cell_same (hs _ (h.lo _ (by rw [h.rx x hx]; nofun)) (h.row x hx).lt)]; exact h.own x hx
  row := fun x hx => (h.row x hx).same (hs _ (h.lo _ (by rw [h.rx x hx]; nofun)) (h.row x hx).lt)
  c12 := fun x hx => by rw [cell_same (hs _ (h.lo _ (by rw [h.rx x hx]; nofun)) (h.row x hx).lt)]; exact h.c12 x hx
  k0 := h.k0
  k1 := fun x c hx hc => (h.k1 x c hx hc).same (hs _ (h.lo _ (by rw [h.rk x c hx hc]; nofun)) (h.k1 x c hx hc).lt)
  s0 := h.s0
  s1 := fun o s ho => (h.s1 o s ho).same (hs _ (h.lo _ (by rw [h.rs o s ho]; nofun)) (h.s1 o s ho).lt)

/-- One new node. -/
def Abs.add (A : Abs) (x : Nat) (o : Int) : Abs := { A with
  live := fun y => y = x ∨ A.live y
  own := fun y => if y = x then o else A.own y
  kids := fun y s => if y = x then false else A.kids y s
  kn := fun y => if y = x then 0 else A.kn y }

/-- A node's block, new. -/
def NewNode (w : World) (x : Nat) (o : Int) : Prop := Row w x 13 ∧ w.cell? ⟨x, 8, none⟩ = some (.int .i64 o) ∧ w.cell? ⟨x, 12, none⟩ = some (.map none)

theorem RepAt.add (h : RepAt w B T N E role kid set A) (hs : Below w.heap.size w w') {o : Int} (hB : B ≤ w.heap.size) (hn : NewNode w' w.heap.size o) :
    RepAt w' B T N E (fun b => if b = w.heap.size then .node else role b) (fun x => if x = w.heap.size then none else kid x) set (A.add w.heap.size o) := by
  have h' := h.same (w' := w') (fun b _ hb => hs.block b hb)
  have nT : T ≠ w.heap.size := Nat.ne_of_lt (cell_lt h.t0)
  have nN : N ≠ w.heap.size := Nat.ne_of_lt h.nodes.lt
  have nE : E ≠ w.heap.size := Nat.ne_of_lt h.ephs.lt
  have nx : ∀ x, A.live x → x ≠ w.heap.size := fun x hx => Nat.ne_of_lt (h.row x hx).lt
  have nk : ∀ x c, A.live x → kid x = some c → c ≠ w.heap.size := fun x c hx hc => Nat.ne_of_lt (h.k1 x c hx hc).lt
  have ns : ∀ o s, set o = some s → s ≠ w.heap.size := fun o s hs => Nat.ne_of_lt (h.s1 o s hs).lt
  have case : ∀ y, (A.add w.heap.size o).live y → y = w.heap.size ∨ (y ≠ w.heap.size ∧ A.live y) := fun y hy => hy.elim .inl (fun e => .inr ⟨nx y e, e⟩)
  refine { rT := by simp [nT, h.rT], rN := by simp [nN, h.rN], rE := by simp [nE, h.rE], t0 := h'.t0, t1 := h'.t1, nodes := h'.nodes, ephs := h'.ephs, s0 := h.s0, s1 := h'.s1, rx := ?_, rk := ?_, rs := ?_, lo := ?_, alive := ?_, own := ?_, row := ?_, c12 := ?_, k0 := ?_, k1 := ?_ }
  · intro y hy
    rcases case y hy with e | ⟨e, hy⟩
    · simp [e]
    · simp [e, h.rx y hy]
  · intro y c hy hc
    rcases case y hy with e | ⟨e, hy⟩
    · simp [e] at hc
    · rw [if_neg e] at hc
      simp [nk y c hy hc, h.rk y c hy hc]
  · intro o s hs
    simp [ns o s hs, h.rs o s hs]
  · intro b hb
    by_cases e : b = w.heap.size
    · omega
    · rw [if_neg e] at hb
      exact h.lo b hb
  · intro p x hp
    exact .inr (h.alive p x hp)
  · intro y hy
    rcases case y hy with e | ⟨e, hy⟩
    · subst e; simp [Abs.add, hn.2.1]
    · simp [Abs.add, e, h'.own y hy]
  · intro y hy
    rcases case y hy with e | ⟨e, hy⟩
    · subst e; exact hn.1
    · exact h'.row y hy
  · intro y hy
    rcases case y hy with e | ⟨e, hy⟩
    · subst e; simp [hn.2.2]
    · simp [e, h'.c12 y hy]
  · intro y hy hc
    rcases case y hy with e | ⟨e, hy⟩
    · simp [e, Abs.add]
    · rw [if_neg e] at hc
      simp [e, Abs.add, h.k0 y hy hc]
  · intro y c hy hc
    rcases case y hy with e | ⟨e, hy⟩
    · simp [e] at hc
    · rw [if_neg e] at hc
      simp only [Abs.add, e, if_false]
      exact h'.k1 y c hy hc

/-- A node gets its map of children. -/
theorem RepAt.newKid (h : RepAt w B T N E role kid set A) (hB : B ≤ w.heap.size) {x : Nat} (hx : A.live x) (hk : kid x = none) :
    RepAt ((w.alloc (.map #[] 0)).setCell ⟨x, 12, none⟩ (.map (some w.heap.size))) B T N E (fun b => if b = w.heap.size then .kid x else role b) (fun y => if y = x then some w.heap.size else kid y) set A := by
  have h1 := h.same (w' := w.alloc (.map #[] 0)) (fun b _ hb => Below.heap_alloc _ _ _ hb)
  generalize hv : Value.map (some w.heap.size) = v
  have hb : ∀ b, b ≠ x → ((w.alloc (.map #[] 0)).setCell ⟨x, 12, none⟩ v).heap[b]? = (w.alloc (.map #[] 0)).heap[b]? := fun b hb => Below.heap_setCell _ _ _ _ hb
  have nT : T ≠ w.heap.size := Nat.ne_of_lt (cell_lt h.t0)
  have nN : N ≠ w.heap.size := Nat.ne_of_lt h.nodes.lt
  have nE : E ≠ w.heap.size := Nat.ne_of_lt h.ephs.lt
  have nx : ∀ x, A.live x → x ≠ w.heap.size := fun x hx => Nat.ne_of_lt (h.row x hx).lt
  have nk : ∀ x c, A.live x → kid x = some c → c ≠ w.heap.size := fun x c hx hc => Nat.ne_of_lt (h.k1 x c hx hc).lt
  have ns : ∀ o s, set o = some s → s ≠ w.heap.size := fun o s hs => Nat.ne_of_lt (h.s1 o s hs).lt
  have e0 := h.k0 x hx hk
  refine { rT := by simp [nT, h.rT], rN := by simp [nN, h.rN], rE := by simp [nE, h.rE], alive := h.alive, s0 := h.s0, rx := ?_, rk := ?_, rs := ?_, lo := ?_, t0 := ?_, t1 := ?_, nodes := ?_, ephs := ?_, own := ?_, row := ?_, c12 := ?_, k0 := ?_, k1 := ?_, s1 := ?_ }
  · intro y hy; simp [nx y hy, h.rx y hy]
  · intro y c hy hc
    by_cases e : y = x
    · subst e; simp at hc; simp [hc]
    · rw [if_neg e] at hc
      simp [nk y c hy hc, h.rk y c hy hc]
  · intro o s hs; simp [ns o s hs, h.rs o s hs]
  · intro b hb
    by_cases e : b = w.heap.size
    · omega
    · rw [if_neg e] at hb; exact h.lo b hb
  · rw [cell_same (hb T (h.apart h.rT (h.rx x hx) nofun))]; exact h1.t0
  · rw [cell_same (hb T (h.apart h.rT (h.rx x hx) nofun))]; exact h1.t1
  · exact h1.nodes.same (hb N (h.apart h.rN (h.rx x hx) nofun))
  · exact h1.ephs.same (hb E (h.apart h.rE (h.rx x hx) nofun))
  · intro y hy
    by_cases e : y = x
    · subst e; rw [cell_ne _ (by omega)]; exact h1.own y hy
    · rw [cell_same (hb y e)]; exact h1.own y hy
  · intro y hy; exact (h1.row y hy).setCell _ _
  · intro y hy
    by_cases e : y = x
    · subst e; rw [set_cell (h1.row y hy) (by omega)]; simp [hv]
    · rw [cell_same (hb y e), if_neg e]; exact h1.c12 y hy
  · intro y hy hc
    by_cases e : y = x
    · subst e; exact e0
    · rw [if_neg e] at hc; exact h.k0 y hy hc
  · intro y c hy hc
    by_cases e : y = x
    · subst e
      simp only [if_true, Option.some.injEq] at hc
      subst hc
      rw [e0.2]
      refine ((MapIs.made strKey w).same (hb _ (nx y hy).symm)).congr (fun s => by simp [unit, e0.1 s])
    · rw [if_neg e] at hc
      exact (h1.k1 y c hy hc).same (hb c (h.apart (h.rk y c hy hc) (h.rx x hx) nofun))
  · intro o s hs
    exact (h1.s1 o s hs).same (hb s (h.apart (h.rs o s hs) (h.rx x hx) nofun))

/-- A node's map of children changes. -/
theorem RepAt.setKid (h : RepAt w B T N E role kid set A) {x c : Nat} (hx : A.live x) (hk : kid x = some c) (g : w.grownBy w' (some c)) {ks : ByteArray → Bool} {n : Nat}
    (hm : MapIs strKey w' c (fun s => unit (ks s)) n) :
    RepAt w' B T N E role kid set { A with kids := fun y s => if y = x then ks s else A.kids y s, kn := fun y => if y = x then n else A.kn y } := by
  have rc := h.rk x c hx hk
  have hb : ∀ b, b < w.heap.size → b ≠ c → w'.heap[b]? = w.heap[b]? := fun b hb hne => g.block b hb (by simpa using hne)
  refine { rT := h.rT, rN := h.rN, rE := h.rE, rx := h.rx, rk := h.rk, rs := h.rs, lo := h.lo, alive := h.alive, s0 := h.s0, t0 := ?_, t1 := ?_, nodes := ?_, ephs := ?_, own := ?_, row := ?_, c12 := ?_, k0 := ?_, k1 := ?_, s1 := ?_ }
  · rw [cell_same (hb T (cell_lt h.t0) (h.apart h.rT rc nofun))]; exact h.t0
  · rw [cell_same (hb T (cell_lt h.t0) (h.apart h.rT rc nofun))]; exact h.t1
  · exact h.nodes.same (hb N h.nodes.lt (h.apart h.rN rc nofun))
  · exact h.ephs.same (hb E h.ephs.lt (h.apart h.rE rc nofun))
  · intro y hy; rw [cell_same (hb y (h.row y hy).lt (h.apart (h.rx y hy) rc nofun))]; exact h.own y hy
  · intro y hy; exact (h.row y hy).same (hb y (h.row y hy).lt (h.apart (h.rx y hy) rc nofun))
  · intro y hy; rw [cell_same (hb y (h.row y hy).lt (h.apart (h.rx y hy) rc nofun))]; exact h.c12 y hy
  · intro y hy hc
    by_cases e : y = x
    · subst e; rw [hk] at hc; cases hc
    · simp [e, h.k0 y hy hc]
  · intro y d hy hd
    by_cases e : y = x
    · subst e; rw [hk] at hd; cases hd
      simpa using hm
    · simp only [e, if_false]
      exact (h.k1 y d hy hd).same (hb d (h.k1 y d hy hd).lt (h.apart (h.rk y d hy hd) rc (fun q => e (by injection q))))
  · intro o s hs
    exact (h.s1 o s hs).same (hb s (h.s1 o s hs).lt (h.apart (h.rs o s hs) rc nofun))

/-- The map of nodes changes. -/
theorem RepAt.setNodes (h : RepAt w B T N E role kid set A) (g : w.grownBy w' (some N)) {nd : ByteArray → Option Nat} {n : Nat}
    (hm : MapIs strKey w' N (fun p => (nd p).map ptr) n) (hl : ∀ p x, nd p = some x → A.live x) :
    RepAt w' B T N E role kid set { A with node := nd, nn := n } := by
  have rc := h.rN
  have hb : ∀ b, b < w.heap.size → b ≠ N → w'.heap[b]? = w.heap[b]? := fun b hb hne => g.block b hb (by simpa using hne)
  refine { rT := h.rT, rN := h.rN, rE := h.rE, rx := h.rx, rk := h.rk, rs := h.rs, lo := h.lo, alive := hl, s0 := h.s0, k0 := h.k0, nodes := hm, t0 := ?_, t1 := ?_, ephs := ?_, own := ?_, row := ?_, c12 := ?_, k1 := ?_, s1 := ?_ }
  · rw [cell_same (hb T (cell_lt h.t0) (h.apart h.rT rc nofun))]; exact h.t0
  · rw [cell_same (hb T (cell_lt h.t0) (h.apart h.rT rc nofun))]; exact h.t1
  · exact h.ephs.same (hb E h.ephs.lt (h.apart h.rE rc nofun))
  · intro y hy; rw [cell_same (hb y (h.row y hy).lt (h.apart (h.rx y hy) rc nofun))]; exact h.own y hy
  · intro y hy; exact (h.row y hy).same (hb y (h.row y hy).lt (h.apart (h.rx y hy) rc nofun))
  · intro y hy; rw [cell_same (hb y (h.row y hy).lt (h.apart (h.rx y hy) rc nofun))]; exact h.c12 y hy
  · intro y d hy hd
    exact (h.k1 y d hy hd).same (hb d (h.k1 y d hy hd).lt (h.apart (h.rk y d hy hd) rc nofun))
  · intro o s hs
    exact (h.s1 o s hs).same (hb s (h.s1 o s hs).lt (h.apart (h.rs o s hs) rc nofun))

/-- An owner gets its set: the new map, then the store. -/
theorem RepAt.newSet (h : RepAt w B T N E role kid set A) (hB : B ≤ w.heap.size) {o : Int} (ho : set o = none) (g : (w.alloc (.map #[] 0)).grownBy w' (some E)) {n : Nat}
    (hm : MapIs i64Key w' E (upd (fun o => (set o).map fun s => .map (some s)) o (some (.map (some w.heap.size)))) n) :
    RepAt w' B T N E (fun b => if b = w.heap.size then .set o else role b) kid (fun q => if q = o then some w.heap.size else set q) { A with en := n } := by
  have h1 := h.same (w' := w.alloc (.map #[] 0)) (fun b _ hb => Below.heap_alloc _ _ _ hb)
  have rc := h.rE
  have hb : ∀ b, b < w.heap.size → b ≠ E → w'.heap[b]? = w.heap[b]? := fun b hb hne => by
    rw [g.block b (by rw [size_alloc]; omega) (by simpa using hne)]; exact Below.heap_alloc _ _ _ hb
  have nT : T ≠ w.heap.size := Nat.ne_of_lt (cell_lt h.t0)
  have nN : N ≠ w.heap.size := Nat.ne_of_lt h.nodes.lt
  have nE : E ≠ w.heap.size := Nat.ne_of_lt h.ephs.lt
  have nx : ∀ x, A.live x → x ≠ w.heap.size := fun x hx => Nat.ne_of_lt (h.row x hx).lt
  have nk : ∀ x c, A.live x → kid x = some c → c ≠ w.heap.size := fun x c hx hc => Nat.ne_of_lt (h.k1 x c hx hc).lt
  have ns : ∀ o s, set o = some s → s ≠ w.heap.size := fun o s hs => Nat.ne_of_lt (h.s1 o s hs).lt
  have e0 := h.s0 o ho
  refine { rT := by simp [nT, h.rT], rN := by simp [nN, h.rN], rE := by simp [nE, h.rE], alive := h.alive, k0 := h.k0, rx := ?_, rk := ?_, rs := ?_, lo := ?_, t0 := ?_, t1 := ?_, nodes := ?_, ephs := ?_, own := ?_, row := ?_, c12 := ?_, k1 := ?_, s0 := ?_, s1 := ?_ }
  · intro y hy; simp [nx y hy, h.rx y hy]
  · intro y c hy hc
    simp [nk y c hy hc, h.rk y c hy hc]
  · intro q s hs
    by_cases e : q = o
    · subst e; simp at hs; simp [hs]
    · rw [if_neg e] at hs; simp [ns q s hs, h.rs q s hs]
  · intro b hb
    by_cases e : b = w.heap.size
    · omega
    · rw [if_neg e] at hb; exact h.lo b hb
  · rw [cell_same (hb T (cell_lt h.t0) (h.apart h.rT rc nofun))]; exact h.t0
  · rw [cell_same (hb T (cell_lt h.t0) (h.apart h.rT rc nofun))]; exact h.t1
  · exact h.nodes.same (hb N h.nodes.lt (h.apart h.rN rc nofun))
  · refine hm.congr (fun q => ?_)
    by_cases e : q = o
    · simp [e, upd]
    · simp [e, upd]
  · intro y hy; rw [cell_same (hb y (h.row y hy).lt (h.apart (h.rx y hy) rc nofun))]; exact h.own y hy
  · intro y hy; exact (h.row y hy).same (hb y (h.row y hy).lt (h.apart (h.rx y hy) rc nofun))
  · intro y hy; rw [cell_same (hb y (h.row y hy).lt (h.apart (h.rx y hy) rc nofun))]; exact h.c12 y hy
  · intro y d hy hd
    exact (h.k1 y d hy hd).same (hb d (h.k1 y d hy hd).lt (h.apart (h.rk y d hy hd) rc nofun))
  · intro q hq
    by_cases e : q = o
    · simp [e] at hq
    · rw [if_neg e] at hq; exact h.s0 q hq
  · intro q s hs
    by_cases e : q = o
    · subst e
      simp only [if_true, Option.some.injEq] at hs
      subst hs
      show MapIs strKey w' _ (fun p => unit (A.owned q p)) (A.on q)
      rw [e0.2]
      refine ((MapIs.made strKey w).same (g.block _ (by rw [size_alloc]; omega) (by simpa using nE.symm))).congr (fun s => by simp [unit, e0.1 s])
    · rw [if_neg e] at hs
      exact (h.s1 q s hs).same (hb s (h.s1 q s hs).lt (h.apart (h.rs q s hs) rc nofun))

/-- An owner's set changes. -/
theorem RepAt.setSet (h : RepAt w B T N E role kid set A) {o : Int} {c : Nat} (hk : set o = some c) (g : w.grownBy w' (some c)) {ks : ByteArray → Bool} {n : Nat}
    (hm : MapIs strKey w' c (fun s => unit (ks s)) n) :
    RepAt w' B T N E role kid set { A with owned := fun y s => if y = o then ks s else A.owned y s, on := fun y => if y = o then n else A.on y } := by
  have rc := h.rs o c hk
  have hb : ∀ b, b < w.heap.size → b ≠ c → w'.heap[b]? = w.heap[b]? := fun b hb hne => g.block b hb (by simpa using hne)
  refine { rT := h.rT, rN := h.rN, rE := h.rE, rx := h.rx, rk := h.rk, rs := h.rs, lo := h.lo, alive := h.alive, k0 := h.k0, t0 := ?_, t1 := ?_, nodes := ?_, ephs := ?_, own := ?_, row := ?_, c12 := ?_, k1 := ?_, s0 := ?_, s1 := ?_ }
  · rw [cell_same (hb T (cell_lt h.t0) (h.apart h.rT rc nofun))]; exact h.t0
  · rw [cell_same (hb T (cell_lt h.t0) (h.apart h.rT rc nofun))]; exact h.t1
  · exact h.nodes.same (hb N h.nodes.lt (h.apart h.rN rc nofun))
  · exact h.ephs.same (hb E h.ephs.lt (h.apart h.rE rc nofun))
  · intro y hy; rw [cell_same (hb y (h.row y hy).lt (h.apart (h.rx y hy) rc nofun))]; exact h.own y hy
  · intro y hy; exact (h.row y hy).same (hb y (h.row y hy).lt (h.apart (h.rx y hy) rc nofun))
  · intro y hy; rw [cell_same (hb y (h.row y hy).lt (h.apart (h.rx y hy) rc nofun))]; exact h.c12 y hy
  · intro y d hy hd
    exact (h.k1 y d hy hd).same (hb d (h.k1 y d hy hd).lt (h.apart (h.rk y d hy hd) rc nofun))
  · intro q hq
    by_cases e : q = o
    · subst e; rw [hk] at hq; cases hq
    · simp [e, h.s0 q hq]
  · intro q d hd
    by_cases e : q = o
    · subst e; rw [hk] at hd; cases hd
      simpa using hm
    · simp only [e, if_false]
      exact (h.s1 q d hd).same (hb d (h.s1 q d hd).lt (h.apart (h.rs q d hd) rc (fun z => e (by injection z))))

/-- An owner's set, empty, goes. -/
theorem RepAt.dropSet (h : RepAt w B T N E role kid set A) {o : Int} (he : (∀ p, A.owned o p = false) ∧ A.on o = 0) (g : w.grownBy w' (some E)) {n : Nat}
    (hm : MapIs i64Key w' E (upd (fun o => (set o).map fun s => .map (some s)) o none) n) :
    RepAt w' B T N E role kid (fun q => if q = o then none else set q) { A with en := n } := by
  have rc := h.rE
  have hb : ∀ b, b < w.heap.size → b ≠ E → w'.heap[b]? = w.heap[b]? := fun b hb hne => g.block b hb (by simpa using hne)
  refine { rT := h.rT, rN := h.rN, rE := h.rE, rx := h.rx, rk := h.rk, lo := h.lo, alive := h.alive, k0 := h.k0, rs := ?_, t0 := ?_, t1 := ?_, nodes := ?_, ephs := ?_, own := ?_, row := ?_, c12 := ?_, k1 := ?_, s0 := ?_, s1 := ?_ }
  · intro q s hs
    by_cases e : q = o
    · simp [e] at hs
    · rw [if_neg e] at hs; exact h.rs q s hs
  · rw [cell_same (hb T (cell_lt h.t0) (h.apart h.rT rc nofun))]; exact h.t0
  · rw [cell_same (hb T (cell_lt h.t0) (h.apart h.rT rc nofun))]; exact h.t1
  · exact h.nodes.same (hb N h.nodes.lt (h.apart h.rN rc nofun))
  · refine hm.congr (fun q => ?_)
    by_cases e : q = o
    · simp [e, upd]
    · simp [e, upd]
  · intro y hy; rw [cell_same (hb y (h.row y hy).lt (h.apart (h.rx y hy) rc nofun))]; exact h.own y hy
  · intro y hy; exact (h.row y hy).same (hb y (h.row y hy).lt (h.apart (h.rx y hy) rc nofun))
  · intro y hy; rw [cell_same (hb y (h.row y hy).lt (h.apart (h.rx y hy) rc nofun))]; exact h.c12 y hy
  · intro y d hy hd
    exact (h.k1 y d hy hd).same (hb d (h.k1 y d hy hd).lt (h.apart (h.rk y d hy hd) rc nofun))
  · intro q hq
    by_cases e : q = o
    · subst e; exact he
    · rw [if_neg e] at hq; exact h.s0 q hq
  · intro q s hs
    by_cases e : q = o
    · simp [e] at hs
    · rw [if_neg e] at hs
      exact (h.s1 q s hs).same (hb s (h.s1 q s hs).lt (h.apart (h.rs q s hs) rc nofun))
end

/-- The tree at block T of w, all of it from block B on, holds A; no owner's set is empty. -/
def Rep (w : World) (B T : Nat) (A : Abs) : Prop := B ≤ w.heap.size ∧ ∃ N E role kid set, RepAt w B T N E role kid set A ∧ ∀ o s, set o = some s → 0 < A.on o

theorem Rep.same {w w' : World} {B T : Nat} {A : Abs} (h : Rep w B T A) (hz : w.heap.size ≤ w'.heap.size) (hs : ∀ b, B ≤ b → b < w.heap.size → w'.heap[b]? = w.heap[b]?) : Rep w' B T A := by
  obtain ⟨hB, N, E, role, kid, set, r, p⟩ := h
  exact ⟨by omega, N, E, role, kid, set, r.same hs, p⟩
theorem Rep.below {w w' : World} {B T : Nat} {A : Abs} (h : Rep w B T A) (hs : Below w.heap.size w w') : Rep w' B T A := h.same hs.size (fun b _ hb => hs.block b hb)
theorem Rep.lt {w : World} {B T x : Nat} {A : Abs} (h : Rep w B T A) (hx : A.live x) : x < w.heap.size := by
  obtain ⟨hB, N, E, role, kid, set, r, p⟩ := h
  exact (r.row x hx).lt
theorem Rep.ge {w : World} {B T x : Nat} {A : Abs} (h : Rep w B T A) (hx : A.live x) : B ≤ x := by
  obtain ⟨hB, N, E, role, kid, set, r, p⟩ := h
  exact r.lo _ (by rw [r.rx x hx]; nofun)
theorem Rep.add {w w' : World} {B T : Nat} {A : Abs} (h : Rep w B T A) (hs : Below w.heap.size w w') {o : Int} (hn : NewNode w' w.heap.size o) : Rep w' B T (A.add w.heap.size o) := by
  obtain ⟨hB, N, E, role, kid, set, r, p⟩ := h
  exact ⟨Nat.le_trans hB hs.size, N, E, _, _, set, r.add hs hB hn, p⟩
end Go.Proofs.Qxb6600164a
