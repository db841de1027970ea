import Derived.Test.Qxb6600087aCut
namespace Go.Proofs.Qxb6600087a
open Go.ChangeShapes Go.WideShapes Go.ChangeAt Go.RowKit

/-- The segments, first first, from position p on; the capture ends at m. -/
def Fwd (a : Int) (G : Nat → Frm) (m : Nat) : List Seg → Nat → Prop
  | [], p => p = m
  | s :: T, p => ∃ e, e ≤ m ∧ SegOk a G s p e ∧ (e < m → cont s (G e) = false) ∧ Fwd a G m T e

theorem fwd_of_tile {a : Int} {G : Nat → Frm} {m : Nat} : ∀ (N acc : List Seg) (e : Nat), Tile a G 0 N e → e ≤ m → Fwd a G m acc e → (∀ s, N.head? = some s → e < m → cont s (G e) = false) → Fwd a G m (N.reverse ++ acc) 0
  | [], acc, e, ht, he, hf, hh => by
    have : e = 0 := ht
    subst this
    exact hf
  | s :: N, acc, e, ht, he, hf, hh => by
    obtain ⟨p, h1, h2, h3, h4⟩ := ht
    have hlt := h2.lt
    rw [List.reverse_cons, List.append_assoc]
    exact fwd_of_tile N (s :: acc) p h3 (by omega) ⟨e, he, h2, hh s rfl, hf⟩ (fun t ht' _ => h4 t ht')

theorem fwd_run (G : Nat → Frm) (m : Nat) (hm : m ≤ 1048576) : Fwd 0 G m (runR 0 G [] m).reverse 0 := by
  have h := stand_run 0 G [] (fun s hs => by cases hs) m (by omega)
  have h' : Tile 0 G 0 (runR 0 G [] m) m := h
  have := fwd_of_tile (runR 0 G [] m) [] m h' (Nat.le_refl _) rfl (fun s _ hlt => absurd hlt (by omega))
  rwa [List.append_nil] at this

theorem fwd_drop {a : Int} {G : Nat → Frm} {m : Nat} {S : List Seg} {i p : Nat} (h : Fwd a G m (S.drop i) p) (hi : i < S.length) :
    ∃ e, e ≤ m ∧ SegOk a G S[i] p e ∧ (e < m → cont S[i] (G e) = false) ∧ Fwd a G m (S.drop (i + 1)) e := by
  rw [List.drop_eq_getElem_cons hi] at h
  exact h

def segBox (s : Seg) : Obj := .cells #[.int .u8 s.kind, .int .i64 s.start, .int .i64 s.len, .int .i16 s.fl, .int .i16 s.fr, .int .i16 s.ll, .int .i16 s.lr] 35

theorem box7 {w w' : World} {s : Seg} (h : Below (w.heap.size + 1) (w.alloc (segBox s)) w') : SegAt w' w.heap.size 0 0 s ∧ w.heap.size < w'.heap.size ∧ Below w.heap.size w w' := by
  have hs := h.size
  rw [size_alloc] at hs
  have e := h.block w.heap.size (by omega)
  have c : ∀ j, w'.cell? ⟨w.heap.size, j, none⟩ = (#[.int .u8 s.kind, .int .i64 s.start, .int .i64 s.len, .int .i16 s.fl, .int .i16 s.fr, .int .i16 s.ll, .int .i16 s.lr] : Array Value)[j]? := fun j => by
    rw [cell_same e]; exact World.cell?_alloc_new _ _ _ _
  exact ⟨⟨c 0, c 1, c 2, c 3, c 4, c 5, c 6⟩, by omega, ((Below.refl _ _).alloc (Nat.le_refl _) _).trans (h.mono (by omega))⟩

theorem cls_at (f : Frm) (k : Int) (hk : cls f = k) (w0 w : World) (hw : Below w0.heap.size w0 w) :
    Calls Try.prog 7 #[.agg #[.int .i16 f.l, .int .i16 f.r]] w fun e w' => e = .returned (.int .u8 k) ∧ Below w0.heap.size w0 w' := by
  subst hk
  exact (cls_any f w).mono fun e w' h => ⟨h.1, hw.trans (h.2.mono hw.size)⟩

/-- The law's answer. -/
def Fine (w : World) (e : Ending) (w' : World) : Prop := e = .returned (.bool true) ∧ Below w.heap.size w w'
theorem Fine.mk {w w' : World} {v : Value} (hv : v = .bool true) (hb : Below w.heap.size w w') : Fine w (.returned v) w' := ⟨by rw [hv], hb⟩
end Go.Proofs.Qxb6600087a
