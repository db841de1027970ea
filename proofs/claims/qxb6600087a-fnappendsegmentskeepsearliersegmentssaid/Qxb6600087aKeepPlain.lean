import Derived.Test.Qxb6600087aFwd
import Derived.Test.Qxb6600087aCutNil
import Derived.Test.Qxb6600087aCutCons
import Derived.OpenShut
namespace Go.Proofs.Qxb6600087a
open Go.ChangeShapes Go.WideShapes Go.ChangeAt Go.RowKit

theorem fwd_of_tile_at {a : Int} {G : Nat → Frm} {m c : Nat} : ∀ (N acc : List Seg) (e : Nat), Tile a G c N e → e ≤ m → Fwd a G m acc e → (∀ s, N.head? = some s → e < m → cont s (G e) = false) → Fwd a G m (N.reverse ++ acc) c
  | [], acc, e, ht, he, hf, hh => by
    have : e = c := ht
    subst this
    exact hf
  | s :: N, acc, e, ht, he, hf, hh => by
    obtain ⟨p, h1, h2, h3, h4⟩ := ht
    have hlt := h2.lt
    rw [List.reverse_cons, List.append_assoc]
    exact fwd_of_tile_at N (s :: acc) p h3 (by omega) ⟨e, he, h2, hh s rfl, hf⟩ (fun t ht' _ => h4 t ht')

theorem fwd_of_tile_end {a : Int} {G : Nat → Frm} {m c : Nat} {N : List Seg} (h : Tile a G c N m) : Fwd a G m N.reverse c := by
  have := fwd_of_tile_at N [] m h (Nat.le_refl _) rfl (fun s _ hlt => absurd hlt (by omega))
  rwa [List.append_nil] at this

theorem frames_opt {ao : Option Addr} {b off cap m : Nat} {G : Nat → Frm} {w : World} (h : (ao = none ∧ m = 0 ∧ cap = 0) ∨ ∃ a, ao = some a ∧ (0 < m → a = ⟨b, off, none⟩)) (hm : m ≤ 1048576) (hc : ∀ k, k < m → FrAt w b off k (G k)) :
    Calls Try.prog 9 #[.slice ao m cap] w fun e w' => ∃ fo fc, e = .returned (.slice fo m fc) ∧ (0 < m → fo = some ⟨w.heap.size, 0, none⟩) ∧ (∀ k, k < m → FrAt w' w.heap.size 0 k (G k)) ∧ Below w.heap.size w w' ∧ (0 < m → w.heap.size < w'.heap.size) := by
  rcases h with ⟨rfl, rfl, rfl⟩ | ⟨a, rfl, ha⟩
  · refine (frames_nil w).mono ?_
    rintro e w' ⟨rfl, rfl⟩
    exact ⟨none, 0, rfl, fun h => absurd h (by omega), fun k hk => absurd hk (by omega), Below.refl _ _, fun h => absurd h (by omega)⟩
  · refine (frames_any a b off cap m G w ha hm hc).mono ?_
    rintro e w' ⟨rfl, h1, h2, h3⟩
    exact ⟨_, m, rfl, fun _ => rfl, h1, h2, fun _ => h3⟩

theorem segs_opt {ao : Option Addr} {b off cap n : Nat} {F : Nat → Seg} {w : World} (h : (ao = none ∧ n = 0 ∧ cap = 0) ∨ ∃ a, ao = some a ∧ (0 < n → a = ⟨b, off, none⟩)) (hm : n ≤ 1048576) (hc : ∀ k, k < n → SegAt w b off k (F k)) :
    Calls Try.prog 13 #[.slice ao n cap] w fun e w' => ∃ so sc, e = .returned (.slice so n sc) ∧ (0 < n → so = some ⟨w.heap.size, 0, none⟩) ∧ (∀ k, k < n → SegAt w' w.heap.size 0 k (F k)) ∧
      w'.ownsRow w.heap.size 35 7 (.slice so n sc) n (encS ((List.range n).map F)) ∧ Below w.heap.size w w' ∧ (0 < n → w.heap.size < w'.heap.size) := by
  rcases h with ⟨rfl, rfl, rfl⟩ | ⟨a, rfl, ha⟩
  · refine (segs_nil w).mono ?_
    rintro e w' ⟨rfl, rfl⟩
    exact ⟨none, 0, rfl, fun h => absurd h (by omega), fun k hk => absurd hk (by omega), World.ownsRow_nil _ _ _ _, Below.refl _ _, fun h => absurd h (by omega)⟩
  · refine (segs_any a b off cap n F w ha hm hc).mono ?_
    rintro e w' ⟨rfl, h1, ⟨xs, hx⟩, h2, h3⟩
    refine ⟨_, n, rfl, fun _ => rfl, h1, ?_, h2, fun _ => h3⟩
    exact owns_segAt hx (by simp) (fun j hj => by
      have hj' : j < n := by simpa using hj
      have e : ((List.range n).map F)[j] = F j := by simp
      rw [e]; exact h1 j hj')

theorem range_rev (F : Nat → Seg) (q : Nat) : (List.range (q + 1)).map F = (F q :: ((List.range q).map F).reverse).reverse := by
  rw [List.reverse_cons, List.reverse_reverse, List.range_succ, List.map_append]; rfl

theorem cut_consq (fo : Option Addr) (b m fc g0 cap q : Nat) (s0 : Seg) (P0 : List Seg) (hq : P0.length = q) (G : Nat → Frm) (base : Nat) (w : World) (hfo : 0 < m → fo = some ⟨b, 0, none⟩) (hm : m ≤ 262144) (hP : q ≤ 16384)
    (hfr : ∀ k, k < m → FrAt w b 0 k (G k)) (hbb : 0 < m → b < base) (hown : w.ownsRow base 35 7 (.slice (some ⟨g0, 0, none⟩) (q + 1) cap) (q + 1) (encS (s0 :: P0).reverse)) (hbase : base ≤ w.heap.size) :
    Calls Try.prog 10 #[.slice (some ⟨g0, 0, none⟩) (q + 1) cap, .slice fo m fc] w fun e w' => ∃ v', e = .returned v' ∧ Cut w w' base (wrap64 (s0.start + s0.len)) G (s0 :: P0) m v' := by
  subst hq
  exact cut_cons fo b m fc g0 cap s0 P0 G base w hfo hm hP hfr hbb hown hbase

theorem segAt_of {w : World} {base g cap n : Nat} {S : List Seg} (h : w.ownsRow base 35 7 (.slice (some ⟨g, 0, none⟩) n cap) n (encS S)) (hn : S.length = n) : ∀ i t, S[i]? = some t → SegAt w g 0 i t := by
  intro i t ht
  obtain ⟨hi, rfl⟩ := List.getElem?_eq_some_iff.1 ht
  exact segAt_owns h hn hi

theorem wf64 {x : Int} (h : (Lit.int .i64 x).wf = true) : wrap64 x = x := by
  have := bounds_i64 h
  exact IntWalk.wrap64_in _ ⟨by omega, by omega⟩

/-- What the law's loops want of the list that came out. -/
structure Outs (a : Int) (G : Nat → Frm) (m q : Nat) (F : Nat → Seg) (O : List Seg) (c : Nat) (s' : Seg) : Prop where
  old : ∀ i, i < q → O[i]? = some (F i)
  mid : O[q]? = some s'
  cm : c ≤ m
  kind : s'.kind = (F q).kind
  start : s'.start = (F q).start
  fl : s'.fl = (F q).fl
  fr : s'.fr = (F q).fr
  len : wrap64 (s'.len - (F q).len) = c
  last0 : c = 0 → s'.ll = (F q).ll ∧ s'.lr = (F q).lr
  last : 0 < c → s'.ll = (G (c - 1)).l ∧ s'.lr = (G (c - 1)).r
  fwd : Fwd a G m (O.drop (q + 1)) c
  le : q + 1 ≤ O.length

theorem outs_of {a : Int} {G : Nat → Frm} {m q : Nat} {F : Nat → Seg} {R : List Seg} (hm : m ≤ 1048576) (h : Stand a G (F q :: ((List.range q).map F).reverse) R m) : ∃ c s', Outs a G m q F R.reverse c s' := by
  obtain ⟨c, N, s', rfl, hcm, ht, h1, h2, h3, h4, h5, h6, h7⟩ := h
  have hrev : (N ++ s' :: ((List.range q).map F).reverse).reverse = (List.range q).map F ++ (s' :: N.reverse) := by simp
  have hl : ((List.range q).map F).length = q := by simp
  refine ⟨c, s', ?_, ?_, hcm, h1, h2, h3, h4, ?_, h6, h7, ?_, ?_⟩
  · intro i hi
    rw [hrev, List.getElem?_append_left (by omega)]
    simp [hi]
  · rw [hrev, List.getElem?_append_right (by omega), hl]; simp
  · rw [h5]
    have := ht.le
    unfold wrap64
    omega
  · rw [hrev, ← List.singleton_append, ← List.append_assoc, List.drop_append_of_le_length (by simp), List.drop_of_length_le (by simp), List.nil_append]
    exact fwd_of_tile_end ht
  · rw [hrev]; simp
end Go.Proofs.Qxb6600087a
