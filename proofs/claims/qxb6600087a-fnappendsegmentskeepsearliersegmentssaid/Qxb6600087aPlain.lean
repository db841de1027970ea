import Derived.WalkKit
/-! Plain data and plain reckoning: frames, segments, how a capture is cut. -/
namespace Go.Proofs.Qxb6600087a
open Go.RowKit

structure Frm where
  l : Int
  r : Int
structure Seg where
  kind : Int
  start : Int
  len : Int
  fl : Int
  fr : Int
  ll : Int
  lr : Int

def cls (f : Frm) : Int := if f.l = 0 ∧ f.r = 0 then 0 else if f.r = IntKind.i16.wrap (-1 - f.l) then 1 else if f.r = f.l then 2 else 3
def ramp (k : Int) : Bool := k == 1 || k == 2
def nxt (l : Int) : Int := IntKind.i16.wrap (l + 1)
/-- Does the frame go on with the segment? -/
def cont (s : Seg) (f : Frm) : Bool := (s.kind == cls f) && (!ramp (cls f) || f.l == nxt s.ll)

def mk1 (a : Int) (i : Nat) (f : Frm) : Seg := ⟨cls f, wrap64 (a + i), 1, f.l, f.r, f.l, f.r⟩
def ext (s : Seg) (f : Frm) : Seg := { s with len := wrap64 (s.len + 1), ll := f.l, lr := f.r }

/-- One frame more; the list is held last segment first. -/
def stepR (a : Int) (i : Nat) (f : Frm) : List Seg → List Seg
  | [] => [mk1 a i f]
  | s :: P => if cont s f then ext s f :: P else mk1 a i f :: s :: P
def runR (a : Int) (G : Nat → Frm) (R0 : List Seg) : Nat → List Seg
  | 0 => R0
  | i + 1 => stepR a i (G i) (runR a G R0 i)
def at0 : List Seg → Int
  | [] => 0
  | s :: _ => wrap64 (s.start + s.len)

theorem stepR_len (a : Int) (i : Nat) (f : Frm) (R : List Seg) : (stepR a i f R).length ≤ R.length + 1 ∧ 0 < (stepR a i f R).length ∧ R.length ≤ (stepR a i f R).length := by
  cases R with
  | nil => simp [stepR]
  | cons s P => simp only [stepR]; split <;> simp
theorem runR_len (a : Int) (G : Nat → Frm) (R0 : List Seg) : ∀ i, (runR a G R0 i).length ≤ R0.length + i
  | 0 => Nat.le_refl _
  | i + 1 => by
    have := runR_len a G R0 i
    have := (stepR_len a i (G i) (runR a G R0 i)).1
    simp only [runR]; omega

/-! ### The new segments, last first, from position c to position e. -/
structure SegOk (a : Int) (G : Nat → Frm) (s : Seg) (p e : Nat) : Prop where
  lt : p < e
  start : s.start = wrap64 (a + p)
  len : s.len = (e : Int) - p
  fl : s.fl = (G p).l
  fr : s.fr = (G p).r
  ll : s.ll = (G (e - 1)).l
  lr : s.lr = (G (e - 1)).r
  kind : ∀ j, p ≤ j → j < e → cls (G j) = s.kind
  ramps : ramp s.kind = true → ∀ j, p < j → j < e → (G j).l = nxt (G (j - 1)).l

/-- N: new segments, last first; B: what stood ahead of them. -/
def Tile (a : Int) (G : Nat → Frm) (c : Nat) : List Seg → Nat → Prop
  | [], e => e = c
  | s :: N, e => ∃ p, c ≤ p ∧ SegOk a G s p e ∧ Tile a G c N p ∧ (∀ t, N.head? = some t → cont t (G p) = false)

theorem Tile.le {a : Int} {G : Nat → Frm} {c : Nat} : ∀ {N : List Seg} {e : Nat}, Tile a G c N e → c ≤ e
  | [], e, h => by simp only [Tile] at h; omega
  | s :: N, e, h => by obtain ⟨p, h1, h2, _⟩ := h; have := h2.lt; omega

theorem segOk_new (a : Int) (G : Nat → Frm) (i : Nat) : SegOk a G (mk1 a i (G i)) i (i + 1) := by
  refine ⟨by omega, rfl, by show (1 : Int) = _; omega, rfl, rfl, rfl, rfl, fun j h1 h2 => ?_, fun _ j h1 h2 => absurd h2 (by omega)⟩
  have e : j = i := by omega
  rw [e]; rfl

theorem segOk_ext {a : Int} {G : Nat → Frm} {s : Seg} {p e : Nat} (h : SegOk a G s p e) (he : e ≤ 1048576) (hc : cont s (G e) = true) : SegOk a G (ext s (G e)) p (e + 1) := by
  have hlt := h.lt
  simp only [cont, Bool.and_eq_true, beq_iff_eq, Bool.or_eq_true, Bool.not_eq_true'] at hc
  obtain ⟨hk, hr⟩ := hc
  refine ⟨by omega, h.start, ?_, h.fl, h.fr, rfl, rfl, ?_, ?_⟩
  · show wrap64 (s.len + 1) = _
    rw [h.len, IntWalk.wrap64_in _ ⟨by omega, by omega⟩]; omega
  · intro j h1 h2
    by_cases ej : j = e
    · subst ej; exact hk.symm
    · exact h.kind j h1 (by omega)
  · intro hrp j h1 h2
    have hrp' : ramp s.kind = true := hrp
    by_cases ej : j = e
    · subst ej
      rcases hr with hr | hr
      · rw [← hk, hrp'] at hr; cases hr
      · rw [hr, h.ll]
    · exact h.ramps hrp' j h1 (by omega)

/-- How the cut stands behind i frames: new segments N over B; B is R0, its last segment (if there is one) gone on with by the first c frames. -/
def Stand (a : Int) (G : Nat → Frm) : List Seg → List Seg → Nat → Prop
  | [], R, i => Tile a G 0 R i
  | s :: P, R, i => ∃ c N s', R = N ++ s' :: P ∧ c ≤ i ∧ Tile a G c N i ∧ s'.kind = s.kind ∧ s'.start = s.start ∧ s'.fl = s.fl ∧ s'.fr = s.fr ∧ s'.len = wrap64 (s.len + c) ∧
      (c = 0 → s'.ll = s.ll ∧ s'.lr = s.lr) ∧ (0 < c → s'.ll = (G (c - 1)).l ∧ s'.lr = (G (c - 1)).r)

theorem stand_step {a : Int} {G : Nat → Frm} {R0 R : List Seg} {i : Nat} (hi : i ≤ 1048576) (h : Stand a G R0 R i) : Stand a G R0 (stepR a i (G i) R) (i + 1) := by
  have tile : ∀ {c : Nat} {s : Seg} {N : List Seg}, Tile a G c (s :: N) i → Tile a G c (if cont s (G i) then ext s (G i) :: N else mk1 a i (G i) :: s :: N) (i + 1) := by
    intro c s N ht
    have hle := ht.le
    by_cases hc : cont s (G i) = true
    · rw [if_pos hc]
      obtain ⟨p, h1, h2, h3, h4⟩ := ht
      exact ⟨p, h1, segOk_ext h2 hi hc, h3, h4⟩
    · rw [if_neg hc]
      refine ⟨i, hle, segOk_new a G i, ht, fun t e => ?_⟩
      cases e
      simpa using hc
  cases R0 with
  | nil =>
    cases R with
    | nil =>
      have h0 : i = 0 := h
      subst h0
      exact ⟨0, Nat.le_refl _, segOk_new a G 0, rfl, fun t e => by cases e⟩
    | cons s N => exact tile h
  | cons s P =>
    obtain ⟨c, N, s', rfl, hci, ht, h1, h2, h3, h4, h5, h6, h7⟩ := h
    cases N with
    | nil =>
      have hic : i = c := ht
      subst hic
      simp only [List.nil_append, stepR]
      by_cases hc : cont s' (G i) = true
      · rw [if_pos hc]
        refine ⟨i + 1, [], ext s' (G i), rfl, Nat.le_refl _, rfl, h1, h2, h3, h4, ?_, fun e => absurd e (by omega), fun _ => ⟨rfl, rfl⟩⟩
        show wrap64 (s'.len + 1) = _
        rw [h5]
        unfold wrap64
        omega
      · rw [if_neg hc]
        exact ⟨i, [mk1 a i (G i)], s', rfl, by omega, ⟨i, Nat.le_refl _, segOk_new a G i, rfl, fun t e => by cases e⟩, h1, h2, h3, h4, h5, h6, h7⟩
    | cons t N =>
      have := tile ht
      simp only [List.cons_append, stepR]
      by_cases hc : cont t (G i) = true
      · rw [if_pos hc] at this ⊢
        exact ⟨c, ext t (G i) :: N, s', rfl, by omega, this, h1, h2, h3, h4, h5, h6, h7⟩
      · rw [if_neg hc] at this ⊢
        exact ⟨c, mk1 a i (G i) :: t :: N, s', rfl, by omega, this, h1, h2, h3, h4, h5, h6, h7⟩

theorem stand_start (a : Int) (G : Nat → Frm) (R0 : List Seg) (hw : ∀ s ∈ R0, wrap64 s.len = s.len) : Stand a G R0 R0 0 := by
  cases R0 with
  | nil => rfl
  | cons s P => exact ⟨0, [], s, rfl, Nat.le_refl _, rfl, rfl, rfl, rfl, rfl, by rw [Int.natCast_zero, Int.add_zero]; exact (hw s (.head _)).symm, fun _ => ⟨rfl, rfl⟩, fun h => absurd h (by omega)⟩

theorem stand_run (a : Int) (G : Nat → Frm) (R0 : List Seg) (hw : ∀ s ∈ R0, wrap64 s.len = s.len) : ∀ i, i ≤ 1048577 → Stand a G R0 (runR a G R0 i) i
  | 0, _ => stand_start a G R0 hw
  | i + 1, h => stand_step (by omega) (stand_run a G R0 hw i (by omega))
end Go.Proofs.Qxb6600087a
