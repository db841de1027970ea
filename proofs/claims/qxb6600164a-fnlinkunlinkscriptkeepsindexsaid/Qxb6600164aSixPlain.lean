import Derived.Test.Qxb6600164aRead
namespace Go.Proofs.Qxb6600164a

/-! ### Counting -/
/-- How many below m. -/
def cnt (f : Nat → Bool) : Nat → Nat
  | 0 => 0
  | m + 1 => cnt f m + (f m).toNat

theorem cnt_succ (f : Nat → Bool) (m : Nat) : cnt f (m + 1) = cnt f m + (f m).toNat := rfl
theorem cnt_le (f : Nat → Bool) (m : Nat) : cnt f m ≤ m := by
  induction m with
  | zero => exact Nat.le_refl _
  | succ m ih => rw [cnt_succ]; have := Bool.toNat_le (f m); omega
theorem cnt_congr {f g : Nat → Bool} {m : Nat} (h : ∀ k, k < m → f k = g k) : cnt f m = cnt g m := by
  induction m with
  | zero => rfl
  | succ m ih => rw [cnt_succ, cnt_succ, ih (fun k hk => h k (by omega)), h m (by omega)]
theorem cnt_flip {f g : Nat → Bool} {c m : Nat} (hc : c < m) (h0 : f c = false) (h1 : g c = true) (h : ∀ k, k ≠ c → g k = f k) : cnt g m = cnt f m + 1 := by
  induction m with
  | zero => omega
  | succ m ih =>
    rw [cnt_succ, cnt_succ]
    by_cases e : c = m
    · subst e
      rw [h0, h1, cnt_congr (f := g) (g := f) (fun k hk => h k (by omega))]
      simp
    · rw [ih (by omega), h m (fun q => e q.symm)]
      omega
theorem cnt_zero {f : Nat → Bool} {m : Nat} : cnt f m = 0 ↔ ∀ k, k < m → f k = false := by
  induction m with
  | zero => exact ⟨fun _ k hk => absurd hk (by omega), fun _ => rfl⟩
  | succ m ih =>
    rw [cnt_succ]
    constructor
    · intro h k hk
      by_cases e : k = m
      · subst e
        cases hf : f k with
        | false => rfl
        | true => rw [hf] at h; simp at h
      · exact ih.1 (by omega) k (by omega)
    · intro h
      rw [ih.2 (fun k hk => h k (by omega)), h m (by omega)]; rfl

def inO (pr : Nat → Bool) (ow : Nat → Int) (o : Int) (d : Nat) : Bool := pr d && decide (ow d = o)
def ep (pr : Nat → Bool) (ow : Nat → Int) (d : Nat) : Bool := pr d && decide (ow d ≠ 0)
/-- Present, owned, the first of its owner. -/
def ft (pr : Nat → Bool) (ow : Nat → Int) (c : Nat) : Bool := ep pr ow c && decide (cnt (inO pr ow (ow c)) c = 0)
def sm (pr : Nat → Bool) (ow : Nat → Int) (f : Int → Nat) : Nat → Nat
  | 0 => 0
  | m + 1 => sm pr ow f m + (ft pr ow m).toNat * f (ow m)
theorem sm_succ (pr : Nat → Bool) (ow : Nat → Int) (f : Int → Nat) (m : Nat) : sm pr ow f (m + 1) = sm pr ow f m + (ft pr ow m).toNat * f (ow m) := rfl

section
variable {pr pr' : Nat → Bool} {ow ow' : Nat → Int} {c n : Nat} {o : Int}

theorem inO_other {o' : Int} (hp : ∀ d, d ≠ c → pr' d = pr d) (ho : ∀ d, d ≠ c → ow' d = ow d) (h0 : pr c = false) (h2 : ow' c = o) (hne : o' ≠ o) (m : Nat) : cnt (inO pr' ow' o') m = cnt (inO pr ow o') m := by
  apply cnt_congr
  intro k _
  by_cases e : k = c
  · subst e
    simp [inO, h0, h2, hne.symm]
  · simp [inO, hp k e, ho k e]
theorem inO_same (hc : c < n) (hp : ∀ d, d ≠ c → pr' d = pr d) (ho : ∀ d, d ≠ c → ow' d = ow d) (h0 : pr c = false) (h1 : pr' c = true) (h2 : ow' c = o) : cnt (inO pr' ow' o) n = cnt (inO pr ow o) n + 1 := by
  apply cnt_flip hc
  · simp [inO, h0]
  · simp [inO, h1, h2]
  · intro k e; simp [inO, hp k e, ho k e]
theorem inO_low {o' : Int} (hp : ∀ d, d ≠ c → pr' d = pr d) (ho : ∀ d, d ≠ c → ow' d = ow d) {m : Nat} (hm : m ≤ c) : cnt (inO pr' ow' o') m = cnt (inO pr ow o') m := by
  apply cnt_congr
  intro k hk
  have e : k ≠ c := by omega
  simp [inO, hp k e, ho k e]

/-- One comes, whose owner is none. -/
theorem ft_zero (hp : ∀ d, d ≠ c → pr' d = pr d) (ho : ∀ d, d ≠ c → ow' d = ow d) (h0 : pr c = false) (h2 : ow' c = 0) (m : Nat) : cnt (ft pr' ow') m = cnt (ft pr ow) m := by
  apply cnt_congr
  intro k _
  by_cases e : k = c
  · subst e; simp [ft, ep, h0, h2]
  · by_cases z : ow k = 0
    · simp [ft, ep, hp k e, ho k e, z]
    · simp only [ft, ep, hp k e, ho k e]
      rw [inO_other hp ho h0 h2 z]

/-- One comes, with an owner. -/
theorem ft_on (hc : c < n) (hp : ∀ d, d ≠ c → pr' d = pr d) (ho : ∀ d, d ≠ c → ow' d = ow d) (h0 : pr c = false) (h1 : pr' c = true) (h2 : ow' c = o) (hz : o ≠ 0) :
    cnt (ft pr' ow') n = cnt (ft pr ow) n + (if cnt (inO pr ow o) n = 0 then 1 else 0) := by
  induction n with
  | zero => omega
  | succ m ih =>
    have s1 := cnt_succ (ft pr' ow') m
    have s2 := cnt_succ (ft pr ow) m
    have s3 := cnt_succ (inO pr ow o) m
    by_cases e : c = m
    · subst e
      have a1 : cnt (ft pr' ow') c = cnt (ft pr ow) c := by
        apply cnt_congr
        intro k hk
        have q : k ≠ c := by omega
        simp only [ft, ep, hp k q, ho k q]
        rw [inO_low hp ho (by omega)]
      have a2 : ft pr ow c = false := by simp [ft, ep, h0]
      have a3 : inO pr ow o c = false := by simp [inO, h0]
      have a4 : ft pr' ow' c = decide (cnt (inO pr ow o) c = 0) := by
        simp only [ft, ep, h1, h2]
        rw [inO_low hp ho (Nat.le_refl _)]
        simp [hz]
      rw [a1, a4] at s1
      rw [a2] at s2
      rw [a3] at s3
      rw [s1, s2, s3]
      by_cases y : cnt (inO pr ow o) c = 0
      · simp [y]
      · simp [y]
    · have ih := ih (by omega)
      have q : m ≠ c := fun z => e z.symm
      by_cases z : pr m = true ∧ ow m = o
      · have a1 : ft pr' ow' m = false := by
          simp only [ft, ep, hp m q, ho m q, z.2]
          rw [inO_same (by omega) hp ho h0 h1 h2]
          simp
        have a2 : ft pr ow m = decide (cnt (inO pr ow o) m = 0) := by simp [ft, ep, z.1, z.2, hz]
        have a3 : inO pr ow o m = true := by simp [inO, z.1, z.2]
        rw [ih, a1] at s1
        rw [a2] at s2
        rw [a3] at s3
        rw [s1, s2, s3]
        by_cases y : cnt (inO pr ow o) m = 0
        · simp [y]
        · simp [y]
      · have a3 : inO pr ow o m = false := by
          cases hpm : pr m with
          | false => simp [inO, hpm]
          | true => simp [inO, hpm]; exact fun y => z ⟨hpm, y⟩
        have a1 : ft pr' ow' m = ft pr ow m := by
          simp only [ft, ep, hp m q, ho m q]
          cases hpm : pr m with
          | false => simp
          | true =>
            have : ow m ≠ o := fun y => z ⟨hpm, y⟩
            rw [inO_other hp ho h0 h2 this]
        rw [ih, a1] at s1
        rw [a3] at s3
        rw [s1, s2, s3]
        by_cases y : cnt (inO pr ow o) m = 0
        · simp [y]; omega
        · simp [y]

theorem sm_add {f g : Int → Nat} (h : ∀ q, g q = f q + (if q = o then 1 else 0)) (m : Nat) : sm pr ow g m = sm pr ow f m + cnt (fun c => ft pr ow c && decide (ow c = o)) m := by
  induction m with
  | zero => rfl
  | succ m ih =>
    rw [sm_succ, sm_succ, cnt_succ, ih, h]
    show _ = _ + (_ + (ft pr ow m && decide (ow m = o)).toNat)
    cases ft pr ow m with
    | false => simp
    | true =>
      by_cases e : ow m = o
      · simp [e]; omega
      · simp [e]; omega
theorem sm_congr {f g : Int → Nat} (h : ∀ q, q ≠ 0 → g q = f q) (m : Nat) : sm pr ow g m = sm pr ow f m := by
  induction m with
  | zero => rfl
  | succ m ih =>
    rw [sm_succ, sm_succ, ih]
    cases hf : ft pr ow m with
    | false => simp
    | true =>
      have : ow m ≠ 0 := by
        simp [ft, ep] at hf; exact hf.1.2
      rw [h _ this]
theorem firsts (hz : o ≠ 0) (m : Nat) : cnt (fun c => ft pr ow c && decide (ow c = o)) m = if cnt (inO pr ow o) m = 0 then 0 else 1 := by
  induction m with
  | zero => rfl
  | succ m ih =>
    have s3 := cnt_succ (inO pr ow o) m
    have s1 : cnt (fun c => ft pr ow c && decide (ow c = o)) (m + 1) = cnt (fun c => ft pr ow c && decide (ow c = o)) m + (ft pr ow m && decide (ow m = o)).toNat := rfl
    rw [ih] at s1
    by_cases z : pr m = true ∧ ow m = o
    · have a3 : inO pr ow o m = true := by simp [inO, z.1, z.2]
      have a2 : ft pr ow m = decide (cnt (inO pr ow o) m = 0) := by simp [ft, ep, z.1, z.2, hz]
      rw [a2] at s1
      rw [a3] at s3
      rw [s1, s3]
      by_cases y : cnt (inO pr ow o) m = 0
      · simp [y, z.2]
      · simp [y]
    · have a3 : inO pr ow o m = false := by
        cases hpm : pr m with
        | false => simp [inO, hpm]
        | true => simp [inO, hpm]; exact fun y => z ⟨hpm, y⟩
      have a1 : (ft pr ow m && decide (ow m = o)) = false := by
        cases hpm : pr m with
        | false => simp [ft, ep, hpm]
        | true =>
          have : ow m ≠ o := fun y => z ⟨hpm, y⟩
          simp [this]
      rw [a1] at s1
      rw [a3] at s3
      rw [s1, s3]
      simp
/-- The owners' counts sum up to all that are owned. -/
theorem sm_all (m : Nat) : sm pr ow (fun q => cnt (inO pr ow q) m) m = cnt (ep pr ow) m := by
  induction m with
  | zero => rfl
  | succ m ih =>
    rw [sm_succ]
    show sm pr ow (fun q => cnt (inO pr ow q) (m + 1)) m + (ft pr ow m).toNat * cnt (inO pr ow (ow m)) (m + 1) = cnt (ep pr ow) m + (ep pr ow m).toNat
    by_cases z : ep pr ow m = true
    · have hpm : pr m = true := by simp [ep] at z; exact z.1
      have hom : ow m ≠ 0 := by simp [ep] at z; exact z.2
      have h : ∀ q, cnt (inO pr ow q) (m + 1) = cnt (inO pr ow q) m + (if q = ow m then 1 else 0) := by
        intro q
        rw [cnt_succ]
        by_cases e : ow m = q
        · simp [inO, hpm, e]
        · have : ¬ q = ow m := fun y => e y.symm
          simp [inO, e, this]
      have a2 : ft pr ow m = decide (cnt (inO pr ow (ow m)) m = 0) := by simp [ft, z]
      rw [sm_add h, ih, firsts hom, a2, h, z]
      by_cases y : cnt (inO pr ow (ow m)) m = 0
      · simp [y]
      · simp [y]
    · have z' : ep pr ow m = false := by simpa using z
      have a2 : ft pr ow m = false := by simp [ft, z']
      rw [a2, z']
      rw [sm_congr (f := fun q => cnt (inO pr ow q) m) (fun q hq => ?_), ih]
      · simp
      · have : inO pr ow q m = false := by
          cases hpm : pr m with
          | false => simp [inO, hpm]
          | true =>
            have : ow m = 0 := by simpa [ep, hpm] using z'
            simp [inO, hpm, this]; exact fun y => hq y.symm
        rw [cnt_succ, this]; simp
theorem sm_le {f : Int → Nat} {b : Nat} (h : ∀ q, f q ≤ b) (m : Nat) : sm pr ow f m ≤ m * b := by
  induction m with
  | zero => exact Nat.zero_le _
  | succ m ih =>
    rw [sm_succ, Nat.succ_mul]
    have := h (ow m)
    cases ft pr ow m with
    | false => simp; omega
    | true => simp; omega
end

/-! ### What stands in the law's loop -/
def up (f : Nat → Bool) (c : Nat) (b : Bool) : Nat → Bool := fun d => if d = c then b else f d
def upI (f : Nat → Int) (c : Nat) (b : Int) : Nat → Int := fun d => if d = c then b else f d
theorem up_same {f : Nat → Bool} {c : Nat} {b : Bool} : up f c b c = b := by simp [up]
theorem up_other {f : Nat → Bool} {c : Nat} {b : Bool} {d : Nat} (h : d ≠ c) : up f c b d = f d := by simp [up, h]
theorem upI_same {f : Nat → Int} {c : Nat} {b : Int} : upI f c b c = b := by simp [upI]
theorem upI_other {f : Nat → Int} {c : Nat} {b : Int} {d : Nat} (h : d ≠ c) : upI f c b d = f d := by simp [upI, h]

/-- The names that count: good ones, no two the same. -/
structure Names (n : Nat) (nm : Nat → ByteArray) (ac : Nat → Bool) : Prop where
  good : ∀ c, c < n → ac c = true → Good (nm c)
  first : ∀ c, c < n → ac c = true → ∀ j, j < c → nm j ≠ nm c

section
variable {n root : Nat} {nm : Nat → ByteArray} {ac : Nat → Bool} {pr : Nat → Bool} {ow : Nat → Int} {A : Abs} {c y : Nat} {o : Int}

theorem Names.ne (h : Names n nm ac) {c d : Nat} (hc : c < n) (hd : d < n) (ac1 : ac c = true) (ac2 : ac d = true) (e : c ≠ d) : nm c ≠ nm d := by
  rcases Nat.lt_or_gt_of_ne e with q | q
  · exact h.first d hd ac2 c q
  · exact fun z => h.first c hc ac1 d q z.symm
theorem path_ne {a b : ByteArray} (h : a ≠ b) : sl ++ a ≠ sl ++ b := fun e => h (ByteArray.append_right_inj sl |>.1 e)
theorem path_root {a : ByteArray} (h : Good a) : sl ++ a ≠ sl := fun e => by
  have := congrArg ByteArray.size e
  rw [ByteArray.size_append] at this
  have := h.1
  omega

structure Inv (A : Abs) (root n : Nat) (nm : Nat → ByteArray) (ac : Nat → Bool) (pr : Nat → Bool) (ow : Nat → Int) : Prop where
  nr : A.node sl = some root
  lr : A.live root
  act : ∀ c, c < n → pr c = true → ac c = true
  kid : ∀ c, c < n → ac c = true → A.kids root (nm c) = pr c
  yes : ∀ c, c < n → pr c = true → ∃ y, A.node (sl ++ nm c) = some y ∧ A.own y = ow c ∧ A.live y
  no : ∀ c, c < n → ac c = true → pr c = false → A.node (sl ++ nm c) = none
  nn : A.nn = cnt pr n + 1
  kn : A.kn root = cnt pr n
  owd : ∀ c, c < n → ac c = true → ∀ o, A.owned o (sl ++ nm c) = (pr c && decide (ow c = o) && decide (o ≠ 0))
  on : ∀ o, o ≠ 0 → A.on o = cnt (inO pr ow o) n
  en : A.en = cnt (ft pr ow) n

theorem cnt_none (f : Nat → Bool) (h : ∀ k, f k = false) (m : Nat) : cnt f m = 0 := cnt_zero.2 (fun k _ => h k)

theorem inv_init (hN : Names n nm ac) : Inv (Abs.init root) root n nm ac (fun _ => false) (fun _ => 0) where
  nr := by simp [Abs.init]
  lr := rfl
  act := fun _ _ h => by cases h
  kid := fun _ _ _ => rfl
  yes := fun _ _ h => by cases h
  no := fun c hc ha _ => by simp [Abs.init, path_root (hN.good c hc ha)]
  nn := by rw [cnt_none _ (fun _ => rfl)]; rfl
  kn := by rw [cnt_none _ (fun _ => rfl)]; rfl
  owd := fun _ _ _ _ => by simp [Abs.init]
  on := fun _ _ => by rw [cnt_none _ (fun _ => by simp [inO])]; rfl
  en := by rw [cnt_none _ (fun _ => by simp [ft, ep])]; rfl

theorem inv_link (h : Inv A root n nm ac pr ow) (hN : Names n nm ac) (hc : c < n) (ha : ac c = true) (hp : pr c = false) (hy : ∀ z, A.live z → z ≠ y) (o : Int) :
    Inv ((A.add y o).link root (nm c) (sl ++ nm c) y) root n nm ac (up pr c true) (upI ow c o) := by
  have hr : root ≠ y := hy root h.lr
  have hpr := path_root (hN.good c hc ha)
  have hown : (A.add y o).own y = o := by simp [Abs.add]
  have ne : ∀ d, d < n → ac d = true → d ≠ c → nm d ≠ nm c := fun d hd hd' e => hN.ne hd hc hd' ha e
  have u1 : ∀ d, d ≠ c → up pr c true d = pr d := fun d e => up_other e
  have u2 : ∀ d, d ≠ c → upI ow c o d = ow d := fun d e => upI_other e
  have fl : cnt (up pr c true) n = cnt pr n + 1 := cnt_flip hc hp up_same u1
  have hap : ∀ B : Abs, B = (A.add y o).put root (nm c) (sl ++ nm c) y ∨ B = ((A.add y o).put root (nm c) (sl ++ nm c) y).give o (sl ++ nm c) →
      B.node sl = some root ∧ B.live root ∧ (∀ d, d < n → ac d = true → B.kids root (nm d) = up pr c true d) ∧
      (∀ d, d < n → up pr c true d = true → ∃ z, B.node (sl ++ nm d) = some z ∧ B.own z = upI ow c o d ∧ B.live z) ∧
      (∀ d, d < n → ac d = true → up pr c true d = false → B.node (sl ++ nm d) = none) ∧ B.nn = cnt (up pr c true) n + 1 ∧ B.kn root = cnt (up pr c true) n := by
    intro B hB
    have e1 : B.node = fun q => if q = sl ++ nm c then some y else A.node q := by rcases hB with rfl | rfl <;> rfl
    have e2 : B.live = fun z => z = y ∨ A.live z := by rcases hB with rfl | rfl <;> rfl
    have e3 : B.kids root = fun s => if s = nm c then true else A.kids root s := by
      funext s
      rcases hB with rfl | rfl <;> simp [Abs.give, Abs.put, Abs.add, hr]
    have e4 : B.own = fun z => if z = y then o else A.own z := by rcases hB with rfl | rfl <;> rfl
    have e5 : B.nn = A.nn + 1 := by rcases hB with rfl | rfl <;> rfl
    have e6 : B.kn root = A.kn root + 1 := by rcases hB with rfl | rfl <;> simp [Abs.give, Abs.put, Abs.add, hr]
    refine ⟨?_, ?_, ?_, ?_, ?_, ?_, ?_⟩
    · rw [e1]; simp [hpr.symm, h.nr]
    · rw [e2]; exact .inr h.lr
    · intro d hd hd'
      rw [e3]
      by_cases q : d = c
      · subst q; simp [up_same]
      · simp [ne d hd hd' q, up_other q, h.kid d hd hd']
    · intro d hd hd'
      by_cases q : d = c
      · subst q
        exact ⟨y, by rw [e1]; simp, by rw [e4, upI_same]; simp, by rw [e2]; exact .inl rfl⟩
      · rw [up_other q] at hd'
        obtain ⟨z, z1, z2, z3⟩ := h.yes d hd hd'
        exact ⟨z, by rw [e1]; simp [path_ne (ne d hd (h.act d hd hd') q), z1], by rw [e4, upI_other q]; simp [hy z z3, z2], by rw [e2]; exact .inr z3⟩
    · intro d hd hd' hd2
      by_cases q : d = c
      · subst q; rw [up_same] at hd2; cases hd2
      · rw [up_other q] at hd2
        rw [e1]; simp [path_ne (ne d hd hd' q), h.no d hd hd' hd2]
    · rw [e5, fl, h.nn]
    · rw [e6, fl, h.kn]
  have hact : ∀ d, d < n → up pr c true d = true → ac d = true := by
    intro d hd hd'
    by_cases q : d = c
    · subst q; exact ha
    · rw [up_other q] at hd'; exact h.act d hd hd'
  unfold Abs.link
  rw [hown]
  by_cases z : o = 0
  · subst z
    rw [if_pos rfl]
    obtain ⟨p1, p2, p3, p4, p5, p6, p7⟩ := hap _ (.inl rfl)
    refine ⟨p1, p2, hact, p3, p4, p5, p6, p7, ?_, ?_, ?_⟩
    · intro d hd hd' o'
      show A.owned o' (sl ++ nm d) = _
      by_cases q : d = c
      · subst q
        rw [h.owd d hd hd', hp, up_same, upI_same]
        by_cases y : (0 : Int) = o'
        · subst y; simp
        · simp [y]
      · rw [h.owd d hd hd', up_other q, upI_other q]
    · intro o' ho'
      show A.on o' = _
      rw [h.on o' ho', inO_other u1 u2 hp upI_same ho']
    · show A.en = _
      rw [h.en, ft_zero u1 u2 hp upI_same]
  · rw [if_neg z]
    obtain ⟨p1, p2, p3, p4, p5, p6, p7⟩ := hap _ (.inr rfl)
    refine ⟨p1, p2, hact, p3, p4, p5, p6, p7, ?_, ?_, ?_⟩
    · intro d hd hd' o'
      by_cases q : d = c
      · subst q
        have := h.owd d hd hd' o'
        rw [hp] at this
        by_cases y : o' = o
        · subst y; simp [Abs.give, up_same, upI_same, z]
        · have y' : ¬ o = o' := fun e => y e.symm
          simp [Abs.give, Abs.put, Abs.add, y, y', up_same, upI_same]
          simpa using this
      · have := h.owd d hd hd' o'
        by_cases y : o' = o
        · subst y; simp [Abs.give, Abs.put, Abs.add, path_ne (ne d hd hd' q), up_other q, upI_other q]; simpa using this
        · simp [Abs.give, Abs.put, Abs.add, y, up_other q, upI_other q]; simpa using this
    · intro o' ho'
      by_cases y : o' = o
      · subst y
        rw [inO_same hc u1 u2 hp up_same upI_same]
        simp [Abs.give, Abs.put, Abs.add, h.on o' ho']
      · rw [inO_other u1 u2 hp upI_same y]
        simp [Abs.give, Abs.put, Abs.add, y, h.on o' ho']
    · rw [ft_on hc u1 u2 hp up_same upI_same z]
      have q1 : (((A.add y o).put root (nm c) (sl ++ nm c) y).give o (sl ++ nm c)).en = if A.on o = 0 then A.en + 1 else A.en := rfl
      rw [q1, h.on o z, h.en]
      by_cases y : cnt (inO pr ow o) n = 0
      · simp [y]
      · simp [y]

theorem inv_unlink (h : Inv A root n nm ac pr ow) (hN : Names n nm ac) (hc : c < n) (hp : pr c = true) (hy : A.node (sl ++ nm c) = some y) :
    Inv (A.unlink root (nm c) (sl ++ nm c) y) root n nm ac (up pr c false) ow := by
  have ha := h.act c hc hp
  have hpr := path_root (hN.good c hc ha)
  have hown : A.own y = ow c := by
    obtain ⟨z, z1, z2, _⟩ := h.yes c hc hp
    rw [hy] at z1; cases z1; exact z2
  have ne : ∀ d, d < n → ac d = true → d ≠ c → nm d ≠ nm c := fun d hd hd' e => hN.ne hd hc hd' ha e
  have u1 : ∀ d, d ≠ c → pr d = up pr c false d := fun d e => (up_other e).symm
  have u2 : ∀ d, d ≠ c → ow d = ow d := fun d _ => rfl
  have fl : cnt pr n = cnt (up pr c false) n + 1 := cnt_flip hc up_same hp u1
  have hap : ∀ B : Abs, B = A.cut root (nm c) (sl ++ nm c) ∨ B = (A.cut root (nm c) (sl ++ nm c)).take (ow c) (sl ++ nm c) →
      B.node sl = some root ∧ B.live root ∧ (∀ d, d < n → ac d = true → B.kids root (nm d) = up pr c false d) ∧
      (∀ d, d < n → up pr c false d = true → ∃ z, B.node (sl ++ nm d) = some z ∧ B.own z = ow d ∧ B.live z) ∧
      (∀ d, d < n → ac d = true → up pr c false d = false → B.node (sl ++ nm d) = none) ∧ B.nn = cnt (up pr c false) n + 1 ∧ B.kn root = cnt (up pr c false) n := by
    intro B hB
    have e1 : B.node = fun q => if q = sl ++ nm c then none else A.node q := by rcases hB with rfl | rfl <;> rfl
    have e2 : B.live = A.live := by rcases hB with rfl | rfl <;> rfl
    have e3 : B.kids root = fun s => if s = nm c then false else A.kids root s := by
      funext s
      rcases hB with rfl | rfl <;> simp [Abs.take, Abs.cut]
    have e4 : B.own = A.own := by rcases hB with rfl | rfl <;> rfl
    have e5 : B.nn = A.nn - 1 := by rcases hB with rfl | rfl <;> rfl
    have e6 : B.kn root = A.kn root - 1 := by rcases hB with rfl | rfl <;> simp [Abs.take, Abs.cut]
    refine ⟨?_, ?_, ?_, ?_, ?_, ?_, ?_⟩
    · rw [e1]; simp [hpr.symm, h.nr]
    · rw [e2]; exact h.lr
    · intro d hd hd'
      rw [e3]
      by_cases q : d = c
      · subst q; simp [up_same]
      · simp [ne d hd hd' q, up_other q, h.kid d hd hd']
    · intro d hd hd'
      by_cases q : d = c
      · subst q; rw [up_same] at hd'; cases hd'
      · rw [up_other q] at hd'
        obtain ⟨z, z1, z2, z3⟩ := h.yes d hd hd'
        exact ⟨z, by rw [e1]; simp [path_ne (ne d hd (h.act d hd hd') q), z1], by rw [e4]; exact z2, by rw [e2]; exact z3⟩
    · intro d hd hd' hd2
      by_cases q : d = c
      · subst q; rw [e1]; simp
      · rw [up_other q] at hd2
        rw [e1]; simp [path_ne (ne d hd hd' q), h.no d hd hd' hd2]
    · rw [e5, h.nn, fl]; rfl
    · rw [e6, h.kn, fl]; rfl
  have hact : ∀ d, d < n → up pr c false d = true → ac d = true := by
    intro d hd hd'
    by_cases q : d = c
    · subst q; exact ha
    · rw [up_other q] at hd'; exact h.act d hd hd'
  unfold Abs.unlink
  rw [hown]
  by_cases z : ow c = 0
  · rw [if_pos z]
    obtain ⟨p1, p2, p3, p4, p5, p6, p7⟩ := hap _ (.inl rfl)
    refine ⟨p1, p2, hact, p3, p4, p5, p6, p7, ?_, ?_, ?_⟩
    · intro d hd hd' o'
      show A.owned o' (sl ++ nm d) = _
      by_cases q : d = c
      · subst q
        rw [h.owd d hd hd', hp, up_same, z]
        by_cases y : (0 : Int) = o'
        · subst y; simp
        · simp [y]
      · rw [h.owd d hd hd', up_other q]
    · intro o' ho'
      show A.on o' = _
      rw [h.on o' ho', inO_other u1 u2 up_same z ho']
    · show A.en = _
      rw [h.en, ft_zero u1 u2 up_same z]
  · rw [if_neg z]
    obtain ⟨p1, p2, p3, p4, p5, p6, p7⟩ := hap _ (.inr rfl)
    refine ⟨p1, p2, hact, p3, p4, p5, p6, p7, ?_, ?_, ?_⟩
    · intro d hd hd' o'
      have := h.owd d hd hd' o'
      by_cases q : d = c
      · subst q
        by_cases y : o' = ow d
        · subst y; simp [Abs.take, up_same]
        · have y' : ¬ ow d = o' := fun e => y e.symm
          simp [Abs.take, Abs.cut, y, up_same]
          rw [this]; simp [y']
      · by_cases y : o' = ow c
        · subst y; simp [Abs.take, Abs.cut, path_ne (ne d hd hd' q), up_other q]; simpa using this
        · simp [Abs.take, Abs.cut, y, up_other q]; simpa using this
    · intro o' ho'
      by_cases y : o' = ow c
      · subst y
        have := inO_same (o := ow c) hc u1 u2 up_same hp rfl
        have h1 := h.on (ow c) ho'
        simp [Abs.take, Abs.cut]
        omega
      · rw [← inO_other u1 u2 up_same rfl y]
        simp [Abs.take, Abs.cut, y, h.on o' ho']
    · have q1 := ft_on (o := ow c) hc u1 u2 up_same hp rfl z
      have q2 := inO_same (o := ow c) hc u1 u2 up_same hp rfl
      have h1 := h.on (ow c) z
      have h2 := h.en
      have q3 : ((A.cut root (nm c) (sl ++ nm c)).take (ow c) (sl ++ nm c)).en = if A.on (ow c) = 1 then A.en - 1 else A.en := rfl
      rw [q3]
      by_cases y : cnt (inO (up pr c false) ow (ow c)) n = 0
      · rw [y] at q2
        rw [if_pos y] at q1
        rw [if_pos (by omega)]; omega
      · rw [if_neg y] at q1
        rw [if_neg (by omega)]; omega
end
end Go.Proofs.Qxb6600164a
