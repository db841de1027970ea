import Derived.Test.Qxb6600164aRead
namespace Go.Proofs.Qxb6600164a
open Go.MapKept
open Go.ChangeShapes Go.WideShapes Go.ChangeAt Go.RowKit

/-! ### The tree on the way -/
/-- The tree in w, on the way from w0. -/
structure Tr (w0 w : World) (B T : Nat) (A : Abs) : Prop where
  rep : Rep w B T A
  bel : Below B w0 w

section
variable {w0 w : World} {B T x y : Nat} {A : Abs} {p s name nm pp : ByteArray} {o : Int}
theorem Tr.below {w' : World} (h : Tr w0 w B T A) (hb : Below w.heap.size w w') : Tr w0 w' B T A := ⟨h.rep.below hb, h.bel.trans (hb.mono h.rep.1)⟩
theorem t_new (h : Tr w0 w B T A) (o : Int) : Calls Try.prog 7 #[.int .i64 o] w fun e w' => ∃ x, e = .returned (.pointer (some ⟨x, 0, none⟩)) ∧ (∀ y, A.live y → y ≠ x) ∧ Tr w0 w' B T (A.add x o) :=
  (new7 o w).mono fun _ _ ⟨he, hn, hb, _⟩ => ⟨w.heap.size, he, fun _ hy => Nat.ne_of_lt (h.rep.lt hy), h.rep.add hb hn, h.bel.trans (hb.mono h.rep.1)⟩
theorem t_root (w : World) : Calls Try.prog 7 #[.int .i64 0] w fun e w' => e = .returned (.pointer (some ⟨w.heap.size, 0, none⟩)) ∧ NewNode w' w.heap.size 0 ∧ Below w.heap.size w w' :=
  (new7 0 w).mono fun _ _ ⟨he, hn, hb, _⟩ => ⟨he, hn, hb⟩
theorem t_tree {x : Nat} (hx : NewNode w x 0) (hl : x = w0.heap.size) (hb : Below w0.heap.size w0 w) : Calls Try.prog 8 #[.pointer (some ⟨x, 0, none⟩)] w fun e w' => ∃ T, e = .returned (.pointer (some ⟨T, 0, none⟩)) ∧ Tr w0 w' w0.heap.size T (Abs.init x) :=
  (tree8 (B := w0.heap.size) (Nat.le_of_eq hl.symm) hx).mono fun _ _ ⟨⟨T, he, hr⟩, hb'⟩ => ⟨T, he, hr, hb.trans (hb'.mono hb.size)⟩
theorem t_link (h : Tr w0 w B T A) (hx : A.live x) (hy : A.live y) (hp : A.node p = none) (hn : A.kids x name = false) (hw : A.owned (A.own y) p = false) :
    Calls Try.prog 9 #[.pointer (some ⟨T, 0, none⟩), .pointer (some ⟨x, 0, none⟩), .string name, .string p, .pointer (some ⟨y, 0, none⟩)] w fun e w' => e = .returned (.tuple #[]) ∧ Tr w0 w' B T (A.link x name p y) :=
  (link9 h.rep hx hy hp hn hw).mono fun _ _ ⟨he, hr, hb⟩ => ⟨he, hr, h.bel.trans hb⟩
theorem t_unlink (h : Tr w0 w B T A)
    (hsp : ∀ w, Calls Try.prog 26 #[.string p] w fun e w' => e = .returned (.tuple #[.string pp, .string nm]) ∧ Below w.heap.size w w' ∧ w'.heap.size = w.heap.size)
    (hx : A.node pp = some x) (hn : A.kids x nm = true) (hy : A.node p = some y) (hw : A.own y ≠ 0 → A.owned (A.own y) p = true) :
    Calls Try.prog 17 #[.pointer (some ⟨T, 0, none⟩), .string p] w fun e w' => e = .returned (.tuple #[]) ∧ Tr w0 w' B T (A.unlink x nm p y) :=
  (unlink17 h.rep (hsp w) hx hn hy hw).mono fun _ _ ⟨he, hr, hb⟩ => ⟨he, hr, h.bel.trans hb⟩
theorem t_count (h : Tr w0 w B T A) {v : Nat} (e : A.nn = v) : Calls Try.prog 10 #[.pointer (some ⟨T, 0, none⟩)] w fun e w' => e = .returned (.int .i64 v) ∧ Tr w0 w' B T A :=
  (count10 h.rep).mono fun _ _ ⟨he, hr⟩ => ⟨by rw [he, e], by rw [hr]; exact h⟩
theorem t_owners (h : Tr w0 w B T A) {v : Nat} (e : A.en = v) : Calls Try.prog 11 #[.pointer (some ⟨T, 0, none⟩)] w fun e w' => e = .returned (.int .i64 v) ∧ Tr w0 w' B T A :=
  (owners11 h.rep).mono fun _ _ ⟨he, hr⟩ => ⟨by rw [he, e], by rw [hr]; exact h⟩
theorem t_kids (h : Tr w0 w B T A) (hx : A.live x) {v : Nat} (e : A.kn x = v) : Calls Try.prog 12 #[.pointer (some ⟨x, 0, none⟩)] w fun e w' => e = .returned (.int .i64 v) ∧ Tr w0 w' B T A :=
  (kids12 h.rep hx).mono fun _ _ ⟨he, hr⟩ => ⟨by rw [he, e], by rw [hr]; exact h⟩
theorem t_owned (h : Tr w0 w B T A) {v : Nat} (e : A.on o = v) : Calls Try.prog 13 #[.pointer (some ⟨T, 0, none⟩), .int .i64 o] w fun e w' => e = .returned (.int .i64 v) ∧ Tr w0 w' B T A :=
  (owned13 h.rep).mono fun _ _ ⟨he, hr⟩ => ⟨by rw [he, e], by rw [hr]; exact h⟩
theorem t_at (h : Tr w0 w B T A) (e : A.node p = some x) : Calls Try.prog 14 #[.pointer (some ⟨T, 0, none⟩), .string p] w fun e w' => e = .returned (.pointer (some ⟨x, 0, none⟩)) ∧ Tr w0 w' B T A :=
  (nodeAt14 h.rep).mono fun _ _ ⟨he, hr⟩ => ⟨by rw [he, e]; rfl, by rw [hr]; exact h⟩
theorem t_gone (h : Tr w0 w B T A) (e : A.node p = none) : Calls Try.prog 14 #[.pointer (some ⟨T, 0, none⟩), .string p] w fun e w' => e = .returned (.pointer none) ∧ Tr w0 w' B T A :=
  (nodeAt14 h.rep).mono fun _ _ ⟨he, hr⟩ => ⟨by rw [he, e]; rfl, by rw [hr]; exact h⟩
theorem t_has (h : Tr w0 w B T A) (hx : A.live x) {v : Bool} (e : A.kids x s = v) : Calls Try.prog 15 #[.pointer (some ⟨x, 0, none⟩), .string s] w fun e w' => e = .returned (.bool v) ∧ Tr w0 w' B T A :=
  (hasChild15 h.rep hx).mono fun _ _ ⟨he, hr⟩ => ⟨by rw [he, e], h.below hr⟩
theorem t_owns (h : Tr w0 w B T A) {v : Bool} (e : A.owned o s = v) : Calls Try.prog 16 #[.pointer (some ⟨T, 0, none⟩), .int .i64 o, .string s] w fun e w' => e = .returned (.bool v) ∧ Tr w0 w' B T A :=
  (owns16 h.rep).mono fun _ _ ⟨he, hr⟩ => ⟨by rw [he, e], h.below hr⟩
theorem t_own (h : Tr w0 w B T A) (hx : A.live x) {v : Int} (e : A.own x = v) : Calls Try.prog 18 #[.pointer (some ⟨x, 0, none⟩)] w fun e w' => e = .returned (.int .i64 v) ∧ Tr w0 w' B T A :=
  (ownerOf18 h.rep hx).mono fun _ _ ⟨he, hr⟩ => ⟨by rw [he, e], by rw [hr]; exact h⟩
end

/-! ### What is known of the tree in the law -/
structure FB (A : Abs) (root d : Nat) (dir D : ByteArray) (nn en kc : Nat) : Prop where
  lr : A.live root
  ld : A.live d
  nr : A.node sl = some root
  nd : A.node D = some d
  kr : A.kids root dir = true
  od : A.own d = 0
  nn : A.nn = nn
  en : A.en = en
  kd : A.kn d = kc
  k1 : A.kn root = 1
structure FS (A : Abs) (d s : Nat) (sib S : ByteArray) (so : Int) : Prop where
  ls : A.live s
  ns : A.node S = some s
  ks : A.kids d sib = true
  os : A.own s = so
  ow : so ≠ 0 → A.owned so S = true
structure FO (A : Abs) (d : Nat) (name P : ByteArray) (o so : Int) (oc soc : Nat) : Prop where
  np : A.node P = none
  kn : A.kids d name = false
  ow : A.owned o P = false
  on : A.on o = oc
  son : A.on so = soc

section
variable {root d s n : Nat} {dir D sib S name P : ByteArray} {so o : Int} {X : Abs} {nn en kc oc soc : Nat}
def A2 (root d : Nat) (dir D : ByteArray) : Abs := ((Abs.init root).add d 0).link root dir D d

theorem A2_eq : A2 root d dir D = ((Abs.init root).add d 0).put root dir D d := by simp [A2, Abs.link, Abs.add]
theorem fb_A2 (h : root ≠ d) (hD : D ≠ sl) : FB (A2 root d dir D) root d dir D 2 0 0 := by
  rw [A2_eq]
  constructor <;> simp [Abs.put, Abs.add, Abs.init, h, h.symm, hD.symm]
theorem fo_A2 (h : root ≠ d) (hP : P ≠ sl) (hPD : P ≠ D) : FO (A2 root d dir D) d name P o so 0 0 := by
  rw [A2_eq]
  constructor <;> simp [Abs.put, Abs.add, Abs.init, h.symm, hP, hPD]

/-- One more child of d. -/
def A3 (X : Abs) (d s : Nat) (sib S : ByteArray) (so : Int) : Abs := (X.add s so).link d sib S s
theorem A3_own : (X.add s so).own s = so := by simp [Abs.add]

theorem fb_A3 (h : FB X root d dir D nn en kc) (hsr : root ≠ s) (hsd : d ≠ s) (hrd : root ≠ d) (h1 : D ≠ S) (h2 : sl ≠ S) (f : X.on so = oc) :
    FB (A3 X d s sib S so) root d dir D (nn + 1) (if so ≠ 0 ∧ oc = 0 then en + 1 else en) (kc + 1) := by
  unfold A3 Abs.link
  rw [A3_own]
  by_cases z : so = 0
  · rw [if_pos z]
    constructor <;> simp [Abs.put, Abs.add, z, hsr, hsd, hrd, h1, h2, h.lr, h.ld, h.nr, h.nd, h.kr, h.od, h.nn, h.en, h.kd, h.k1]
  · rw [if_neg z]
    constructor <;> simp [Abs.give, Abs.put, Abs.add, z, hsr, hsd, hrd, h1, h2, h.lr, h.ld, h.nr, h.nd, h.kr, h.od, h.nn, h.en, h.kd, h.k1, f]
theorem fs_A3 : FS (A3 X d s sib S so) d s sib S so := by
  unfold A3 Abs.link
  rw [A3_own]
  by_cases z : so = 0
  · rw [if_pos z]
    constructor <;> simp [Abs.put, Abs.add, z]
  · rw [if_neg z]
    constructor <;> simp [Abs.give, Abs.put, Abs.add]
theorem fo_A3 (h : FO X d name P o so oc soc) (hsd : d ≠ s) (h1 : P ≠ S) (h2 : name ≠ sib) :
    FO (A3 X d s sib S so) d name P o so (if so ≠ 0 ∧ o = so then soc + 1 else oc) (if so ≠ 0 then soc + 1 else soc) := by
  unfold A3 Abs.link
  rw [A3_own]
  by_cases z : so = 0
  · rw [if_pos z]
    constructor <;> simp [Abs.put, Abs.add, z, hsd, h1, h2, h.np, h.kn, h.ow, h.on]
    rw [← z]; exact h.son
  · rw [if_neg z]
    by_cases q : o = so
    · have hson := h.son
      have how := h.ow
      subst q
      constructor <;> simp [Abs.give, Abs.put, Abs.add, z, hsd, h1, h2, h.np, h.kn, how, hson]
    · constructor <;> simp [Abs.give, Abs.put, Abs.add, z, q, hsd, h1, h2, h.np, h.kn, h.ow, h.on, h.son]

/-- .. and out again. -/
def A6 (X : Abs) (d n : Nat) (name P : ByteArray) (o : Int) : Abs := (A3 X d n name P o).unlink d name P n
theorem A6_own : (A3 X d n name P o).own n = o := by
  unfold A3 Abs.link
  rw [A3_own]
  by_cases z : o = 0
  · rw [if_pos z]; simp [Abs.put, Abs.add]
  · rw [if_neg z]; simp [Abs.give, Abs.put, Abs.add]

theorem A6_like (hd : d ≠ n) (f : FO X d name P o so oc soc) : (A6 X d n name P o).node = X.node ∧ (A6 X d n name P o).nn = X.nn ∧ (∀ y, y ≠ n → (A6 X d n name P o).kids y = X.kids y ∧ (A6 X d n name P o).kn y = X.kn y ∧ (A6 X d n name P o).own y = X.own y) ∧
    (A6 X d n name P o).owned = X.owned ∧ (A6 X d n name P o).on = X.on ∧ (A6 X d n name P o).en = X.en ∧ (∀ y, X.live y → (A6 X d n name P o).live y) := by
  have np := f.np
  have kn := f.kn
  have ow := f.ow
  unfold A6 Abs.unlink
  rw [A6_own]
  unfold A3 Abs.link
  rw [A3_own]
  have nodes : (fun q => if q = P then none else if q = P then some n else X.node q) = X.node := by
    funext q
    by_cases e : q = P
    · rw [e, np]; simp
    · simp [e]
  by_cases z : o = 0
  · rw [if_pos z, if_pos z]
    refine ⟨nodes, by simp [Abs.cut, Abs.put, Abs.add], fun y hy => ⟨?_, ?_, by simp [Abs.cut, Abs.put, Abs.add, hy]⟩, rfl, rfl, rfl, fun y hy => .inr hy⟩
    · funext q
      by_cases e : y = d
      · subst e
        by_cases e2 : q = name
        · subst e2; simp [Abs.cut, Abs.put, Abs.add, kn]
        · simp [Abs.cut, Abs.put, Abs.add, e2, hd]
      · simp [Abs.cut, Abs.put, Abs.add, e, hy]
    · by_cases e : y = d
      · subst e; simp [Abs.cut, Abs.put, Abs.add, hd]
      · simp [Abs.cut, Abs.put, Abs.add, e, hy]
  · rw [if_neg z, if_neg z]
    refine ⟨nodes, by simp [Abs.cut, Abs.put, Abs.add, Abs.take, Abs.give], fun y hy => ⟨?_, ?_, by simp [Abs.cut, Abs.put, Abs.add, Abs.take, Abs.give, hy]⟩, ?_, ?_, ?_, fun y hy => .inr hy⟩
    · funext q
      by_cases e : y = d
      · subst e
        by_cases e2 : q = name
        · subst e2; simp [Abs.cut, Abs.put, Abs.add, Abs.take, Abs.give, kn]
        · simp [Abs.cut, Abs.put, Abs.add, Abs.take, Abs.give, e2, hd]
      · simp [Abs.cut, Abs.put, Abs.add, Abs.take, Abs.give, e, hy]
    · by_cases e : y = d
      · subst e; simp [Abs.cut, Abs.put, Abs.add, Abs.take, Abs.give, hd]
      · simp [Abs.cut, Abs.put, Abs.add, Abs.take, Abs.give, e, hy]
    · funext q t
      by_cases e : q = o
      · subst e
        by_cases e2 : t = P
        · subst e2; simp [Abs.cut, Abs.put, Abs.add, Abs.take, Abs.give, ow]
        · simp [Abs.cut, Abs.put, Abs.add, Abs.take, Abs.give, e2]
      · simp [Abs.cut, Abs.put, Abs.add, Abs.take, Abs.give, e]
    · funext q
      by_cases e : q = o
      · subst e; simp [Abs.cut, Abs.put, Abs.add, Abs.take, Abs.give]
      · simp [Abs.cut, Abs.put, Abs.add, Abs.take, Abs.give, e]
    · by_cases e : X.on o = 0
      · simp [Abs.cut, Abs.put, Abs.add, Abs.take, Abs.give, e]
      · simp [Abs.cut, Abs.put, Abs.add, Abs.take, Abs.give, e]

theorem fb_A6 (h : FB X root d dir D nn en kc) (f : FO X d name P o so oc soc) (hr : root ≠ n) (hd : d ≠ n) : FB (A6 X d n name P o) root d dir D nn en kc := by
  obtain ⟨a1, a2, a3, a4, a5, a6, a7⟩ := A6_like (n := n) hd f
  obtain ⟨r1, r2, r3⟩ := a3 root hr
  obtain ⟨d1, d2, d3⟩ := a3 d hd
  exact ⟨a7 _ h.lr, a7 _ h.ld, by rw [a1]; exact h.nr, by rw [a1]; exact h.nd, by rw [r1]; exact h.kr, by rw [d3]; exact h.od, by rw [a2]; exact h.nn, by rw [a6]; exact h.en, by rw [d2]; exact h.kd, by rw [r2]; exact h.k1⟩
theorem fs_A6 (h : FS X d s sib S so) (f : FO X d name P o so oc soc) (hd : d ≠ n) (hs : s ≠ n) : FS (A6 X d n name P o) d s sib S so := by
  obtain ⟨a1, a2, a3, a4, a5, a6, a7⟩ := A6_like (n := n) hd f
  obtain ⟨r1, r2, r3⟩ := a3 s hs
  obtain ⟨d1, d2, d3⟩ := a3 d hd
  exact ⟨a7 _ h.ls, by rw [a1]; exact h.ns, by rw [d1]; exact h.ks, by rw [r3]; exact h.os, fun z => by rw [a4]; exact h.ow z⟩
theorem fo_A6 (f : FO X d name P o so oc soc) (hd : d ≠ n) : FO (A6 X d n name P o) d name P o so oc soc := by
  obtain ⟨a1, a2, a3, a4, a5, a6, a7⟩ := A6_like (n := n) hd f
  obtain ⟨d1, d2, d3⟩ := a3 d hd
  exact ⟨by rw [a1]; exact f.np, by rw [d1]; exact f.kn, by rw [a4]; exact f.ow, by rw [a5]; exact f.on, by rw [a5]; exact f.son⟩

/-- The sibling goes. -/
theorem fb_A7 (h : FB X root d dir D (nn + 1) en (kc + 1)) (f : FS X d s sib S so) (hrd : root ≠ d) (h1 : D ≠ S) (h2 : sl ≠ S) (hso : X.on so = soc) :
    FB (X.unlink d sib S s) root d dir D nn (if so ≠ 0 ∧ soc = 1 then en - 1 else en) kc := by
  unfold Abs.unlink
  rw [f.os]
  by_cases z : so = 0
  · rw [if_pos z]
    constructor <;> simp [Abs.cut, z, hrd, h1, h2, h.lr, h.ld, h.nr, h.nd, h.kr, h.od, h.nn, h.en, h.kd, h.k1]
  · rw [if_neg z]
    constructor <;> simp [Abs.take, Abs.cut, z, hrd, h1, h2, h.lr, h.ld, h.nr, h.nd, h.kr, h.od, h.nn, h.en, h.kd, h.k1, hso]

/-- The directory goes. -/
theorem A8_eq (h : FB X root d dir D nn en kc) : X.unlink root dir D d = X.cut root dir D := by simp [Abs.unlink, h.od]
end
end Go.Proofs.Qxb6600164a
