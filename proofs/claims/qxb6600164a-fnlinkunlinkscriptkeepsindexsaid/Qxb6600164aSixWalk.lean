import Derived.Test.Qxb6600164aSixBase
import Derived.Deep.RegionHeld3
import Derived.Test.Qxb6600164aFiveBase
namespace Go.Proofs.Qxb6600164a
open Go.MapKept
open Go.ChangeShapes Go.WideShapes Go.ChangeAt Go.RowKit

/-- True, and all that stood before stands as it was. -/
def Fine (w : World) (e : Ending) (w' : World) : Prop := e = .returned (.bool true) ∧ Below w.heap.size w w'
theorem Fine.mk {w w' : World} {v : Value} (h : v = .bool true) (hb : Below w.heap.size w w') : Fine w (.returned v) w' := ⟨by rw [h], hb⟩

/-- What is known of canon. -/
def Canon (nm : Nat → ByteArray) (cn : Nat → Nat) (k : Nat) : Prop := ∀ j, j < k → cn j ≤ j ∧ (cn j = j → ∀ i, i < j → nm i ≠ nm j)
theorem OurS.below {w w' : World} {g len : Nat} {ao : Option Addr} {f : Nat → Value} (h : OurS w g ao len f) (b : Below w.heap.size w w') : OurS w' g ao len f := fun h0 => ⟨(h h0).1, (h h0).2.below' b⟩
theorem toList_eq' {a b : ByteArray} (h : a = b) : (a.toList == b.toList) = true := by subst h; simp
theorem Canon.set {nm : Nat → ByteArray} {cn : Nat → Nat} {k t : Nat} (h : Canon nm cn k) (ht : t ≤ k) (hf : t = k → ∀ i, i < k → nm i ≠ nm k) : Canon nm (fun j => if j = k then t else cn j) (k + 1) := by
  intro j hj
  show (if j = k then t else cn j) ≤ j ∧ ((if j = k then t else cn j) = j → _)
  by_cases e : j = k
  · subst e
    rw [if_pos rfl]
    exact ⟨ht, hf⟩
  · rw [if_neg e]; exact h j (by omega)

/-- Path k of the law: empty where the name is skipped. -/
def pth (nm : Nat → ByteArray) (ac : Nat → Bool) (k : Nat) : ByteArray := if ac k then sl ++ nm k else ⟨#[]⟩
theorem pth_up {nm : Nat → ByteArray} {ac : Nat → Bool} {k j : Nat} : pth nm (up ac k true) j = if j = k then sl ++ nm k else pth nm ac j := by
  by_cases e : j = k
  · subst e; simp [pth, up]
  · simp [pth, up, e]
theorem path_toList (a : ByteArray) : ¬ (sl ++ a).toList = [] := by
  rw [ByteArray.toList_eq]
  intro h
  have := congrArg List.length h
  have hz : (sl ++ a).size = sl.size + a.size := ByteArray.size_append
  rw [size_sl] at hz
  have hz2 : (sl ++ a).data.toList.length = (sl ++ a).size := rfl
  rw [hz2, hz] at this
  simp at this
theorem empty_toList : (⟨#[]⟩ : ByteArray).toList = [] := by rw [ByteArray.toList_eq]
theorem Rep.low {w : World} {B T : Nat} {A : Abs} (h : Rep w B T A) {b k : Nat} (hb : b < B) (v : Value) : Rep (w.setCell ⟨b, k, none⟩ v) B T A :=
  h.same (by rw [size_setCell]; exact Nat.le_refl _) (fun c hc _ => Below.heap_setCell _ _ _ _ (by show c ≠ b; omega))
theorem cell_kept {w w' : World} {b k : Nat} {v : Value} (h : w.cell? ⟨b, k, none⟩ = some v) (hb : Below w.heap.size w w') : w'.cell? ⟨b, k, none⟩ = some v := by
  rw [cell_same (hb.block b (cell_lt h))]; exact h
theorem new51 {w : World} {B T x : Nat} {A : Abs} (h : Rep w B T A) (hx : x = w.heap.size) (o : Int) :
    Calls Try.prog 7 #[.int .i64 o] w.drew fun e w' => e = .returned (.pointer (some ⟨x, 0, none⟩)) ∧ Rep w' B T (A.add x o) ∧ Below w.heap.size w w' := by
  subst hx
  refine (new7 o w.drew).mono fun _ w' ⟨he, hn, hb, _⟩ => ?_
  have h' : Rep w.drew B T A := h.same (Nat.le_refl _) (fun _ _ _ => rfl)
  exact ⟨he, h'.add hb hn, (Below.refl _ _).drew.trans hb⟩

section
variable {P : Program} {ops : Array Oper} {C : World → Prop} {Q : Act → Prop} {a : Act} {o : Oper} {rest : List Oper}
/-- One operation of a quiet walk: its value named. -/
theorem q_val (v : Value) (hw : Region.wanted o (yielded ops a.tmps) = true) (h : ∀ w, C w → (execOp a.eval o).run P w = .ok (.value v) w) (hk : wpQuiet P ops C Q rest (a.put o.dst v)) : wpQuiet P ops C Q (o :: rest) a :=
  wpQuiet_step fun K hK => by
    rw [if_pos hw]
    exact ⟨v, fun w hC => by unfold Oper.quietAt; rw [h w hC]; exact ⟨rfl, rfl⟩, hK _ hk⟩
/-- .. one whose guard says no. -/
theorem q_skip (hw : Region.wanted o (yielded ops a.tmps) = false) (hk : wpQuiet P ops C Q rest (a.put o.dst undef)) : wpQuiet P ops C Q (o :: rest) a :=
  wpQuiet_step fun K hK => by
    rw [if_neg (by rw [hw]; exact Bool.false_ne_true)]
    exact hK _ hk
/-- .. a call. -/
theorem q_call (v : Value) (f : FuncId) (args : Array Value) (hw : Region.wanted o (yielded ops a.tmps) = true) (h : ∀ w, C w → (execOp a.eval o).run P w = .ok (.enter f args) w)
    (hc : ∀ w, C w → Calls P f args w fun e w' => e = .returned v ∧ C w') (hk : wpQuiet P ops C Q rest (a.put o.dst v)) : wpQuiet P ops C Q (o :: rest) a :=
  wpQuiet_step fun K hK => by
    rw [if_pos hw]
    exact ⟨v, fun w hC => by unfold Oper.quietAt; rw [h w hC]; exact ⟨rfl, hc w hC⟩, hK _ hk⟩
end

set_option maxHeartbeats 8000000 in
set_option maxRecDepth 100000 in
theorem six_some (ao bo co : Option Addr) (n lb lc ca cb cc : Nat) (nm : Nat → ByteArray) (owf : Nat → Int) (opf : Nat → Nat) (W : World)
    (hn : InS W ao n (fun k => .string (nm k))) (hb : InS W bo lb (fun k => .int .i64 (owf k))) (hc : InS W co lc (fun k => .int .u16 (opf k)))
    (hsz : ∀ k, k < n → (nm k).size ≤ maxLen) (n0 : 0 < n) (n1 : n ≤ 4096) (lb1 : lb ≤ 65536) (lc1 : lc ≤ 65536) (hop : ∀ k, k < lc → opf k < 65536) :
    Calls Try.prog 4 #[.slice ao n ca, .slice bo lb cb, .slice co lc cc] W (Fine W) := by
  have Z := zz19 ao bo co n lb lc ca cb cc nm W hn hsz (by unfold maxLen; omega) (by unfold maxLen; omega) (by unfold maxLen; omega)
  obtain ⟨i3, hi3, hz30, hz31, hz32⟩ := info_parts Try.info3
  obtain ⟨i9, hi9, hz90, hz91, hz92⟩ := info_parts Try.info9
  obtain ⟨i4, hi4, hz40, hz41, hz42⟩ := info_parts Try.info4
  obtain ⟨i2, hi2, hz20, hz21, hz22⟩ := info_parts Try.info2
  have hn' : Hid (InS W ao n (fun k => .string (nm k))) := hn
  clear hsz
  obtain ⟨a, rfl, ha, hcell⟩ : ∃ a, ao = some a ∧ (0 < n → a = ⟨a.block, a.off, none⟩) ∧ ∀ k, k < n → W.cell? ⟨a.block, a.off + k, none⟩ = some (.string (nm k)) := by
    rcases hn with ⟨_, h⟩ | h
    · omega
    · exact h
  obtain ⟨b0, off0, sp⟩ := a
  obtain rfl : sp = none := by have := ha n0; cases this; rfl
  clear ha hn
  have n1' : (n : Int) ≤ 4096 := by omega
  have lb1' : (lb : Int) ≤ 65536 := by omega
  have lc1' : (lc : Int) ≤ 65536 := by omega
  have n0' : ((n : Int) == 0) = false := by simp; omega
  go_enter Try.func4, Try.ntmps4
  go_wp2_with fail
  refine Z.mono ?_
  rintro _ _ ⟨⟨r, rfl, hr⟩, rfl⟩
  clear Z
  cases r
  · go_wp2
    go_ret
    exact .mk rfl (Below.refl _ _)
  rename World => W
  have hsz : Hid (∀ k, k < n → (nm k).size ≤ 1048576) := hr rfl
  clear hr
  go_wp2_with fail
  go_loopw [7, 8] (fun s i wr => wr = W ∧ ∃ k z : Nat, k ≤ n ∧ i = .int .i64 k ∧ s = .int .i64 z ∧ z ≤ 1048576 ∧ 16 ≤ z ∧ Hid (∀ j, j < k → (nm j).size + 16 ≤ z)) (fun s i _ => n - (intOf i).toNat)
  case atStart => exact ⟨rfl, 0, 16 * n + 8 * lb + 2 * lc, by omega, rfl, by simp, by omega, by omega, fun j hj => absurd hj (by omega)⟩
  case round =>
    obtain ⟨hwr, k, z, hk, rfl, rfl, hz, hz16, hsm⟩ := hrel
    obtain rfl : W = wr := hwr.symm
    by_cases hlt : k < n
    · have c0 := hcell k hlt
      have hs0 := hsz.out k hlt
      clear hcell
      by_cases hbig : 1048576 < z + (nm k).size
      · go_wp2
        go_ret
        exact .mk rfl (Below.refl _ _)
      · go_wp2
        go_round
        case rel => exact ⟨trivial, k + 1, z + (nm k).size, by omega, by go_num, by go_num, by omega, by omega, fun j hj => by
          by_cases e : j = k
          · subst e; omega
          · have := hsm.out j (by omega); omega⟩
        case measure => simp [intOf]; omega
    · obtain rfl : n = k := by omega
      have hs16 : Hid (∀ j, j < n → (nm j).size + 16 ≤ 1048576) := fun j hj => by have := hsm.out j hj; omega
      clear hsm
      have hzz : ¬ (1048576 : Int) < (z : Int) := by omega
      clear hcell hlt
      go_wp2_with fail
      refine (clone20 _ n ca nm W hn'.out (by omega)).mono ?_
      rintro _ w1 ⟨ao', ca', rfl, o1, b1⟩
      obtain ⟨rfl, r1⟩ := o1 n0
      clear o1 hn'
      go_wp2_with fail
      refine (clone21 bo lb cb owf w1 (hb.below b1) (by omega)).mono ?_
      rintro _ w2 ⟨bo', cb', rfl, o2, b2⟩
      have b12 := b1.trans (b2.mono b1.size)
      go_wp2_with fail
      refine (clone22 co lc cc opf w2 (hc.below b12) (by omega)).mono ?_
      rintro _ w3 ⟨co', cc', rfl, o3, b3⟩
      have N3 := (r1.below' b2).below' b3
      have O3 := o2.below b3
      have bW := b12.trans (b3.mono b12.size)
      clear r1 o2 b1 b2 b3 b12 hb hc
      go_wp2_with (at_make; refine wpList_make_full _ rfl _ _ 44 rfl w3.heap.size 3 i3 _ 1 Try.underlying44 hi3 hz30 hz31 .i64 .i64 _ _ n rfl rfl rfl rfl (by rw [hz32]; omega) (by unfold maxLen; omega) (by omega) ?_; intro w4 hown hgrow)
      have C4 := Arr.made rfl hown
      have b4 : Below w3.heap.size w3 w4 := (Below.refl _ _).grown hgrow (Nat.le_refl _) (fun _ h => by cases h)
      clear hown hgrow hi3 hz30 hz31 hz32
      go_loopw [11] (fun i wr => ∃ (k : Nat) (cn : Nat → Nat), k ≤ n ∧ i = .int .i64 k ∧ Hid (Canon nm cn k) ∧ Arr wr w3.heap.size n (fun j => .int .i64 (cn j)) ∧ Below w3.heap.size w3 wr) (fun i _ => n - (intOf i).toNat)
      case atStart => exact ⟨0, fun _ => 0, by omega, rfl, fun j hj => absurd hj (by omega), C4.congr (fun _ _ => rfl), b4⟩
      case round =>
        rename World => w5
        obtain ⟨k, cn, hk, rfl, hcn, C5, b5⟩ := hrel
        by_cases hlt : k < n
        · have hlt' : (k : Int) < (n : Int) := by omega
          obtain ⟨y0, hy0⟩ := C5.row.cell hlt
          have fr5 := C5.free
          have C6 : Arr (w5.setCell ⟨w3.heap.size, k, none⟩ (.int .i64 k)) w3.heap.size n (fun j => .int .i64 ((if j = k then k else cn j : Nat) : Int)) :=
            (C5.set hlt _).congr (fun j _ => by by_cases e : j = k <;> simp [e])
          have b6 : Below w3.heap.size w3 (w5.setCell ⟨w3.heap.size, k, none⟩ (.int .i64 k)) := b5.setCell (p := ⟨w3.heap.size, k, none⟩) (Nat.le_refl _) _
          clear C5 b5 C4 b4
          go_wp2_with fail
          generalize w5.setCell ⟨w3.heap.size, k, none⟩ (.int .i64 k) = w6 at *
          clear hy0 fr5
          go_loopw [12] (fun i wr => ∃ t : Nat, t ≤ k ∧ i = .int .i64 t ∧ Hid (∀ j, j < t → nm j ≠ nm k) ∧ Arr wr w3.heap.size n (fun j => .int .i64 ((if j = k then k else cn j : Nat) : Int)) ∧ Below w3.heap.size w3 wr) (fun i _ => k - (intOf i).toNat)
          case atStart => exact ⟨0, by omega, rfl, fun j hj => absurd hj (by omega), C6, b6⟩
          case round =>
            obtain ⟨t, ht, rfl, hne, C7, b7⟩ := hrel
            clear C6 b6
            rename World => w7
            by_cases hlt2 : t < k
            · have hlt2' : (t : Int) < (k : Int) := by omega
              have hlt3 : (t : Int) < (n : Int) := by omega
              have e1 := (N3.below b7 N3.lt).at' t (by omega)
              have e2 := (N3.below b7 N3.lt).at' k hlt
              by_cases q : nm t = nm k
              · have q' := toList_eq' q
                obtain ⟨y0, hy0⟩ := C7.row.cell hlt
                have fr7 := C7.free
                have C8 : Arr (w7.setCell ⟨w3.heap.size, k, none⟩ (.int .i64 t)) w3.heap.size n (fun j => .int .i64 ((if j = k then t else cn j : Nat) : Int)) :=
                  (C7.set hlt _).congr (fun j _ => by by_cases e : j = k <;> simp [e])
                have b8 : Below w3.heap.size w3 (w7.setCell ⟨w3.heap.size, k, none⟩ (.int .i64 t)) := b7.setCell (p := ⟨w3.heap.size, k, none⟩) (Nat.le_refl _) _
                have hcn2 : Hid (Canon nm (fun j => if j = k then t else cn j) (k + 1)) := hcn.out.set (by omega) (fun h => absurd h (by omega))
                clear C7 b7 hcn hne q
                go_wp2
                go_quiet (fail)
                go_wp2
                go_round
                case rel => exact ⟨k + 1, _, by omega, by go_num, hcn2, C8.same rfl, below_drewN b8 _⟩
                case measure => simp [intOf]; omega
              · have q' := toList_ne q
                have hne2 : Hid (∀ j, j < t + 1 → nm j ≠ nm k) := fun j hj => by
                  by_cases e : j = t
                  · rw [e]; exact q
                  · exact hne.out j (by omega)
                clear hcn hne q
                go_wp2
                go_quiet (fail)
                go_wp2
                go_round
                case rel => exact ⟨t + 1, by omega, by go_num, hne2, C7.same rfl, below_drewN b7 _⟩
                case measure => simp [intOf]; omega
            · obtain rfl : k = t := by omega
              have hcn2 : Hid (Canon nm (fun j => if j = k then k else cn j) (k + 1)) := hcn.out.set (by omega) (fun _ => hne.out)
              clear hcn hne
              go_wp2
              go_round
              case rel => exact ⟨k + 1, _, by omega, by go_num, hcn2, C7, b7⟩
              case measure => simp [intOf]; omega
        · obtain rfl : n = k := by omega
          clear C4 b4
          go_wp2_with (at_make; refine wpList_make_full _ rfl _ _ 37 rfl w5.heap.size 9 i9 _ 1 Try.underlying37 hi9 hz90 hz91 .i64 .i64 _ _ n rfl rfl rfl rfl (by rw [hz92]; omega) (by unfold maxLen; omega) (by omega) ?_; intro w6 hown hgrow)
          have P6 := Arr.made rfl hown
          have b6 : Below w5.heap.size w5 w6 := (Below.refl _ _).grown hgrow (Nat.le_refl _) (fun _ h => by cases h)
          clear hown hgrow hi9 hz90 hz91 hz92
          go_loopw [14] (fun i wr => ∃ (k : Nat) (ac : Nat → Bool), k ≤ n ∧ i = .int .i64 k ∧ Hid (∀ j, j < n → ac j = true → j < k ∧ cn j = j ∧ Good (nm j)) ∧ Arr wr w5.heap.size n (fun j => .string (pth nm ac j)) ∧ Below w5.heap.size w5 wr) (fun i _ => n - (intOf i).toNat)
          case atStart => exact ⟨0, fun _ => false, by omega, rfl, fun j _ h => (by cases h), P6.congr (fun _ _ => rfl), b6⟩
          case round =>
            rename World => w7
            obtain ⟨k, ac, hk, rfl, hac, P7, b7⟩ := hrel
            clear P6 b6
            have N7 := (N3.below b5 N3.lt).below' b7
            have C7 := C5.below' b7
            by_cases hlt : k < n
            · have hlt' : (k : Int) < (n : Int) := by omega
              have e1 := C7.at' k hlt
              have e2 := N7.at' k hlt
              by_cases q : cn k = k
              · rw [q] at e1
                go_wp2_with fail
                refine (good6 (nm k) _ (hsz.out k hlt)).mono ?_
                rintro _ _ ⟨⟨r, rfl, hg⟩, rfl⟩
                rename World => w7
                cases r
                · clear hg
                  have hac2 : Hid (∀ j, j < n → ac j = true → j < k + 1 ∧ cn j = j ∧ Good (nm j)) := fun j hj h => by
                    have := hac.out j hj h
                    exact ⟨by omega, this.2⟩
                  clear hac
                  go_wp2
                  go_round
                  case rel => exact ⟨k + 1, ac, by omega, by go_num, hac2, P7, b7⟩
                  case measure => simp [intOf]; omega
                · have hg : Hid (Good (nm k)) := hg rfl
                  have hac2 : Hid (∀ j, j < n → up ac k true j = true → j < k + 1 ∧ cn j = j ∧ Good (nm j)) := fun j hj h => by
                    by_cases e : j = k
                    · subst e; exact ⟨by omega, q, hg.out⟩
                    · rw [up_other e] at h
                      have := hac.out j hj h
                      exact ⟨by omega, this.2⟩
                  obtain ⟨y0, hy0⟩ := P7.row.cell hlt
                  have fr7 := P7.free
                  have hs1 := hsz.out k hlt
                  have P8 : Arr (w7.setCell ⟨w5.heap.size, k, none⟩ (.string ({ data := #[47] } ++ nm k))) w5.heap.size n (fun j => .string (pth nm (up ac k true) j)) :=
                    (P7.set hlt _).congr (fun j _ => by rw [pth_up]; by_cases e : j = k <;> simp [e, sl])
                  have b8 : Below w5.heap.size w5 (w7.setCell ⟨w5.heap.size, k, none⟩ (.string ({ data := #[47] } ++ nm k))) := b7.setCell (p := ⟨w5.heap.size, k, none⟩) (Nat.le_refl _) _
                  clear hac P7 b7 C7 N7 hg q
                  go_wp2
                  go_round
                  case rel => exact ⟨k + 1, up ac k true, by omega, by go_num, hac2, P8, b8⟩
                  case measure => simp [intOf]; omega
              · have q' : ((cn k : Int) == (k : Int)) = false := by simp; omega
                have hac2 : Hid (∀ j, j < n → ac j = true → j < k + 1 ∧ cn j = j ∧ Good (nm j)) := fun j hj h => by
                  have := hac.out j hj h
                  exact ⟨by omega, this.2⟩
                clear hac
                go_wp2
                go_round
                case rel => exact ⟨k + 1, ac, by omega, by go_num, hac2, P7, b7⟩
                case measure => simp [intOf]; omega
            · obtain rfl : n = k := by omega
              have hN : Hid (Names n nm ac) := ⟨fun c hc h => (hac.out c hc h).2.2, fun c hc h => (hcn.out c hc).2 (hac.out c hc h).2.1⟩
              have hcl : ∀ c, c < n → cn c < n := fun c hc => by have := (hcn.out c hc).1; omega
              clear hac hcn hlt
              have b37 := b5.trans (b7.mono b5.size)
              have O7 := O3.below b37
              have Q7 := o3.below b37
              have bW7 := bW.trans (b37.mono bW.size)
              clear b37 O3 o3 bW b5 b7 C5 N3
              go_wp2_with (at_make; refine wpList_make_full _ rfl _ _ 45 rfl w7.heap.size 4 i4 _ 1 Try.underlying45 hi4 hz40 hz41 .i64 .i64 _ _ n rfl rfl rfl rfl (by rw [hz42]; omega) (by unfold maxLen; omega) (by omega) ?_; intro w8 hown hgrow; refine Halt.of ?_)
              refine Halt.go ?_
              have R8 := Arr.made rfl hown
              have b8 : Below w7.heap.size w7 w8 := (Below.refl _ _).grown hgrow (Nat.le_refl _) (fun _ h => by cases h)
              clear hown hgrow hi4 hz40 hz41 hz42
              go_wp2_with (at_make; refine wpList_make_full _ rfl _ _ 38 rfl w8.heap.size 2 i2 _ 1 Try.underlying38 hi2 hz20 hz21 .i64 .i64 _ _ n rfl rfl rfl rfl (by rw [hz22]; omega) (by unfold maxLen; omega) (by omega) ?_; intro w9 hown hgrow; refine Halt.of ?_)
              refine Halt.go ?_
              have S9 := Arr.made rfl hown
              have b9 : Below w8.heap.size w8 w9 := (Below.refl _ _).grown hgrow (Nat.le_refl _) (fun _ h => by cases h)
              clear hown hgrow hi2 hz20 hz21 hz22
              have R9 := R8.below' b9
              have b79 := b8.trans (b9.mono b8.size)
              have gpw : w7.heap.size < w8.heap.size := R8.lt
              have gwB : w8.heap.size < w9.heap.size := S9.lt
              clear R8 b8 b9
              obtain ⟨B, hB0⟩ : ∃ B, B = w9.heap.size := ⟨_, rfl⟩
              have hB : Hid (B = w9.heap.size) := hB0
              have gwB' : w8.heap.size < B := by omega
              clear hB0
              go_wp2_with fail
              refine (t_root' hB.out).mono ?_
              rintro _ w10 ⟨rfl, x10, b10⟩
              go_wp2_with fail
              refine (t_tree' hB.out x10 b10).mono ?_
              rintro _ w11 ⟨T, rfl, h11⟩
              clear x10 b10
              have R11 := R9.below h11.bel (by omega)
              have S11 := S9.below h11.bel gwB'
              have b11 := b79.trans (h11.bel.mono (by have := b79.size; omega))
              have rp11 := h11.rep
              have gpB : w7.heap.size < B := by omega
              clear h11 R9 S9 b79 gwB
              have q1 := eql24
              have q2 := neq24
              have q3 := neq24n
              go_wp2_with fail
              go_loopw [19] (fun i wr => ∃ (k : Nat) (A : Abs) (pr : Nat → Bool) (ow : Nat → Int), k ≤ lc ∧ i = .int .i64 k ∧ Rep wr B T A ∧ Hid (Inv A B n nm ac pr ow) ∧ Arr wr w7.heap.size n (fun j => .bool (pr j)) ∧ Arr wr w8.heap.size n (fun j => .int .i64 (ow j)) ∧ Below w7.heap.size w7 wr) (fun i _ => lc - (intOf i).toNat)
              case atStart => exact ⟨0, Abs.init B, fun _ => false, fun _ => 0, by omega, rfl, rp11, inv_init hN.out, R11.congr (fun _ _ => rfl), S11.congr (fun _ _ => rfl), b11⟩
              case round =>
                rename World => wr
                obtain ⟨k, A, pr, ow, hk, rfl, hR, hI, R, S, b⟩ := hrel
                clear rp11 R11 S11 b11
                by_cases hlt : k < lc
                · obtain ⟨rfl, Q⟩ := Q7 (by omega)
                  have e1 := (Q.below' b).at' k hlt
                  have hp := hop k hlt
                  generalize opf k = p at e1 hp
                  have hm : p % n < n := Nat.mod_lt _ n0
                  have hm' : ((p % n : Nat) : Int) < (n : Int) := by omega
                  have et : Int.tmod (p : Int) (n : Int) = ((p % n : Nat) : Int) := by rw [← Int.ofNat_tmod]
                  have e2 := (C7.below' b).at' (p % n) hm
                  have hcn := hcl (p % n) hm
                  generalize cn (p % n) = c at e2 hcn
                  generalize p % n = m at *
                  have hcn' : (c : Int) < (n : Int) := by omega
                  have hlt' : (k : Int) < (lc : Int) := by omega
                  have e3 := (P7.below' b).at' c hcn
                  have e4 := R.at' c hcn
                  cases hac : ac c
                  · have e3' : wr.cell? ⟨w5.heap.size, c, none⟩ = some (.string { data := #[] }) := by rw [e3]; simp [pth, hac]
                    clear e3
                    have et0 := empty_toList
                    go_wp2
                    go_round
                    case rel => exact ⟨k + 1, A, pr, ow, by omega, by go_num, hR, hI, R, S, b⟩
                    case measure => simp [intOf]; omega
                  · obtain ⟨P, hP⟩ : ∃ P, P = sl ++ nm c := ⟨_, rfl⟩
                    have e3' : wr.cell? ⟨w5.heap.size, c, none⟩ = some (.string P) := by rw [e3, hP]; simp [pth, hac]
                    have hPe : ¬ P.toList = [] := by rw [hP]; exact path_toList _
                    have hPe' : P.toList.isEmpty = false := by simpa using hPe
                    have hPz : P.size ≤ 1048576 := by
                      have := hs16.out c hcn
                      rw [hP, ByteArray.size_append, size_sl]; omega
                    clear e3
                    have hP' : Hid (P = sl ++ nm c) := hP
                    clear hP
                    cases hpr : pr c
                    · rw [hpr] at e4
                      have e6 := (N7.below' b).at' c hcn
                      have hoE : ∃ o : Int, (0 < lb → owf (k % lb) = o) ∧ (lb = 0 → o = 0) := by
                        by_cases h : 0 < lb
                        · exact ⟨_, fun _ => rfl, fun z => by omega⟩
                        · exact ⟨0, fun z => by omega, fun _ => rfl⟩
                      obtain ⟨o, ho1, ho2⟩ := hoE
                      have ho1 : Hid (0 < lb → owf (k % lb) = o) := ho1
                      have ho2 : Hid (lb = 0 → o = 0) := ho2
                      obtain ⟨x, hx0⟩ : ∃ x, x = wr.heap.size := ⟨_, rfl⟩
                      have hxl : Hid (∀ z, A.live z → z ≠ x) := fun z hz => by have := hR.lt hz; omega
                      have hR2 := hR
                      have N51 : Calls Try.prog 7 #[.int .i64 o] wr.drew fun e w' => e = .returned (.pointer (some ⟨x, 0, none⟩)) ∧ Rep w' B T (A.add x o) ∧ w'.cell? ⟨W.heap.size, c, none⟩ = some (.string (nm c)) ∧ w'.cell? ⟨w5.heap.size, c, none⟩ = some (.string P) ∧ Below wr.heap.size wr w' :=
                        (new51 hR hx0 o).mono fun _ _ ⟨he, hr, hb⟩ => ⟨he, hr, cell_kept e6 hb, cell_kept e3' hb, hb⟩
                      have hWB : W.heap.size < B ∧ w5.heap.size < B := ⟨by have := cell_lt (N7.at' c hcn); show W.heap.size < B; simp only at this; omega, by have := cell_lt (P7.at' c hcn); simp only at this; omega⟩
                      have L51 : ∀ w13, Rep w13 B T (A.add x o) → w13.cell? ⟨W.heap.size, c, none⟩ = some (.string (nm c)) → w13.cell? ⟨w5.heap.size, c, none⟩ = some (.string P) →
                          Calls Try.prog 9 #[.pointer (some ⟨T, 0, none⟩), .pointer (some ⟨B, 0, none⟩), .string (nm c), .string P, .pointer (some ⟨x, 0, none⟩)] w13 fun e w' => e = .returned (.tuple #[]) ∧ Rep w' B T ((A.add x o).link B (nm c) P x) ∧ w'.cell? ⟨W.heap.size, c, none⟩ = some (.string (nm c)) ∧ w'.cell? ⟨w5.heap.size, c, none⟩ = some (.string P) ∧ Below B w13 w' := fun w13 h13 f6 f3 => by
                        refine Calls.mono (R := fun e w' => e = .returned (.tuple #[]) ∧ Rep w' B T ((A.add x o).link B (nm c) P x) ∧ Below B w13 w') ?_ (fun _ _ ⟨he, hr, hb⟩ => ⟨he, hr, by rw [cell_same (hb.block _ hWB.1)]; exact f6, by rw [cell_same (hb.block _ hWB.2)]; exact f3, hb⟩)
                        refine link9 h13 (.inr hI.out.lr) (.inl rfl) ?_ ?_ ?_
                        · rw [hP'.out]; exact hI.out.no c hcn hac hpr
                        · have := hI.out.kid c hcn hac
                          rw [hpr] at this
                          simp [Abs.add, hxl.out B hI.out.lr, this]
                        · rw [A3_own, hP'.out]
                          have := hI.out.owd c hcn hac o
                          rw [hpr] at this
                          simpa [Abs.add] using this
                      have hI2 : Hid (Inv ((A.add x o).link B (nm c) P x) B n nm ac (up pr c true) (upI ow c o)) := by
                        rw [hP'.out]; exact inv_link hI.out hN.out hcn hac hpr hxl.out o
                      have xB : B ≤ wr.heap.size := hR.1
                      clear hx0 hxl hI hR
                      by_cases hlb : 0 < lb
                      · obtain ⟨rfl, Ob⟩ := O7 hlb
                        have hml : k % lb < lb := Nat.mod_lt _ hlb
                        have hml' : ((k % lb : Nat) : Int) < (lb : Int) := by omega
                        have et2 : Int.tmod (k : Int) (lb : Int) = ((k % lb : Nat) : Int) := by rw [← Int.ofNat_tmod]
                        have e5 : wr.cell? ⟨w1.heap.size, k % lb, none⟩ = some (.int .i64 o) := by rw [(Ob.below' b).at' (k % lb) hml, ho1.out hlb]
                        have hlb' : (0 : Int) < (lb : Int) := by omega
                        have hlb2 : ((lb : Int) == 0) = false := by simp; omega
                        generalize k % lb = m2 at *
                        clear ho1 ho2
                        go_wp2_with fail
                        go_region_held3 (fun w' => w'.cell? ⟨W.heap.size, c, none⟩ = some (.string (nm c)) ∧ w'.cell? ⟨w5.heap.size, c, none⟩ = some (.string P)) (first | exact ⟨e6, e3'⟩ | exact ⟨f6, f3⟩ | exact ⟨g6, g3⟩) (first | (go_at_call 7; refine N51.mono ?_; rintro _ w13 ⟨rfl, r13, f6, f3, b13⟩) | (go_at_call 9; refine (L51 _ r13 f6 f3).mono ?_; rintro _ w14 ⟨rfl, r14, g6, g3, b14⟩))
                        all_goals
                          have R2 := (R.below' b13).below b14 gpB
                          have S2 := (S.below' b13).below b14 gwB'
                          have b3 := (b.trans (b13.mono b.size)).trans (b14.mono (by omega))
                          clear N51 L51 R S b hR2 b13 b14 e1 e2 e3' e4 f6 f3 g6 g3 r13
                          have e4 := R2.at' c hcn
                          have fr := R2.free
                          have R3 : Arr (w14.setCell ⟨w7.heap.size, c, none⟩ (.bool true)) w7.heap.size n (fun j => .bool (up pr c true j)) := (R2.set hcn _).congr (fun j _ => by by_cases e : j = c <;> simp [e, up])
                          have S3 : Arr (w14.setCell ⟨w7.heap.size, c, none⟩ (.bool true)) w8.heap.size n (fun j => .int .i64 (ow j)) := S2.other (by omega) _
                          have b4 : Below w7.heap.size w7 (w14.setCell ⟨w7.heap.size, c, none⟩ (.bool true)) := b3.setCell (p := ⟨w7.heap.size, c, none⟩) (Nat.le_refl _) _
                          have r15 := r14.low (k := c) gpB (.bool true)
                          have e7 := S3.at' c hcn
                          have fr2 := S3.free
                          have S4 : Arr ((w14.setCell ⟨w7.heap.size, c, none⟩ (.bool true)).setCell ⟨w8.heap.size, c, none⟩ (.int .i64 o)) w8.heap.size n (fun j => .int .i64 (upI ow c o j)) := (S3.set hcn _).congr (fun j _ => by by_cases e : j = c <;> simp [e, upI])
                          have R4 : Arr ((w14.setCell ⟨w7.heap.size, c, none⟩ (.bool true)).setCell ⟨w8.heap.size, c, none⟩ (.int .i64 o)) w7.heap.size n (fun j => .bool (up pr c true j)) := R3.other (by omega) _
                          have b5 : Below w7.heap.size w7 ((w14.setCell ⟨w7.heap.size, c, none⟩ (.bool true)).setCell ⟨w8.heap.size, c, none⟩ (.int .i64 o)) := b4.setCell (p := ⟨w8.heap.size, c, none⟩) (by show w7.heap.size ≤ w8.heap.size; omega) _
                          have r16 := r15.low (k := c) gwB' (.int .i64 o)
                          clear R2 S2 R3 S3 b3 b4 r14 r15
                          go_wp2
                          go_round
                          case rel => exact ⟨k + 1, _, _, _, by omega, by go_num, r16, hI2, R4, S4, b5⟩
                          case measure => simp [intOf]; omega
                      · have hlb' : ¬ (0 : Int) < (lb : Int) := by omega
                        have ho3 := ho2.out (by omega)
                        subst ho3
                        clear ho1 ho2
                        go_wp2_with fail
                        go_region_held3 (fun w' => w'.cell? ⟨W.heap.size, c, none⟩ = some (.string (nm c)) ∧ w'.cell? ⟨w5.heap.size, c, none⟩ = some (.string P)) (first | exact ⟨e6, e3'⟩ | exact ⟨f6, f3⟩ | exact ⟨g6, g3⟩) (first | (go_at_call 7; refine N51.mono ?_; rintro _ w13 ⟨rfl, r13, f6, f3, b13⟩) | (go_at_call 9; refine (L51 _ r13 f6 f3).mono ?_; rintro _ w14 ⟨rfl, r14, g6, g3, b14⟩))
                        all_goals
                          have R2 := (R.below' b13).below b14 gpB
                          have S2 := (S.below' b13).below b14 gwB'
                          have b3 := (b.trans (b13.mono b.size)).trans (b14.mono (by omega))
                          clear N51 L51 R S b hR2 b13 b14 e1 e2 e3' e4 f6 f3 g6 g3 r13
                          have e4 := R2.at' c hcn
                          have fr := R2.free
                          have R3 : Arr (w14.setCell ⟨w7.heap.size, c, none⟩ (.bool true)) w7.heap.size n (fun j => .bool (up pr c true j)) := (R2.set hcn _).congr (fun j _ => by by_cases e : j = c <;> simp [e, up])
                          have S3 : Arr (w14.setCell ⟨w7.heap.size, c, none⟩ (.bool true)) w8.heap.size n (fun j => .int .i64 (ow j)) := S2.other (by omega) _
                          have b4 : Below w7.heap.size w7 (w14.setCell ⟨w7.heap.size, c, none⟩ (.bool true)) := b3.setCell (p := ⟨w7.heap.size, c, none⟩) (Nat.le_refl _) _
                          have r15 := r14.low (k := c) gpB (.bool true)
                          have e7 := S3.at' c hcn
                          have fr2 := S3.free
                          have S4 : Arr ((w14.setCell ⟨w7.heap.size, c, none⟩ (.bool true)).setCell ⟨w8.heap.size, c, none⟩ (.int .i64 0)) w8.heap.size n (fun j => .int .i64 (upI ow c 0 j)) := (S3.set hcn _).congr (fun j _ => by by_cases e : j = c <;> simp [e, upI])
                          have R4 : Arr ((w14.setCell ⟨w7.heap.size, c, none⟩ (.bool true)).setCell ⟨w8.heap.size, c, none⟩ (.int .i64 0)) w7.heap.size n (fun j => .bool (up pr c true j)) := R3.other (by omega) _
                          have b5 : Below w7.heap.size w7 ((w14.setCell ⟨w7.heap.size, c, none⟩ (.bool true)).setCell ⟨w8.heap.size, c, none⟩ (.int .i64 0)) := b4.setCell (p := ⟨w8.heap.size, c, none⟩) (by show w7.heap.size ≤ w8.heap.size; omega) _
                          have r16 := r15.low (k := c) gwB' (.int .i64 0)
                          clear R2 S2 R3 S3 b3 b4 r14 r15
                          go_wp2
                          go_round
                          case rel => exact ⟨k + 1, _, _, _, by omega, by go_num, r16, hI2, R4, S4, b5⟩
                          case measure => simp [intOf]; omega
                    · rw [hpr] at e4
                      obtain ⟨y, hy, hyo, hyl⟩ := hI.out.yes c hcn hpr
                      rw [← hP'.out] at hy
                      have hkd := hI.out.kid c hcn hac
                      rw [hpr] at hkd
                      have hw : A.own y ≠ 0 → A.owned (A.own y) P = true := fun z => by
                        rw [hP'.out, hI.out.owd c hcn hac, hpr, hyo]
                        rw [hyo] at z
                        simp [z]
                      have hsp : Calls Try.prog 26 #[.string P] wr fun e w' => e = .returned (.tuple #[.string sl, .string (nm c)]) ∧ Below wr.heap.size wr w' ∧ w'.heap.size = wr.heap.size := by
                        rw [hP'.out]; exact split1 (nm c) wr (by rw [← hP'.out]; exact hPz) (hN.out.good c hcn hac).2
                      have HU := unlink17 hR hsp hI.out.nr hkd hy hw
                      have hI2 : Hid (Inv (A.unlink B (nm c) P y) B n nm ac (up pr c false) ow) := by
                        rw [hP'.out]; exact inv_unlink hI.out hN.out hcn hpr (by rw [← hP'.out]; exact hy)
                      clear hsp hw hkd hyo hyl hy hI
                      go_wp2_with fail
                      refine HU.mono ?_
                      rintro _ w12 ⟨rfl, hR2, b2⟩
                      have R2 := R.below b2 gpB
                      have S2 := S.below b2 gwB'
                      have b3 := b.trans (b2.mono (by omega))
                      clear HU R S b hR b2 e1 e2 e3' e4
                      have e4 := R2.at' c hcn
                      have fr := R2.free
                      have R3 : Arr (w12.setCell ⟨w7.heap.size, c, none⟩ (.bool false)) w7.heap.size n (fun j => .bool (up pr c false j)) := (R2.set hcn _).congr (fun j _ => by by_cases e : j = c <;> simp [e, up])
                      have S3 : Arr (w12.setCell ⟨w7.heap.size, c, none⟩ (.bool false)) w8.heap.size n (fun j => .int .i64 (ow j)) := S2.other (by omega) _
                      have b4 : Below w7.heap.size w7 (w12.setCell ⟨w7.heap.size, c, none⟩ (.bool false)) := b3.setCell (p := ⟨w7.heap.size, c, none⟩) (Nat.le_refl _) _
                      have hR3 := hR2.low (k := c) gpB (.bool false)
                      clear R2 S2 b3 hR2
                      go_wp2
                      go_round
                      case rel => exact ⟨k + 1, _, _, ow, by omega, by go_num, hR3, hI2, R3, S3, b4⟩
                      case measure => simp [intOf]; omega
                · obtain rfl : lc = k := by omega
                  obtain ⟨w12, hw12⟩ : ∃ w12, w12 = wr := ⟨_, rfl⟩
                  subst hw12
                  have N12 := N7.below' b
                  have P12 := P7.below' b
                  have bW12 := bW7.trans (b.mono bW7.size)
                  have hWB : W.heap.size ≤ B := by have := bW7.size; omega
                  have gN : W.heap.size < B := by have := N7.lt; omega
                  have gP : w5.heap.size < B := by have := P7.lt; omega
                  have h12 : Tr w12 w12 B T A := ⟨hR, Below.refl _ _⟩
                  clear N7 P7 C7 O7 Q7 hR b bW7 hop hcl hlt hk hB
                  go_wp2_with fail
                  refine (t_at (p := sl) h12 hI.out.nr).mono ?_
                  rintro _ w13 ⟨rfl, h13⟩
                  clear h12
                  go_wp2_with fail
                  go_loopw [22, 23, 24, 25, 26] (fun l e d s i wx => ∃ k : Nat, k ≤ n ∧ l = .int .i64 (cnt pr k : Nat) ∧ e = .int .i64 (cnt (ep pr ow) k : Nat) ∧ d = .int .i64 (cnt (ft pr ow) k : Nat) ∧ s = .int .i64 (sm pr ow (fun q => cnt (inO pr ow q) n) k : Nat) ∧ i = .int .i64 k ∧ Tr w12 wx B T A) (fun l e d s i _ => n - (intOf i).toNat)
                  case atStart => exact ⟨0, by omega, rfl, rfl, rfl, rfl, rfl, h13⟩
                  case round =>
                    obtain ⟨k, hk, rfl, rfl, rfl, rfl, rfl, h14⟩ := hrel
                    clear h13
                    have g1 := cnt_le pr k
                    have g2 := cnt_le (ep pr ow) k
                    have g3 := cnt_le (ft pr ow) k
                    have g4 : sm pr ow (fun q => cnt (inO pr ow q) n) k ≤ 4096 * 4096 := Nat.le_trans (sm_le (fun q => cnt_le _ n) k) (Nat.mul_le_mul (by omega) n1)
                    have s1 : Hid (cnt pr (k + 1) = cnt pr k + (pr k).toNat) := rfl
                    have s2 : Hid (cnt (ep pr ow) (k + 1) = cnt (ep pr ow) k + (ep pr ow k).toNat) := rfl
                    have s3 : Hid (cnt (ft pr ow) (k + 1) = cnt (ft pr ow) k + (ft pr ow k).toNat) := rfl
                    have s4 : Hid (sm pr ow (fun q => cnt (inO pr ow q) n) (k + 1) = sm pr ow (fun q => cnt (inO pr ow q) n) k + (ft pr ow k).toNat * cnt (inO pr ow (ow k)) n) := rfl
                    generalize hl0 : cnt pr k = l at *
                    generalize he0 : cnt (ep pr ow) k = e at *
                    generalize hd0 : cnt (ft pr ow) k = d at *
                    generalize hs0 : sm pr ow (fun q => cnt (inO pr ow q) n) k = su at *
                    have hl : Hid (cnt pr k = l) := hl0
                    have he : Hid (cnt (ep pr ow) k = e) := he0
                    have hd : Hid (cnt (ft pr ow) k = d) := hd0
                    have hsu : Hid (sm pr ow (fun q => cnt (inO pr ow q) n) k = su) := hs0
                    clear hl0 he0 hd0 hs0
                    by_cases hlt : k < n
                    · have hlt' : (k : Int) < (n : Int) := by omega
                      have e3 := (P12.below h14.bel gP).at' k hlt
                      have e4 := (R.below h14.bel gpB).at' k hlt
                      have e5 := (S.below h14.bel gwB').at' k hlt
                      cases hac : ac k
                      · have hpr : pr k = false := by
                          cases h : pr k with
                          | false => rfl
                          | true => have := hI.out.act k hlt h; rw [hac] at this; cases this
                        have e3' := e3
                        simp only [pth, hac] at e3'
                        have r1 : Hid (cnt pr (k + 1) = l) := by have := s1.out; rw [hpr] at this; exact this
                        have z2 : ep pr ow k = false := by simp [ep, hpr]
                        have z3 : ft pr ow k = false := by simp [ft, z2]
                        have r2 : Hid (cnt (ep pr ow) (k + 1) = e) := by have := s2.out; rw [z2] at this; exact this
                        have r3 : Hid (cnt (ft pr ow) (k + 1) = d) := by have := s3.out; rw [z3] at this; exact this
                        have r4 : Hid (sm pr ow (fun q => cnt (inO pr ow q) n) (k + 1) = su) := by have := s4.out; rw [z3] at this; simpa [Hid] using this
                        clear e3 s1 s2 s3 s4 z2 z3
                        have e3 : Hid True := trivial
                        have et0 := empty_toList
                        go_wp2
                        go_round
                        case rel => exact ⟨k + 1, by omega, by rw [r1.out], by rw [r2.out], by rw [r3.out], by rw [r4.out], by go_num, h14⟩
                        case measure => simp [intOf]; omega
                      · obtain ⟨P, hP⟩ : ∃ P, P = sl ++ nm k := ⟨_, rfl⟩
                        have e3' : wr.cell? ⟨w5.heap.size, k, none⟩ = some (.string P) := by rw [e3, hP]; simp [pth, hac]
                        have hPe : ¬ P.toList = [] := by rw [hP]; exact path_toList _
                        have hPe' : P.toList.isEmpty = false := by simpa using hPe
                        clear e3
                        have hP' : Hid (P = sl ++ nm k) := hP
                        clear hP
                        have hkd := hI.out.kid k hlt hac
                        cases hpr : pr k
                        · rw [hpr] at e4 hkd
                          have hno : A.node P = none := by rw [hP'.out]; exact hI.out.no k hlt hac hpr
                          have how : A.owned (ow k) P = false := by rw [hP'.out, hI.out.owd k hlt hac, hpr]; rfl
                          have r1 : Hid (cnt pr (k + 1) = l) := by have := s1.out; rw [hpr] at this; exact this
                          have z2 : ep pr ow k = false := by simp [ep, hpr]
                          have z3 : ft pr ow k = false := by simp [ft, z2]
                          have r2 : Hid (cnt (ep pr ow) (k + 1) = e) := by have := s2.out; rw [z2] at this; exact this
                          have r3 : Hid (cnt (ft pr ow) (k + 1) = d) := by have := s3.out; rw [z3] at this; exact this
                          have r4 : Hid (sm pr ow (fun q => cnt (inO pr ow q) n) (k + 1) = su) := by have := s4.out; rw [z3] at this; simpa [Hid] using this
                          clear s1 s2 s3 s4 z2 z3
                          go_wp2_with fail
                          refine (t_gone (p := P) h14 hno).mono ?_
                          rintro _ w15 ⟨rfl, h15⟩
                          clear h14 e3' e4 e5
                          have e4 := (R.below h15.bel gpB).at' k hlt
                          rw [hpr] at e4
                          have e6 := (N12.below h15.bel gN).at' k hlt
                          have H15 : Calls Try.prog 15 #[.pointer (some ⟨B, 0, none⟩), .string (nm k)] w15.drew fun e w' => e = .returned (.bool false) ∧ Tr w12 w' B T A ∧ w'.cell? ⟨W.heap.size, k, none⟩ = some (.string (nm k)) ∧ w'.cell? ⟨w7.heap.size, k, none⟩ = some (.bool false) := (t_has (h15.below (Below.refl _ _).drew) hI.out.lr hkd).mono fun _ w' ⟨he, ht⟩ => ⟨he, ht, (N12.below ht.bel gN).at' k hlt, by rw [(R.below ht.bel gpB).at' k hlt, hpr]⟩
                          go_wp2_with fail
                          go_region_held3 (fun w' => w'.cell? ⟨W.heap.size, k, none⟩ = some (.string (nm k)) ∧ w'.cell? ⟨w7.heap.size, k, none⟩ = some (.bool false)) (first | exact ⟨e6, e4⟩ | exact ⟨f6, f4⟩) (first | (go_at_call 15; refine H15.mono ?_; rintro _ w16 ⟨rfl, h16, f6, f4⟩))
                          clear H15 e4 e6 h15 f6 f4
                          have e4 := (R.below h16.bel gpB).at' k hlt
                          rw [hpr] at e4
                          have e5 := (S.below h16.bel gwB').at' k hlt
                          go_wp2_with fail
                          refine (t_owns (o := ow k) (s := P) h16 how).mono ?_
                          rintro _ w17 ⟨rfl, h17⟩
                          clear h16 e4 e5
                          go_wp2
                          go_round
                          case rel => exact ⟨k + 1, by omega, by rw [r1.out], by rw [r2.out], by rw [r3.out], by rw [r4.out], by go_num, h17⟩
                          case measure => simp [intOf]; omega
                        · rw [hpr] at e4 hkd
                          obtain ⟨y, hy, hyo, hyl⟩ := hI.out.yes k hlt hpr
                          rw [← hP'.out] at hy
                          have r1 : Hid (cnt pr (k + 1) = l + 1) := by have := s1.out; rw [hpr] at this; exact this
                          clear s1
                          go_wp2_with fail
                          refine (t_at (p := P) h14 hy).mono ?_
                          rintro _ w15 ⟨rfl, h15⟩
                          clear h14 e3' e4 e5
                          have e4 := (R.below h15.bel gpB).at' k hlt
                          rw [hpr] at e4
                          have e6 := (N12.below h15.bel gN).at' k hlt
                          have H15 : Calls Try.prog 15 #[.pointer (some ⟨B, 0, none⟩), .string (nm k)] w15.drew fun e w' => e = .returned (.bool true) ∧ Tr w12 w' B T A ∧ w'.cell? ⟨W.heap.size, k, none⟩ = some (.string (nm k)) ∧ w'.cell? ⟨w7.heap.size, k, none⟩ = some (.bool true) := (t_has (h15.below (Below.refl _ _).drew) hI.out.lr hkd).mono fun _ w' ⟨he, ht⟩ => ⟨he, ht, (N12.below ht.bel gN).at' k hlt, by rw [(R.below ht.bel gpB).at' k hlt, hpr]⟩
                          go_wp2_with fail
                          go_region_held3 (fun w' => w'.cell? ⟨W.heap.size, k, none⟩ = some (.string (nm k)) ∧ w'.cell? ⟨w7.heap.size, k, none⟩ = some (.bool true)) (first | exact ⟨e6, e4⟩ | exact ⟨f6, f4⟩) (first | (go_at_call 15; refine H15.mono ?_; rintro _ w16 ⟨rfl, h16, f6, f4⟩))
                          clear H15 e4 e6 h15 f6 f4
                          have e4 := (R.below h16.bel gpB).at' k hlt
                          rw [hpr] at e4
                          have e5 := (S.below h16.bel gwB').at' k hlt
                          have H18 : Calls Try.prog 18 #[.pointer (some ⟨y, 0, none⟩)] w16.drew fun e w' => e = .returned (.int .i64 (ow k)) ∧ Tr w12 w' B T A ∧ w'.cell? ⟨w8.heap.size, k, none⟩ = some (.int .i64 (ow k)) := (t_own (h16.below (Below.refl _ _).drew) hyl hyo).mono fun _ w' ⟨he, ht⟩ => ⟨he, ht, (S.below ht.bel gwB').at' k hlt⟩
                          go_wp2_with fail
                          go_region_held3 (fun w' => w'.cell? ⟨w8.heap.size, k, none⟩ = some (.int .i64 (ow k))) (first | exact e5 | exact f5) (first | (go_at_call 18; refine H18.mono ?_; rintro _ w17 ⟨rfl, h17, f5⟩))
                          clear H18 e4 e5 h16 f5
                          have e5 := (S.below h17.bel gwB').at' k hlt
                          by_cases hz : ow k = 0
                          · have hz' : (ow k == 0) = true := by simpa using hz
                            have z2 : ep pr ow k = false := by simp [ep, hz]
                            have z3 : ft pr ow k = false := by simp [ft, z2]
                            have r2 : Hid (cnt (ep pr ow) (k + 1) = e) := by have := s2.out; rw [z2] at this; exact this
                            have r3 : Hid (cnt (ft pr ow) (k + 1) = d) := by have := s3.out; rw [z3] at this; exact this
                            have r4 : Hid (sm pr ow (fun q => cnt (inO pr ow q) n) (k + 1) = su) := by have := s4.out; rw [z3] at this; simpa [Hid] using this
                            clear s2 s3 s4 z2 z3 hz
                            go_wp2
                            go_round
                            case rel => exact ⟨k + 1, by omega, by rw [r1.out]; rfl, by rw [r2.out], by rw [r3.out], by rw [r4.out], by go_num, h17⟩
                            case measure => simp [intOf]; omega
                          · have hz' : (ow k == 0) = false := by simpa using hz
                            have z2 : ep pr ow k = true := by simp [ep, hpr, hz]
                            have r2 : Hid (cnt (ep pr ow) (k + 1) = e + 1) := by have := s2.out; rw [z2] at this; exact this
                            have zz : Hid (ft pr ow k = decide (cnt (inO pr ow (ow k)) k = 0)) := by show _ = _; simp [ft, z2]
                            have how : A.owned (ow k) P = true := by rw [hP'.out, hI.out.owd k hlt hac, hpr]; simp [hz]
                            have hon : Hid (A.on (ow k) = cnt (inO pr ow (ow k)) n) := hI.out.on _ hz
                            have gon := cnt_le (inO pr ow (ow k)) n
                            clear s2 z2 hz
                            go_wp2_with fail
                            refine (t_owns (o := ow k) (s := P) h17 how).mono ?_
                            rintro _ w18 ⟨rfl, h18⟩
                            clear h17 e5
                            go_wp2_with fail
                            go_loopw [29, 30] (fun f i wx => f = .bool true ∧ ∃ t : Nat, t ≤ k ∧ i = .int .i64 t ∧ Hid (∀ j, j < t → inO pr ow (ow k) j = false) ∧ Tr w12 wx B T A) (fun f i _ => k - (intOf i).toNat)
                            case atStart => exact ⟨rfl, 0, by omega, rfl, fun j hj => absurd hj (by omega), h18⟩
                            case round =>
                              obtain ⟨rfl, t, ht, rfl, hno, h19⟩ := hrel
                              clear h18
                              by_cases hlt2 : t < k
                              · have ht1 : (t : Int) < (k : Int) := by omega
                                have ht2 : (t : Int) < (n : Int) := by omega
                                have f4 := (R.below h19.bel gpB).at' t (by omega)
                                have f5 := (S.below h19.bel gwB').at' t (by omega)
                                have f6 := (S.below h19.bel gwB').at' k hlt
                                cases hpt : pr t
                                · rw [hpt] at f4
                                  have hno2 : Hid (∀ j, j < t + 1 → inO pr ow (ow k) j = false) := fun j hj => by
                                    by_cases q : j = t
                                    · rw [q]; simp [inO, hpt]
                                    · exact hno.out j (by omega)
                                  go_wp2
                                  go_quiet (fail)
                                  go_wp2
                                  go_round
                                  case rel => exact ⟨rfl, t + 1, by omega, by go_num, hno2, h19.below (below_drewN (Below.refl _ _) _)⟩
                                  case measure => simp [intOf]; omega
                                · rw [hpt] at f4
                                  by_cases hq : ow t = ow k
                                  · have hq' : (ow t == ow k) = true := by simpa using hq
                                    have z3 : ft pr ow k = false := by
                                      rw [zz.out]
                                      apply decide_eq_false
                                      intro z
                                      have := cnt_zero.1 z t hlt2
                                      simp [inO, hpt, hq] at this
                                    have r3 : Hid (cnt (ft pr ow) (k + 1) = d) := by have := s3.out; rw [z3] at this; exact this
                                    have r4 : Hid (sm pr ow (fun q => cnt (inO pr ow q) n) (k + 1) = su) := by have := s4.out; rw [z3] at this; simpa [Hid] using this
                                    clear s3 s4 z3 hno hq
                                    go_wp2
                                    go_quiet (fail)
                                    go_wp2
                                    go_round
                                    case rel => exact ⟨k + 1, by omega, by rw [r1.out]; rfl, by rw [r2.out]; rfl, by rw [r3.out], by rw [r4.out], by go_num, h19.below (below_drewN (Below.refl _ _) _)⟩
                                    case measure => simp [intOf]; omega
                                  · have hq' : (ow t == ow k) = false := by simpa using hq
                                    have hno2 : Hid (∀ j, j < t + 1 → inO pr ow (ow k) j = false) := fun j hj => by
                                      by_cases q : j = t
                                      · rw [q]; simp [inO, hq]
                                      · exact hno.out j (by omega)
                                    go_wp2
                                    go_quiet (fail)
                                    go_wp2
                                    go_round
                                    case rel => exact ⟨rfl, t + 1, by omega, by go_num, hno2, h19.below (below_drewN (Below.refl _ _) _)⟩
                                    case measure => simp [intOf]; omega
                              · obtain rfl : k = t := by omega
                                have z3 : ft pr ow k = true := by
                                  rw [zz.out]
                                  exact decide_eq_true (cnt_zero.2 hno.out)
                                generalize hF0 : cnt (inO pr ow (ow k)) n = F at *
                                have r3 : Hid (cnt (ft pr ow) (k + 1) = d + 1) := by have := s3.out; rw [z3] at this; exact this
                                have r4 : Hid (sm pr ow (fun q => cnt (inO pr ow q) n) (k + 1) = su + F) := by have := s4.out; rw [z3] at this; simpa [Hid] using this
                                have f6 := (S.below h19.bel gwB').at' k hlt
                                clear s3 s4 z3 hno hF0
                                go_wp2_with fail
                                refine (t_owned (o := ow k) h19 hon.out).mono ?_
                                rintro _ w20 ⟨rfl, h20⟩
                                clear h19 f6
                                go_wp2
                                go_round
                                case rel => exact ⟨k + 1, by omega, by rw [r1.out]; rfl, by rw [r2.out]; rfl, by rw [r3.out]; rfl, by rw [r4.out]; simp, by go_num, h20⟩
                                case measure => simp [intOf]; omega
                    · obtain rfl : n = k := by omega
                      have x1 : A.nn = l + 1 := by rw [hI.out.nn, hl.out]
                      have x2 : A.kn B = l := by rw [hI.out.kn, hl.out]
                      have x3 : A.en = d := by rw [hI.out.en, hd.out]
                      have x4 : su = e := by rw [← hsu.out, sm_all, he.out]
                      subst x4
                      clear s1 s2 s3 s4
                      go_wp2_with fail
                      refine (t_count h14 x1).mono ?_
                      rintro _ w15 ⟨rfl, h15⟩
                      clear h14
                      go_wp2_with fail
                      refine (t_kids h15 hI.out.lr x2).mono ?_
                      rintro _ w16 ⟨rfl, h16⟩
                      clear h15
                      go_wp2_with fail
                      refine (t_owners h16 x3).mono ?_
                      rintro _ w17 ⟨rfl, h17⟩
                      clear h16
                      go_wp2
                      go_ret
                      exact .mk (by simp) (bW12.trans (h17.bel.mono hWB))
end Go.Proofs.Qxb6600164a
