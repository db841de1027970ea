import Derived.Test.Qxb6600087aKeepPlain
namespace Go.Proofs.Qxb6600087a
open Go.ChangeShapes Go.WideShapes Go.ChangeAt Go.RowKit

/-- A slice that came in: nil, or it leads to cell off of block b where it has an element. -/
def NilOr (ao : Option Addr) (n cap b off : Nat) : Prop := (ao = none ∧ n = 0 ∧ cap = 0) ∨ ∃ a, ao = some a ∧ (0 < n → a = ⟨b, off, none⟩)

set_option maxRecDepth 100000 in
set_option maxHeartbeats 8000000 in
theorem keep_nil (a0 a1 : Option Addr) (b0 o0 c0 b1 o1 c1 m : Nat) (F : Nat → Seg) (G : Nat → Frm) (w : World) (hm0 : 0 ≤ maxLen) (hm1 : m ≤ maxLen) (h0 : NilOr a0 0 c0 b0 o0)
    (h1 : (a1 = none ∧ m = 0 ∧ c1 = 0) ∨ ∃ a, a1 = some a ∧ (0 < m → a = ⟨b1, o1, none⟩)) (hf : ∀ k, k < m → FrAt w b1 o1 k (G k)) :
    Calls Try.prog 6 #[.slice a0 0 c0, .slice a1 m c1] w (Fine w) := by
  have hs : ∀ k, k < 0 → SegAt w b0 o0 k (F k) := fun k hk => absurd hk (by omega)
  go_enter Try.func6, Try.ntmps6
  go_wp2_with fail
  refine (zz12 a0 a1 0 c0 m c1 w hm0 hm1).mono ?_
  rintro e w1 ⟨⟨r, rfl, -⟩, rfl⟩
  cases r with
  | false =>
    go_wp2
    go_ret
    exact .mk rfl (Below.refl _ _)
  | true =>
    unfold maxLen at hm0 hm1
    · by_cases hl1 : 131072 < m
      · go_wp2_with fail
        go_ret
        exact .mk rfl (Below.refl _ _)
      · go_wp2_with fail
        refine (segs_opt (F := F) (b := b0) (off := o0) h0 (by omega) hs).mono ?_
        rintro e w2 ⟨so1, sc1, rfl, ho1, hs2, hown2, hb2, hz2⟩
        go_wp2_with fail
        refine (frames_opt (b := b1) (off := o1) (G := G) h1 (by omega) (fun k hk => (hf k hk).same (hb2.block _ (hf k hk).lt))).mono ?_
        rintro e w3 ⟨fo, fc, rfl, hfo, hf3, hb3, hz3⟩
        go_wp2_with fail
        refine (segs_opt (F := F) (b := b0) (off := o0) h0 (by omega) (fun k hk => ((hs k hk).same (hb2.block _ (hs k hk).lt)).same (hb3.block _ (Nat.lt_of_lt_of_le (hs k hk).lt hb2.size)))).mono ?_
        rintro e w4 ⟨so2, sc2, rfl, ho2, -, hown4, hb4, hz4⟩
        have hf4 : ∀ k, k < m → FrAt w4 w2.heap.size 0 k (G k) := fun k hk => (hf3 k hk).same (hb4.block _ (hz3 (by omega)))
        go_wp2_with fail
        have hown4' : w4.ownsRow w3.heap.size 35 7 (.slice so2 0 sc2) 0 [] := hown4
        refine (cut_nil fo so2 w2.heap.size m fc sc2 G w3.heap.size w4 hfo (by omega) hf4 (fun h => hz3 h) hown4' hb4.size).mono ?_
        rintro e w5 ⟨v', rfl, hcut⟩
        have hown5 := hcut.owns
        have hf5 : ∀ k, k < m → FrAt w5 w2.heap.size 0 k (G k) := fun k hk => (hf4 k hk).same (hcut.below.block _ (hz3 (by omega)))
        have s2 := hb2.size
        have s3 := hb3.size
        have s4 := hb4.size
        have s5 := hcut.below.size
        have hb0 : Below w1.heap.size w1 w5 := ((hb2.trans (hb3.mono (by omega))).trans (hb4.mono (by omega))).trans (hcut.below.mono (by omega))
        have hfw0 := fwd_run G m (by omega)
        clear hcut hown2 hown4 hown4' hs2 hf3 hf4 hs hf h1 h0 hb2 hb3 hb4 ho1 ho2 hz2 hz4
        obtain ⟨O, hOd⟩ : ∃ O, (runR 0 G [] m).reverse = O := ⟨_, rfl⟩
        have hn : (runR 0 G [] m).length = O.length := by rw [← hOd, List.length_reverse]
        have hnl := runR_len 0 G [] m
        rw [hn] at hown5 hnl
        rw [hOd] at hfw0 hown5
        simp only [List.length_nil, Nat.zero_add] at hnl
        clear hOd hn
        obtain ⟨ao, cap2, rfl, hao⟩ := owns_shape hown5
        have HOW : Hid _ := hown5
        have HF5 : Hid _ := hf5
        have HFO : Hid _ := hfo
        have HB0 : Hid _ := hb0
        have HOL : Hid (0 ≤ O.length) := Nat.zero_le _
        have HAO : Hid _ := hao
        have hfb5 : 0 < m → w2.heap.size < w5.heap.size := fun h => by have := hz3 h; omega
        clear hao hown5 hf5 hfo hb0
        go_wp2_with fail
        refine wp_loop_rounds 1 ?_
        rw [rounds_succ]
        go_wp2_with fail
        go_loopw [10, 14] (fun cc ii wr => ∃ u p : Nat, 0 ≤ u ∧ u ≤ O.length ∧ p ≤ m ∧ ii = .int .i64 u ∧ cc = .int .i64 p ∧ Hid (Fwd 0 G m (O.drop u) p) ∧ Below w5.heap.size w5 wr) (fun _ ii _ => O.length - (intOf ii).toNat)
        case atStart => exact ⟨0, 0, Nat.le_refl _, HOL.out, Nat.zero_le _, rfl, rfl, hfw0, Below.refl _ _⟩
        case round =>
          obtain ⟨u, p, hli, hiO, hpm, rfl, rfl, hfw, hbr⟩ := hrel
          by_cases hul : u < O.length
          · obtain ⟨e, hem, hok, -, hfw'⟩ := fwd_drop hfw.out hul
            obtain ⟨g, rfl, -, hg5⟩ := HAO.out (by omega)
            have HSG : Hid (∀ i t, O[i]? = some t → SegAt w5 g 0 i t) := segAt_of HOW.out rfl
            have hsg1 := (HSG.out u O[u] (List.getElem?_eq_getElem hul)).same (hbr.block g hg5)
            generalize O[u] = s at hok hsg1
            obtain ⟨hpe, hst, hln, hfl, hfr, hll, hlr, -, -⟩ := hok
            obtain ⟨kind, start, len, fl, fr, ll, lr⟩ := s
            simp only at hst hln hfl hfr hll hlr hsg1
            rw [Int.zero_add, IntWalk.wrap64_in _ ⟨by omega, by omega⟩] at hst
            obtain ⟨L, rfl⟩ : ∃ L, e = p + L := ⟨e - p, by omega⟩
            have hln' : len = (L : Int) := by omega
            clear hln hfw
            subst hst hln' hfl hfr hll hlr
            obtain ⟨c0, c1, c2, c3, c4, c5, c6⟩ := hsg1
            rw [Nat.zero_add] at c0 c1 c2 c3 c4 c5 c6
            obtain ⟨d0, d1⟩ := (HF5.out p (by omega)).same (hbr.block _ (hfb5 (by omega)))
            obtain ⟨d2, d3⟩ := (HF5.out (p + L - 1) (by omega)).same (hbr.block _ (hfb5 (by omega)))
            rw [Nat.zero_add] at d0 d1 d2 d3
            have hz6 : w5.heap.size ≤ wr.heap.size := hbr.size
            have hg6 : g < wr.heap.size := by omega
            have hf6 : w2.heap.size < wr.heap.size := by have := hfb5 (by omega); omega
            obtain rfl := HFO.out (by omega)
            have hL1 : 1 ≤ L := by omega
            have hpd : decide ((m : Int) ≤ (p : Int)) = false := by simp; omega
            have HFW : Hid _ := hfw'
            clear hfw'
            go_wp2_with fail
            go_quiet (fail)
            go_wp2_with fail
            go_round
            case rel => exact ⟨u + 1, p + L, by omega, by omega, by omega, by go_num, by go_num, HFW, bel_drewN (hbr.alloc (by omega) _) _⟩
            case measure => simp [intOf]; omega
          · obtain rfl : u = O.length := by omega
            rw [List.drop_length] at hfw
            obtain rfl : p = m := hfw.out
            go_wp2_with fail
            go_ret
            exact .mk (by simp) (HB0.out.trans (hbr.mono (by have := HB0.out.size; omega)))
end Go.Proofs.Qxb6600087a
