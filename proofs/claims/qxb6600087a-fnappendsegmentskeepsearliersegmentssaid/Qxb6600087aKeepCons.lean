import Derived.Test.Qxb6600087aKeepPlain
namespace Go.Proofs.Qxb6600087a
open Go.ChangeShapes Go.WideShapes Go.ChangeAt Go.RowKit

set_option maxRecDepth 100000 in
set_option maxHeartbeats 8000000 in
theorem keep_cons (a1 : Option Addr) (b0 o0 c0 b1 o1 c1 q m : Nat) (F : Nat → Seg) (G : Nat → Frm) (w : World) (hm0 : q + 1 ≤ maxLen) (hm1 : m ≤ maxLen)
    (h1 : (a1 = none ∧ m = 0 ∧ c1 = 0) ∨ ∃ a, a1 = some a ∧ (0 < m → a = ⟨b1, o1, none⟩)) (hwf : ∀ k, k < q + 1 → (Lit.int .i64 (F k).len).wf = true)
    (hs : ∀ k, k < q + 1 → SegAt w b0 o0 k (F k)) (hf : ∀ k, k < m → FrAt w b1 o1 k (G k)) :
    Calls Try.prog 6 #[.slice (some ⟨b0, o0, none⟩) (q + 1) c0, .slice a1 m c1] w (Fine w) := by
  go_enter Try.func6, Try.ntmps6
  go_wp2_with fail
  refine (zz12 (some ⟨b0, o0, none⟩) a1 (q + 1) c0 m c1 w hm0 hm1).mono ?_
  rintro e w1 ⟨⟨r, rfl, -⟩, rfl⟩
  cases r with
  | false =>
    go_wp2
    go_ret
    exact .mk rfl (Below.refl _ _)
  | true =>
    unfold maxLen at hm0 hm1
    by_cases hl0 : 16384 < q + 1
    · go_wp2_with fail
      go_ret
      exact .mk rfl (Below.refl _ _)
    · by_cases hl1 : 131072 < m
      · go_wp2_with fail
        go_ret
        exact .mk rfl (Below.refl _ _)
      · go_wp2_with fail
        refine (segs_opt (F := F) (b := b0) (off := o0) (.inr ⟨_, rfl, fun _ => rfl⟩) (by omega) hs).mono ?_
        rintro e w2 ⟨so1, sc1, rfl, ho1, hs2, hown2, hb2, hz2⟩
        obtain rfl := ho1 (by omega)
        replace hz2 := hz2 (by omega)
        go_wp2_with fail
        refine (frames_opt (b := b1) (off := o1) (G := G) h1 (by omega) (fun k hk => (hf k hk).same (hb2.block _ (hf k hk).lt))).mono ?_
        rintro e w3 ⟨fo, fc, rfl, hfo, hf3, hb3, hz3⟩
        go_wp2_with fail
        refine (segs_opt (F := F) (b := b0) (off := o0) (.inr ⟨_, rfl, fun _ => rfl⟩) (by omega) (fun k hk => ((hs k hk).same (hb2.block _ (hs k hk).lt)).same (hb3.block _ (Nat.lt_of_lt_of_le (hs k hk).lt hb2.size)))).mono ?_
        rintro e w4 ⟨so2, sc2, rfl, ho2, -, hown4, hb4, hz4⟩
        obtain rfl := ho2 (by omega)
        replace hz4 := hz4 (by omega)
        have hf4 : ∀ k, k < m → FrAt w4 w2.heap.size 0 k (G k) := fun k hk => (hf3 k hk).same (hb4.block _ (hz3 (by omega)))
        go_wp2_with fail
        refine (cut_consq fo w2.heap.size m fc w3.heap.size sc2 q (F q) ((List.range q).map F).reverse (by simp) G w3.heap.size w4 hfo (by omega) (by omega) hf4 (fun h => hz3 h) (by rw [← range_rev]; exact hown4) hb4.size).mono ?_
        rintro e w5 ⟨v', rfl, hcut⟩
        have hown5 := hcut.owns
        have hf5 : ∀ k, k < m → FrAt w5 w2.heap.size 0 k (G k) := fun k hk => (hf4 k hk).same (hcut.below.block _ (hz3 (by omega)))
        have s2 := hb2.size
        have s3 := hb3.size
        have s4 := hb4.size
        have s5 := hcut.below.size
        have hb0 : Below w1.heap.size w1 w5 := ((hb2.trans (hb3.mono (by omega))).trans (hb4.mono (by omega))).trans (hcut.below.mono (by omega))
        have hs5 : ∀ k, k < q + 1 → SegAt w5 w1.heap.size 0 k (F k) := fun k hk => (((hs2 k hk).same (hb3.block _ (by omega))).same (hb4.block _ (by omega))).same (hcut.below.block _ (by omega))
        obtain ⟨c, s', hO⟩ := outs_of (by omega) (stand_run (wrap64 ((F q).start + (F q).len)) G (F q :: ((List.range q).map F).reverse) (fun s hs => by
          have : s ∈ (List.range (q + 1)).map F := by rw [range_rev, List.mem_reverse]; exact hs
          obtain ⟨k, hk, rfl⟩ := List.mem_map.1 this
          exact wf64 (hwf k (List.mem_range.1 hk))) m (by omega))
        clear hcut hown2 hown4 hs2 hf3 hf4 hs hf h1 hb2 hb3 hb4 hwf
        obtain ⟨O, hOd⟩ : ∃ O, (runR (wrap64 ((F q).start + (F q).len)) G (F q :: ((List.range q).map F).reverse) m).reverse = O := ⟨_, rfl⟩
        have hn : (runR (wrap64 ((F q).start + (F q).len)) G (F q :: ((List.range q).map F).reverse) m).length = O.length := by rw [← hOd, List.length_reverse]
        have hnl := runR_len (wrap64 ((F q).start + (F q).len)) G (F q :: ((List.range q).map F).reverse) m
        rw [hn] at hown5 hnl
        rw [hOd] at hO hown5
        simp only [List.length_cons, List.length_reverse, List.length_map, List.length_range] at hnl
        clear hOd hn
        obtain ⟨ao, cap2, rfl, hao⟩ := owns_shape hown5
        have hOq := hO.le
        obtain ⟨g, rfl, -, hg5⟩ := hao (by omega)
        have HSG : Hid (∀ i t, O[i]? = some t → SegAt w5 g 0 i t) := segAt_of hown5 rfl
        have HS5 : Hid _ := hs5
        have HF5 : Hid _ := hf5
        have HFO : Hid _ := hfo
        have HB0 : Hid _ := hb0
        have HOL : Hid (q + 1 ≤ O.length) := hOq
        have HFD : Hid _ := hO.fwd
        have HOO : Hid _ := hO.old
        have hfb5 : 0 < m → w2.heap.size < w5.heap.size := fun h => by have := hz3 h; omega
        have hob5 : w1.heap.size < w5.heap.size := by omega
        clear hao hown5 hs5 hf5 hfo hb0
        go_wp2_with fail
        go_loopw [9] (fun ii wr => ∃ i : Nat, i ≤ q ∧ ii = .int .i64 i ∧ Below w5.heap.size w5 wr) (fun ii _ => q - (intOf ii).toNat)
        case atStart => exact ⟨0, Nat.zero_le _, rfl, Below.refl _ _⟩
        case round =>
          obtain ⟨i, hiq, rfl, hbr⟩ := hrel
          by_cases hil : i < q
          · obtain ⟨c0, c1, c2, c3, c4, c5, c6⟩ := (HSG.out i (F i) (HOO.out i hil)).same (hbr.block g hg5)
            obtain ⟨d0, d1, d2, d3, d4, d5, d6⟩ := (HS5.out i (by omega)).same (hbr.block _ hob5)
            rw [Nat.zero_add] at c0 c1 c2 c3 c4 c5 c6 d0 d1 d2 d3 d4 d5 d6
            clear hO
            go_wp2_with fail
            go_quiet (fail)
            go_wp2_with fail
            go_round
            case rel => exact ⟨i + 1, by omega, by go_num, bel_drewN hbr _⟩
            case measure => simp [intOf]; omega
          · obtain rfl : i = q := by omega
            rename World => w6
            have hz6 : w5.heap.size ≤ w6.heap.size := hbr.size
            obtain ⟨e0, e1, e2, e3, e4, e5, e6⟩ := (HSG.out i s' hO.mid).same (hbr.block g hg5)
            obtain ⟨d0, d1, d2, d3, d4, d5, d6⟩ := (HS5.out i (by omega)).same (hbr.block _ hob5)
            rw [Nat.zero_add] at e0 e1 e2 e3 e4 e5 e6 d0 d1 d2 d3 d4 d5 d6
            rw [hO.kind] at e0
            rw [hO.start] at e1
            rw [hO.fl] at e3
            rw [hO.fr] at e4
            have hcov := hO.len
            have hcm := hO.cm
            have hg6 : g < w6.heap.size := by omega
            have hg7 : g < w6.heap.size + 1 := by omega
            have ho6 : w1.heap.size < w6.heap.size := by omega
            have ho7 : w1.heap.size < w6.heap.size + 1 := by omega
            have hqi : (i : Int) < ((i + 1 : Nat) : Int) := by omega
            by_cases hc0 : c = 0
            · subst hc0
              obtain ⟨l1, l2⟩ := hO.last0 rfl
              rw [l1] at e5
              rw [l2] at e6
              clear hO l1 l2 hcm
              simp only [Int.natCast_zero] at hcov
              go_wp2_with fail
              rw [hcov]
              clear hcov
              go_loopw [10, 14] (fun cc ii wr => ∃ u p : Nat, i + 1 ≤ u ∧ u ≤ O.length ∧ p ≤ m ∧ ii = .int .i64 u ∧ cc = .int .i64 p ∧ Hid (Fwd (wrap64 ((F i).start + (F i).len)) G m (O.drop u) p) ∧ Below w5.heap.size w5 wr) (fun _ ii _ => O.length - (intOf ii).toNat)
              case atStart => exact ⟨i + 1, 0, Nat.le_refl _, HOL.out, Nat.zero_le _, rfl, rfl, HFD, (hbr.alloc (by omega) _).alloc (by rw [size_alloc]; omega) _⟩
              case round =>
                obtain ⟨u, p, hli, hiO, hpm, rfl, rfl, hfw, hbr⟩ := hrel
                by_cases hul : u < O.length
                · obtain ⟨e, hem, hok, -, hfw'⟩ := fwd_drop hfw.out hul
                  have hsg1 := (HSG.out u O[u] (List.getElem?_eq_getElem hul)).same (hbr.block g hg5)
                  generalize O[u] = s at hok hsg1
                  obtain ⟨hpe, hst, hln, hfl, hfr, hll, hlr, -, -⟩ := hok
                  obtain ⟨kind, start, len, fl, fr, ll, lr⟩ := s
                  simp only at hst hln hfl hfr hll hlr hsg1
                  obtain ⟨L, rfl⟩ : ∃ L, e = p + L := ⟨e - p, by omega⟩
                  have hln' : len = (L : Int) := by omega
                  clear hln hfw
                  subst hst hln' hfl hfr hll hlr
                  obtain ⟨c0, c1, c2, c3, c4, c5, c6⟩ := hsg1
                  rw [Nat.zero_add] at c0 c1 c2 c3 c4 c5 c6
                  obtain ⟨d0, d1⟩ := (HF5.out p (by omega)).same (hbr.block _ (hfb5 (by omega)))
                  obtain ⟨d2, d3⟩ := (HF5.out (p + L - 1) (by omega)).same (hbr.block _ (hfb5 (by omega)))
                  rw [Nat.zero_add] at d0 d1 d2 d3
                  have hz6 : w5.heap.size ≤ wr.heap.size := hbr.size
                  have hg6 : g < wr.heap.size := by omega
                  have hf6 : w2.heap.size < wr.heap.size := by have := hfb5 (by omega); omega
                  obtain rfl := HFO.out (by omega)
                  have hL1 : 1 ≤ L := by omega
                  have hpd : decide ((m : Int) ≤ (p : Int)) = false := by simp; omega
                  have HFW : Hid _ := hfw'
                  clear hfw'
                  go_wp2_with fail
                  go_quiet (fail)
                  go_wp2_with fail
                  go_round
                  case rel => exact ⟨u + 1, p + L, by omega, by omega, by omega, by go_num, by go_num, HFW, bel_drewN (hbr.alloc (by omega) _) _⟩
                  case measure => simp [intOf]; omega
                · obtain rfl : u = O.length := by omega
                  rw [List.drop_length] at hfw
                  obtain rfl : p = m := hfw.out
                  go_wp2_with fail
                  go_ret
                  exact .mk (by simp) (HB0.out.trans (hbr.mono (by have := HB0.out.size; omega)))
            · obtain ⟨l1, l2⟩ := hO.last (by omega)
              rw [l1] at e5
              rw [l2] at e6
              obtain ⟨k0, k1⟩ := (HF5.out (c - 1) (by omega)).same (hbr.block _ (hfb5 (by omega)))
              rw [Nat.zero_add] at k0 k1
              have hcb : ((c : Int) == 0) = false := eq_false (by omega)
              have hf6 : w2.heap.size < w6.heap.size := by have := hfb5 (by omega); omega
              have hf7 : w2.heap.size < w6.heap.size + 1 := by omega
              have hf8 : w2.heap.size < w6.heap.size + 1 + 1 := by omega
              obtain rfl := HFO.out (by omega)
              have HC0 : Hid (¬ c = 0) := hc0
              have hc1 : 1 ≤ c := by omega
              clear hO l1 l2 hc0
              go_wp2_with fail
              try rw [hcov]
              clear hcov
              go_quiet (fail)
              go_wp2_with fail
              go_loopw [10, 14] (fun cc ii wr => ∃ u p : Nat, i + 1 ≤ u ∧ u ≤ O.length ∧ p ≤ m ∧ ii = .int .i64 u ∧ cc = .int .i64 p ∧ Hid (Fwd (wrap64 ((F i).start + (F i).len)) G m (O.drop u) p) ∧ Below w5.heap.size w5 wr) (fun _ ii _ => O.length - (intOf ii).toNat)
              case atStart => exact ⟨i + 1, c, Nat.le_refl _, HOL.out, hcm, rfl, rfl, HFD, bel_drewN ((hbr.alloc (by omega) _).alloc (by rw [size_alloc]; omega) _) _⟩
              case round =>
                obtain ⟨u, p, hli, hiO, hpm, rfl, rfl, hfw, hbr⟩ := hrel
                by_cases hul : u < O.length
                · obtain ⟨e, hem, hok, -, hfw'⟩ := fwd_drop hfw.out hul
                  have hsg1 := (HSG.out u O[u] (List.getElem?_eq_getElem hul)).same (hbr.block g hg5)
                  generalize O[u] = s at hok hsg1
                  obtain ⟨hpe, hst, hln, hfl, hfr, hll, hlr, -, -⟩ := hok
                  obtain ⟨kind, start, len, fl, fr, ll, lr⟩ := s
                  simp only at hst hln hfl hfr hll hlr hsg1
                  obtain ⟨L, rfl⟩ : ∃ L, e = p + L := ⟨e - p, by omega⟩
                  have hln' : len = (L : Int) := by omega
                  clear hln hfw
                  subst hst hln' hfl hfr hll hlr
                  obtain ⟨c0, c1, c2, c3, c4, c5, c6⟩ := hsg1
                  rw [Nat.zero_add] at c0 c1 c2 c3 c4 c5 c6
                  obtain ⟨d0, d1⟩ := (HF5.out p (by omega)).same (hbr.block _ (hfb5 (by omega)))
                  obtain ⟨d2, d3⟩ := (HF5.out (p + L - 1) (by omega)).same (hbr.block _ (hfb5 (by omega)))
                  rw [Nat.zero_add] at d0 d1 d2 d3
                  have hz6 : w5.heap.size ≤ wr.heap.size := hbr.size
                  have hg6 : g < wr.heap.size := by omega
                  have hf6 : w2.heap.size < wr.heap.size := by have := hfb5 (by omega); omega
                  have hL1 : 1 ≤ L := by omega
                  have hpd : decide ((m : Int) ≤ (p : Int)) = false := by simp; omega
                  have HFW : Hid _ := hfw'
                  clear hfw'
                  go_wp2_with fail
                  go_quiet (fail)
                  go_wp2_with fail
                  go_round
                  case rel => exact ⟨u + 1, p + L, by omega, by omega, by omega, by go_num, by go_num, HFW, bel_drewN (hbr.alloc (by omega) _) _⟩
                  case measure => simp [intOf]; omega
                · obtain rfl : u = O.length := by omega
                  rw [List.drop_length] at hfw
                  obtain rfl : p = m := hfw.out
                  go_wp2_with fail
                  go_ret
                  exact .mk (by simp) (HB0.out.trans (hbr.mono (by have := HB0.out.size; omega)))
end Go.Proofs.Qxb6600087a
