import Derived.Test.Qxb6600087aCut
namespace Go.Proofs.Qxb6600087a
open Go.ChangeShapes Go.WideShapes Go.ChangeAt Go.RowKit
set_option maxRecDepth 100000 in
set_option maxHeartbeats 8000000 in
theorem cut_nil (fo ao : Option Addr) (b m fc cap : Nat) (G : Nat → Frm) (base : Nat) (w : World) (hfo : 0 < m → fo = some ⟨b, 0, none⟩) (hm : m ≤ 262144)
    (hfr : ∀ k, k < m → FrAt w b 0 k (G k)) (hbb : 0 < m → b < base) (hown : w.ownsRow base 35 7 (.slice ao 0 cap) 0 []) (hbase : base ≤ w.heap.size) :
    Calls Try.prog 10 #[.slice ao 0 cap, .slice fo m fc] w fun e w' => ∃ v', e = .returned v' ∧ Cut w w' base 0 G [] m v' := by
  obtain ⟨i0, hi, hz0, hz1, hz2⟩ := info_parts Try.info35
  by_cases h0 : m = 0
  · subst h0
    go_enter Try.func10, Try.ntmps10
    go_wp2
    refine wp_loop_rounds 1 ?_
    rw [rounds_succ]
    go_wp2
    go_ret
    exact ⟨_, rfl, hown, Below.refl _ _, hbase⟩
  · obtain rfl := hfo (by omega)
    go_enter Try.func10, Try.ntmps10
    go_wp2
    go_loopw [0, 32] (fun v ii wr => ∃ (i : Nat) (ao : Option Addr) (cap : Nat), i ≤ m ∧ ii = .int .i64 i ∧ v = .slice ao (runR 0 G [] i).length cap ∧ Cut w wr base 0 G [] i (.slice ao (runR 0 G [] i).length cap)) (fun _ ii _ => m - (intOf ii).toNat)
    case atStart => exact ⟨0, ao, cap, Nat.zero_le _, rfl, rfl, hown, Below.refl _ _, hbase⟩
    case round =>
      obtain ⟨i, ao, cap, him, rfl, rfl, hcut⟩ := hrel
      have hrl := runR_len 0 G [] i
      by_cases hlt : i < m
      · obtain ⟨c0, c1⟩ := (hfr i hlt).same (hcut.below.block b (hbb (by omega)))
        rw [Nat.zero_add] at c0 c1
        have HST : Hid (runR 0 G [] (i + 1) = stepR 0 i (G i) (runR 0 G [] i)) := rfl
        have HM : Hid (mk1 0 i (G i) = (⟨cls (G i), (i : Int), 1, (G i).l, (G i).r, (G i).l, (G i).r⟩ : Seg)) := by show _ = _; simp only [mk1]; rw [Int.zero_add, IntWalk.wrap64_in _ ⟨by omega, by omega⟩]
        have hsz := hcut.size
        have hbl0 : b < wr.heap.size := by have := hbb (by omega); omega
        obtain ⟨R, hR⟩ : ∃ R, runR 0 G [] i = R := ⟨_, rfl⟩
        have hown1 := hcut.owns
        rw [hR] at hown1 hrl HST hcut ⊢
        simp only [List.length_nil, Nat.zero_add] at hrl
        clear hfr hown hR
        cases R with
        | nil =>
          go_wp2_with (first | (go_at_call 7; refine (cls_any (G i) _).mono ?_; rintro e w1 ⟨rfl, hb1⟩; obtain ⟨e0, e1, hz, hbw⟩ := box2 hb1; clear hb1) | (at_builtin; refine wpList_append_own _ rfl _ _ 32 rfl base 35 i0 _ 7 32 Try.underlying32 hi hz0 hz1 hz2 rfl (by decide) _ (0) (encS ([] : List Seg).reverse) rfl ((owns_below hown1 hbw).alloc _) ⟨w1.heap.size, 0, none⟩ 1 1 (cellsOf (⟨cls (G i), (i : Int), 1, (G i).l, (G i).r, (G i).l, (G i).r⟩ : Seg)) rfl rfl (news_at (heap_new _ _ _ rfl)) (one_cells _) (by unfold maxLen; omega) (by omega) (by simp; omega) ?_; intro v' w2 hown2 hgrow2 hx; obtain ⟨ao', cap', hv', hy⟩ := owns_shape hown2; rw [hv'] at hown2; rw [hv']))
          go_round
          case rel =>
            have hrun : runR 0 G [] (i + 1) = (⟨cls (G i), (i : Int), 1, (G i).l, (G i).r, (G i).l, (G i).r⟩ : Seg) :: [] := by rw [HST.out]; simp only [stepR]; rw [HM.out]
            refine ⟨i + 1, ao', cap', by omega, by go_num, by rw [hrun]; rfl, ?_⟩
            have hlen : (runR 0 G [] (i + 1)).length = 0 + 1 := by rw [hrun]; rfl
            rw [hlen]
            exact Cut.app hcut (bel_alloc hbw _) hown2 hgrow2 hrun
          case measure => simp [intOf]; omega
        | cons s P =>
          simp only [List.length_cons] at hown1 hrl hcut ⊢
          obtain ⟨ao2, cap2, heq, hg⟩ := owns_shape hown1
          cases heq
          obtain ⟨g, rfl, hbg, hgl⟩ := hg (by omega)
          clear hg
          by_cases hk1 : cls (G i) = 1
          · have b1 := eq_true hk1
            by_cases hs : s.kind = cls (G i)
            · have bs := eq_true hs
              by_cases hl : (G i).l = IntKind.i16.wrap (s.ll + 1)
              · have bl := eq_true hl
                clear hk1 hs hl
                have HC : Hid (cont s (G i) = true) := by show _ = _; simp [cont, ramp, nxt, b1, bs, bl]
                go_wp2_with (go_at_call 7; refine (cls_any (G i) _).mono ?_; rintro e w1 ⟨rfl, hb1⟩; obtain ⟨e0, e1, hz, hbw⟩ := box2 hb1; have ho1 := owns_below hown1 hbw; obtain ⟨k0, k1, k2, k3, k4, k5, k6⟩ := last_at ho1; rw [Nat.zero_add] at k0 k1 k2 k3 k4 k5 k6; have hfz := fun j => World.ownsRow.frozenAt ho1 j; have hg1 := Nat.lt_trans hgl hz; clear hb1 hown1)
                go_quiet (fail)
                go_wp2
                go_round
                case rel =>
                  have hrun : runR 0 G [] (i + 1) = ext s (G i) :: P := by rw [HST.out]; simp only [stepR]; rw [if_pos HC.out]
                  refine ⟨i + 1, some ⟨g, 0, none⟩, cap, by omega, by go_num, by rw [hrun]; rfl, ?_⟩
                  have hlen : (runR 0 G [] (i + 1)).length = P.length + 1 := by rw [hrun]; rfl
                  rw [hlen]
                  exact Cut.ext (w1 := w1.drewN nq) (bel_drewN (hcut.below.trans (hbw.mono hsz)) nq) hbg (by show base ≤ w1.heap.size; omega) ho1 hrun
                case measure => simp [intOf]; omega
              · have bl := eq_false hl
                clear hk1 hs hl
                have HC : Hid (¬ cont s (G i) = true) := by show ¬ _; simp [cont, ramp, nxt, b1, bs, bl]
                go_wp2_with (go_at_call 7; refine (cls_any (G i) _).mono ?_; rintro e w1 ⟨rfl, hb1⟩; obtain ⟨e0, e1, hz, hbw⟩ := box2 hb1; have ho1 := owns_below hown1 hbw; obtain ⟨k0, k1, k2, k3, k4, k5, k6⟩ := last_at ho1; rw [Nat.zero_add] at k0 k1 k2 k3 k4 k5 k6; have hfz := fun j => World.ownsRow.frozenAt ho1 j; have hg1 := Nat.lt_trans hgl hz; clear hb1 hown1)
                go_quiet (fail)
                go_wp2_with (at_builtin; refine wpList_append_own _ rfl _ _ 32 rfl base 35 i0 _ 7 32 Try.underlying32 hi hz0 hz1 hz2 rfl (by decide) _ (P.length + 1) (encS (s :: P).reverse) rfl (World.ownsRow.alloc (w := w1) ho1 _) ⟨w1.heap.size, 0, none⟩ 1 1 (cellsOf (⟨cls (G i), (i : Int), 1, (G i).l, (G i).r, (G i).l, (G i).r⟩ : Seg)) rfl rfl (news_at (heap_new _ _ _ rfl)) (one_cells _) (by unfold maxLen; omega) (by omega) (by simp; omega) ?_; intro v' w2 hown2 hgrow2 hx; obtain ⟨ao', cap', hv', hy⟩ := owns_shape hown2; rw [hv'] at hown2; rw [hv'])
                go_round
                case rel =>
                  have hrun : runR 0 G [] (i + 1) = (⟨cls (G i), (i : Int), 1, (G i).l, (G i).r, (G i).l, (G i).r⟩ : Seg) :: s :: P := by rw [HST.out]; simp only [stepR]; rw [if_neg HC.out, HM.out]
                  refine ⟨i + 1, ao', cap', by omega, by go_num, by rw [hrun]; rfl, ?_⟩
                  have hlen : (runR 0 G [] (i + 1)).length = P.length + 1 + 1 := by rw [hrun]; rfl
                  rw [hlen]
                  exact Cut.app hcut (bel_drewN (bel_alloc hbw _) nq) hown2 hgrow2 hrun
                case measure => simp [intOf]; omega
            · have bs := eq_false hs
              clear hk1 hs
              have HC : Hid (¬ cont s (G i) = true) := by show ¬ _; simp [cont, ramp, nxt, bs]
              go_wp2_with (go_at_call 7; refine (cls_any (G i) _).mono ?_; rintro e w1 ⟨rfl, hb1⟩; obtain ⟨e0, e1, hz, hbw⟩ := box2 hb1; have ho1 := owns_below hown1 hbw; obtain ⟨k0, k1, k2, k3, k4, k5, k6⟩ := last_at ho1; rw [Nat.zero_add] at k0 k1 k2 k3 k4 k5 k6; have hfz := fun j => World.ownsRow.frozenAt ho1 j; have hg1 := Nat.lt_trans hgl hz; clear hb1 hown1)
              go_quiet (fail)
              go_wp2_with (at_builtin; refine wpList_append_own _ rfl _ _ 32 rfl base 35 i0 _ 7 32 Try.underlying32 hi hz0 hz1 hz2 rfl (by decide) _ (P.length + 1) (encS (s :: P).reverse) rfl (World.ownsRow.alloc (w := w1) ho1 _) ⟨w1.heap.size, 0, none⟩ 1 1 (cellsOf (⟨cls (G i), (i : Int), 1, (G i).l, (G i).r, (G i).l, (G i).r⟩ : Seg)) rfl rfl (news_at (heap_new _ _ _ rfl)) (one_cells _) (by unfold maxLen; omega) (by omega) (by simp; omega) ?_; intro v' w2 hown2 hgrow2 hx; obtain ⟨ao', cap', hv', hy⟩ := owns_shape hown2; rw [hv'] at hown2; rw [hv'])
              go_round
              case rel =>
                have hrun : runR 0 G [] (i + 1) = (⟨cls (G i), (i : Int), 1, (G i).l, (G i).r, (G i).l, (G i).r⟩ : Seg) :: s :: P := by rw [HST.out]; simp only [stepR]; rw [if_neg HC.out, HM.out]
                refine ⟨i + 1, ao', cap', by omega, by go_num, by rw [hrun]; rfl, ?_⟩
                have hlen : (runR 0 G [] (i + 1)).length = P.length + 1 + 1 := by rw [hrun]; rfl
                rw [hlen]
                exact Cut.app hcut (bel_drewN (bel_alloc hbw _) nq) hown2 hgrow2 hrun
              case measure => simp [intOf]; omega
          · have b1 := eq_false hk1
            by_cases hk2 : cls (G i) = 2
            · have b2 := eq_true hk2
              by_cases hs : s.kind = cls (G i)
              · have bs := eq_true hs
                by_cases hl : (G i).l = IntKind.i16.wrap (s.ll + 1)
                · have bl := eq_true hl
                  clear hk1 hk2 hs hl
                  have HC : Hid (cont s (G i) = true) := by show _ = _; simp [cont, ramp, nxt, b1, b2, bs, bl]
                  go_wp2_with (go_at_call 7; refine (cls_any (G i) _).mono ?_; rintro e w1 ⟨rfl, hb1⟩; obtain ⟨e0, e1, hz, hbw⟩ := box2 hb1; have ho1 := owns_below hown1 hbw; obtain ⟨k0, k1, k2, k3, k4, k5, k6⟩ := last_at ho1; rw [Nat.zero_add] at k0 k1 k2 k3 k4 k5 k6; have hfz := fun j => World.ownsRow.frozenAt ho1 j; have hg1 := Nat.lt_trans hgl hz; clear hb1 hown1)
                  go_quiet (fail)
                  go_wp2
                  go_round
                  case rel =>
                    have hrun : runR 0 G [] (i + 1) = ext s (G i) :: P := by rw [HST.out]; simp only [stepR]; rw [if_pos HC.out]
                    refine ⟨i + 1, some ⟨g, 0, none⟩, cap, by omega, by go_num, by rw [hrun]; rfl, ?_⟩
                    have hlen : (runR 0 G [] (i + 1)).length = P.length + 1 := by rw [hrun]; rfl
                    rw [hlen]
                    exact Cut.ext (w1 := w1.drewN nq) (bel_drewN (hcut.below.trans (hbw.mono hsz)) nq) hbg (by show base ≤ w1.heap.size; omega) ho1 hrun
                  case measure => simp [intOf]; omega
                · have bl := eq_false hl
                  clear hk1 hk2 hs hl
                  have HC : Hid (¬ cont s (G i) = true) := by show ¬ _; simp [cont, ramp, nxt, b1, b2, bs, bl]
                  go_wp2_with (go_at_call 7; refine (cls_any (G i) _).mono ?_; rintro e w1 ⟨rfl, hb1⟩; obtain ⟨e0, e1, hz, hbw⟩ := box2 hb1; have ho1 := owns_below hown1 hbw; obtain ⟨k0, k1, k2, k3, k4, k5, k6⟩ := last_at ho1; rw [Nat.zero_add] at k0 k1 k2 k3 k4 k5 k6; have hfz := fun j => World.ownsRow.frozenAt ho1 j; have hg1 := Nat.lt_trans hgl hz; clear hb1 hown1)
                  go_quiet (fail)
                  go_wp2_with (at_builtin; refine wpList_append_own _ rfl _ _ 32 rfl base 35 i0 _ 7 32 Try.underlying32 hi hz0 hz1 hz2 rfl (by decide) _ (P.length + 1) (encS (s :: P).reverse) rfl (World.ownsRow.alloc (w := w1) ho1 _) ⟨w1.heap.size, 0, none⟩ 1 1 (cellsOf (⟨cls (G i), (i : Int), 1, (G i).l, (G i).r, (G i).l, (G i).r⟩ : Seg)) rfl rfl (news_at (heap_new _ _ _ rfl)) (one_cells _) (by unfold maxLen; omega) (by omega) (by simp; omega) ?_; intro v' w2 hown2 hgrow2 hx; obtain ⟨ao', cap', hv', hy⟩ := owns_shape hown2; rw [hv'] at hown2; rw [hv'])
                  go_round
                  case rel =>
                    have hrun : runR 0 G [] (i + 1) = (⟨cls (G i), (i : Int), 1, (G i).l, (G i).r, (G i).l, (G i).r⟩ : Seg) :: s :: P := by rw [HST.out]; simp only [stepR]; rw [if_neg HC.out, HM.out]
                    refine ⟨i + 1, ao', cap', by omega, by go_num, by rw [hrun]; rfl, ?_⟩
                    have hlen : (runR 0 G [] (i + 1)).length = P.length + 1 + 1 := by rw [hrun]; rfl
                    rw [hlen]
                    exact Cut.app hcut (bel_drewN (bel_alloc hbw _) nq) hown2 hgrow2 hrun
                  case measure => simp [intOf]; omega
              · have bs := eq_false hs
                clear hk1 hk2 hs
                have HC : Hid (¬ cont s (G i) = true) := by show ¬ _; simp [cont, ramp, nxt, bs]
                go_wp2_with (go_at_call 7; refine (cls_any (G i) _).mono ?_; rintro e w1 ⟨rfl, hb1⟩; obtain ⟨e0, e1, hz, hbw⟩ := box2 hb1; have ho1 := owns_below hown1 hbw; obtain ⟨k0, k1, k2, k3, k4, k5, k6⟩ := last_at ho1; rw [Nat.zero_add] at k0 k1 k2 k3 k4 k5 k6; have hfz := fun j => World.ownsRow.frozenAt ho1 j; have hg1 := Nat.lt_trans hgl hz; clear hb1 hown1)
                go_quiet (fail)
                go_wp2_with (at_builtin; refine wpList_append_own _ rfl _ _ 32 rfl base 35 i0 _ 7 32 Try.underlying32 hi hz0 hz1 hz2 rfl (by decide) _ (P.length + 1) (encS (s :: P).reverse) rfl (World.ownsRow.alloc (w := w1) ho1 _) ⟨w1.heap.size, 0, none⟩ 1 1 (cellsOf (⟨cls (G i), (i : Int), 1, (G i).l, (G i).r, (G i).l, (G i).r⟩ : Seg)) rfl rfl (news_at (heap_new _ _ _ rfl)) (one_cells _) (by unfold maxLen; omega) (by omega) (by simp; omega) ?_; intro v' w2 hown2 hgrow2 hx; obtain ⟨ao', cap', hv', hy⟩ := owns_shape hown2; rw [hv'] at hown2; rw [hv'])
                go_round
                case rel =>
                  have hrun : runR 0 G [] (i + 1) = (⟨cls (G i), (i : Int), 1, (G i).l, (G i).r, (G i).l, (G i).r⟩ : Seg) :: s :: P := by rw [HST.out]; simp only [stepR]; rw [if_neg HC.out, HM.out]
                  refine ⟨i + 1, ao', cap', by omega, by go_num, by rw [hrun]; rfl, ?_⟩
                  have hlen : (runR 0 G [] (i + 1)).length = P.length + 1 + 1 := by rw [hrun]; rfl
                  rw [hlen]
                  exact Cut.app hcut (bel_drewN (bel_alloc hbw _) nq) hown2 hgrow2 hrun
                case measure => simp [intOf]; omega
            · have b2 := eq_false hk2
              by_cases hs : s.kind = cls (G i)
              · have bs := eq_true hs
                clear hk1 hk2 hs
                have HC : Hid (cont s (G i) = true) := by show _ = _; simp [cont, ramp, nxt, b1, b2, bs]
                go_wp2_with (go_at_call 7; refine (cls_any (G i) _).mono ?_; rintro e w1 ⟨rfl, hb1⟩; obtain ⟨e0, e1, hz, hbw⟩ := box2 hb1; have ho1 := owns_below hown1 hbw; obtain ⟨k0, k1, k2, k3, k4, k5, k6⟩ := last_at ho1; rw [Nat.zero_add] at k0 k1 k2 k3 k4 k5 k6; have hfz := fun j => World.ownsRow.frozenAt ho1 j; have hg1 := Nat.lt_trans hgl hz; clear hb1 hown1)
                go_quiet (fail)
                go_wp2
                go_round
                case rel =>
                  have hrun : runR 0 G [] (i + 1) = ext s (G i) :: P := by rw [HST.out]; simp only [stepR]; rw [if_pos HC.out]
                  refine ⟨i + 1, some ⟨g, 0, none⟩, cap, by omega, by go_num, by rw [hrun]; rfl, ?_⟩
                  have hlen : (runR 0 G [] (i + 1)).length = P.length + 1 := by rw [hrun]; rfl
                  rw [hlen]
                  exact Cut.ext (w1 := w1.drewN nq) (bel_drewN (hcut.below.trans (hbw.mono hsz)) nq) hbg (by show base ≤ w1.heap.size; omega) ho1 hrun
                case measure => simp [intOf]; omega
              · have bs := eq_false hs
                clear hk1 hk2 hs
                have HC : Hid (¬ cont s (G i) = true) := by show ¬ _; simp [cont, ramp, nxt, bs]
                go_wp2_with (go_at_call 7; refine (cls_any (G i) _).mono ?_; rintro e w1 ⟨rfl, hb1⟩; obtain ⟨e0, e1, hz, hbw⟩ := box2 hb1; have ho1 := owns_below hown1 hbw; obtain ⟨k0, k1, k2, k3, k4, k5, k6⟩ := last_at ho1; rw [Nat.zero_add] at k0 k1 k2 k3 k4 k5 k6; have hfz := fun j => World.ownsRow.frozenAt ho1 j; have hg1 := Nat.lt_trans hgl hz; clear hb1 hown1)
                go_quiet (fail)
                go_wp2_with (at_builtin; refine wpList_append_own _ rfl _ _ 32 rfl base 35 i0 _ 7 32 Try.underlying32 hi hz0 hz1 hz2 rfl (by decide) _ (P.length + 1) (encS (s :: P).reverse) rfl (World.ownsRow.alloc (w := w1) ho1 _) ⟨w1.heap.size, 0, none⟩ 1 1 (cellsOf (⟨cls (G i), (i : Int), 1, (G i).l, (G i).r, (G i).l, (G i).r⟩ : Seg)) rfl rfl (news_at (heap_new _ _ _ rfl)) (one_cells _) (by unfold maxLen; omega) (by omega) (by simp; omega) ?_; intro v' w2 hown2 hgrow2 hx; obtain ⟨ao', cap', hv', hy⟩ := owns_shape hown2; rw [hv'] at hown2; rw [hv'])
                go_round
                case rel =>
                  have hrun : runR 0 G [] (i + 1) = (⟨cls (G i), (i : Int), 1, (G i).l, (G i).r, (G i).l, (G i).r⟩ : Seg) :: s :: P := by rw [HST.out]; simp only [stepR]; rw [if_neg HC.out, HM.out]
                  refine ⟨i + 1, ao', cap', by omega, by go_num, by rw [hrun]; rfl, ?_⟩
                  have hlen : (runR 0 G [] (i + 1)).length = P.length + 1 + 1 := by rw [hrun]; rfl
                  rw [hlen]
                  exact Cut.app hcut (bel_drewN (bel_alloc hbw _) nq) hown2 hgrow2 hrun
                case measure => simp [intOf]; omega
      · obtain rfl : i = m := by omega
        go_wp2
        go_ret
        exact ⟨_, rfl, hcut⟩
end Go.Proofs.Qxb6600087a
