import Derived.Test.Qxb6600087aFwd
import Derived.Test.Qxb6600087aCutNil
namespace Go.Proofs.Qxb6600087a
open Go.ChangeShapes Go.WideShapes Go.ChangeAt Go.RowKit

set_option maxRecDepth 100000 in
set_option maxHeartbeats 8000000 in
theorem tiles_some (a : Addr) (b off cap : Nat) (m : Nat) (G : Nat → Frm) (w : World) (ha : 0 < m → a = ⟨b, off, none⟩) (hm : m ≤ maxLen) (hc : ∀ k, k < m → FrAt w b off k (G k)) :
    Calls Try.prog 5 #[.slice (some a) m cap] w (Fine w) := by
  go_enter Try.func5, Try.ntmps5
  go_wp2_with fail
  refine (zz11 (some a) m cap w hm).mono ?_
  rintro e w1 ⟨⟨r, rfl, -⟩, rfl⟩
  cases r with
  | false =>
    go_wp2
    go_ret
    exact .mk rfl (Below.refl _ _)
  | true =>
    unfold maxLen at hm
    by_cases hl : 262144 < m
    · go_wp2_with fail
      go_ret
      exact .mk rfl (Below.refl _ _)
    · go_wp2_with fail
      refine (frames_any a b off cap m G w1 ha (by omega) hc).mono ?_
      rintro e w2 ⟨rfl, hf2, hb2, hz2⟩
      go_wp2_with fail
      refine (cut_nil (some ⟨w1.heap.size, 0, none⟩) none w1.heap.size m m 0 G w2.heap.size w2 (fun _ => rfl) (by omega) hf2 (fun _ => hz2) (World.ownsRow_nil _ _ _ _) (Nat.le_refl _)).mono ?_
      rintro e w3 ⟨v', rfl, hcut⟩
      have hF := fwd_run G m (by omega)
      have hown := hcut.owns
      have hf3 : ∀ k, k < m → FrAt w3 w1.heap.size 0 k (G k) := fun k hk => (hf2 k hk).same (hcut.below.block _ hz2)
      have hz3 : w1.heap.size < w3.heap.size := Nat.lt_of_lt_of_le hz2 hcut.below.size
      have hb0 : Below w1.heap.size w1 w3 := hb2.trans (hcut.below.mono (by omega))
      clear hcut hf2 hc ha hb2 hz2
      obtain ⟨S, hS⟩ : ∃ S, (runR 0 G [] m).reverse = S := ⟨_, rfl⟩
      have hn : (runR 0 G [] m).length = S.length := by rw [← hS, List.length_reverse]
      rw [hS] at hF hown
      rw [hn] at hown
      have hnm := runR_len 0 G [] m
      rw [hn] at hnm
      simp only [List.length_nil, Nat.zero_add] at hnm
      clear hS hn
      obtain ⟨ao, cap2, rfl, hao⟩ := owns_shape hown
      go_wp2_with fail
      go_loopw [5, 6] (fun pp ii wr => ∃ i p : Nat, i ≤ S.length ∧ p ≤ m ∧ ii = .int .i64 i ∧ pp = .int .i64 p ∧ Hid (Fwd 0 G m (S.drop i) p) ∧ Below w3.heap.size w3 wr) (fun _ ii _ => S.length - (intOf ii).toNat)
      case atStart => exact ⟨0, 0, Nat.zero_le _, Nat.zero_le _, rfl, rfl, hF, Below.refl _ _⟩
      case round =>
        obtain ⟨i, p, hin, hpm, rfl, rfl, hfw, hbr⟩ := hrel
        clear hF
        rename World => w4
        by_cases hil : i < S.length
        · obtain ⟨g, rfl, -, hg3⟩ := hao (by omega)
          obtain ⟨e, hem, hok, hct, hfw'⟩ := fwd_drop hfw.out hil
          have hsg := (segAt_owns hown rfl hil).same (hbr.block g hg3)
          generalize S[i] = s at hok hct hsg
          have hz4 : w3.heap.size ≤ w4.heap.size := hbr.size
          have hf4 : ∀ k, k < m → FrAt w4 w1.heap.size 0 k (G k) := fun k hk => (hf3 k hk).same (hbr.block _ hz3)
          obtain ⟨hpe, hst, hln, hfl, hfr, hll, hlr, hkd, hrp⟩ := hok
          obtain ⟨kind, start, len, fl, fr, ll, lr⟩ := s
          simp only at hst hln hfl hfr hll hlr hkd hrp hsg hct
          rw [Int.zero_add, IntWalk.wrap64_in _ ⟨by omega, by omega⟩] at hst
          obtain ⟨L, rfl⟩ : ∃ L, e = p + L := ⟨e - p, by omega⟩
          have hln' : len = (L : Int) := by omega
          clear hln hfw
          subst hst hln' hfl hfr hll hlr
          obtain ⟨c0, c1, c2, c3, c4, c5, c6⟩ := hsg
          rw [Nat.zero_add] at c0 c1 c2 c3 c4 c5 c6
          obtain ⟨d0, d1⟩ := hf4 p (by omega)
          obtain ⟨d2, d3⟩ := hf4 (p + L - 1) (by omega)
          rw [Nat.zero_add] at d0 d1 d2 d3
          have hL1 : 1 ≤ L := by omega
          have hg4 : g < w4.heap.size := by omega
          have hfb4 : w1.heap.size < w4.heap.size := by omega
          have HFW : Hid _ := hfw'
          have HCT : Hid _ := hct
          have HKD : Hid _ := hkd
          have HRP : Hid _ := hrp
          have HF3 : Hid _ := hf3
          have HOW : Hid _ := hown
          clear hfw' hct hkd hrp hf3 hown hf4 hao
          by_cases hk1 : kind = 1
          · have b1 := eq_true hk1
            have H1 : Hid (kind = 1) := hk1
            clear hk1
            go_wp2_with fail
            go_quiet (fail)
            go_wp2_with fail
            go_loopw [9] (fun jj wr => ∃ j : Nat, p ≤ j ∧ j ≤ p + L ∧ jj = .int .i64 j ∧ Below (w4.heap.size + 1) (w4.alloc (segBox ⟨kind, (p : Int), (L : Int), (G p).l, (G p).r, (G (p + L - 1)).l, (G (p + L - 1)).r⟩)) wr) (fun jj _ => p + L - (intOf jj).toNat)
            case atStart => exact ⟨p, Nat.le_refl _, by omega, rfl, bel_drewN (Below.refl _ _) _⟩
            case round =>
              obtain ⟨j, hpj, hjL, rfl, hbx⟩ := hrel
              obtain ⟨⟨q0, q1, q2, q3, q4, q5, q6⟩, hz5, hb5⟩ := box7 hbx
              simp only [Nat.zero_mul, Nat.zero_add] at q0 q1 q2 q3 q4 q5 q6
              have hf5 : ∀ k, k < m → FrAt wr w1.heap.size 0 k (G k) := fun k hk => (HF3.out k hk).same ((hb5.block _ hfb4).trans (hbr.block _ hz3))
              have hfb5 : w1.heap.size < wr.heap.size := by omega
              clear c0 c1 c2 c3 c4 c5 c6 d0 d1 d2 d3
              by_cases hjl : j < p + L
              · obtain ⟨f0, f1⟩ := hf5 j (by omega)
                rw [Nat.zero_add] at f0 f1
                have HKJ : Hid (cls (G j) = kind) := HKD.out j hpj hjl
                have hjm : (j : Int) < (m : Int) := by omega
                go_wp2_with fail
                refine wp_region_quiet (C := fun w' => Below wr.heap.size wr w') (by kernel_rfl) (by kernel_rfl) (Below.drew (Below.refl _ _)) ?_
                have hcl : ∀ w', Below wr.heap.size wr w' → w'.cell? ⟨w1.heap.size, j * 2, none⟩ = some (.int .i16 (G j).l) ∧ w'.cell? ⟨w1.heap.size, j * 2 + 1, none⟩ = some (.int .i16 (G j).r) ∧ w'.cell? ⟨w4.heap.size, 0, none⟩ = some (.int .u8 kind) := fun w' hw' => ⟨by rw [cell_same (hw'.block _ hfb5)]; exact f0, by rw [cell_same (hw'.block _ hfb5)]; exact f1, by rw [cell_same (hw'.block _ hz5)]; exact q0⟩
                refine q_val (.slice (some ⟨w1.heap.size, 0, none⟩) m m) rfl (fun _ _ => rfl) ?_
                simp only [Act.put, List.setIfInBounds_toArray, List.set_cons_succ, List.set_cons_zero]
                refine q_val (.int .i64 j) rfl (fun _ _ => rfl) ?_
                simp only [Act.put, List.setIfInBounds_toArray, List.set_cons_succ, List.set_cons_zero]
                refine q_val (.pointer (some ⟨w1.heap.size, j * 2, none⟩)) rfl (fun w' _ => by go_simp) ?_
                simp only [Act.put, List.setIfInBounds_toArray, List.set_cons_succ, List.set_cons_zero]
                refine q_val (.agg #[.int .i16 (G j).l, .int .i16 (G j).r]) rfl (fun w' hw' => by obtain ⟨h1, h2, _⟩ := hcl w' hw'; clear hcl f0 f1; go_simp) ?_
                simp only [Act.put, List.setIfInBounds_toArray, List.set_cons_succ, List.set_cons_zero]
                refine q_call (.int .u8 kind) 7 #[.agg #[.int .i16 (G j).l, .int .i16 (G j).r]] rfl (fun w' _ => by go_simp) (fun w' hw' => cls_at (G j) kind HKJ.out wr w' hw') ?_
                simp only [Act.put, List.setIfInBounds_toArray, List.set_cons_succ, List.set_cons_zero]
                refine q_val (.pointer (some ⟨w4.heap.size, 0, none⟩)) rfl (fun w' _ => by go_simp) ?_
                simp only [Act.put, List.setIfInBounds_toArray, List.set_cons_succ, List.set_cons_zero]
                refine q_val (.int .u8 kind) rfl (fun w' hw' => by obtain ⟨_, _, h3⟩ := hcl w' hw'; clear hcl q0; go_simp) ?_
                simp only [Act.put, List.setIfInBounds_toArray, List.set_cons_succ, List.set_cons_zero]
                refine q_val (.bool false) rfl (fun w' _ => by go_simp) ?_
                simp only [Act.put, List.setIfInBounds_toArray, List.set_cons_succ, List.set_cons_zero]
                refine wpQuiet_nil ?_
                intro w5 hw5
                clear hcl f0 f1 q0 q1 q2 q3 q4 q5 q6
                by_cases hjp : p < j
                · obtain ⟨f0, f1⟩ := (hf5 j (by omega)).same (hw5.block _ hfb5)
                  obtain ⟨f2, f3⟩ := (hf5 (j - 1) (by omega)).same (hw5.block _ hfb5)
                  rw [Nat.zero_add] at f0 f1 f2 f3
                  have hdj : decide ((p : Int) < (j : Int)) = true := by simp; omega
                  have hnx : ((G j).l != IntKind.i16.wrap ((G (j - 1)).l + 1)) = false := by
                    have h := HRP.out (by simp [ramp, H1.out]) j hjp hjl
                    simp only [nxt] at h
                    rw [h]; simp
                  go_wp2_with fail
                  go_quiet (fail)
                  go_wp2_with fail
                  go_round
                  case rel => exact ⟨j + 1, by omega, by omega, by go_num, bel_drewN (hbx.trans (hw5.mono (by omega))) _⟩
                  case measure => simp [intOf]; omega
                · have hdj : decide ((p : Int) < (j : Int)) = false := by simp; omega
                  go_wp2_with fail
                  go_quiet (fail)
                  go_wp2_with fail
                  go_round
                  case rel => exact ⟨j + 1, by omega, by omega, by go_num, bel_drewN (hbx.trans (hw5.mono (by omega))) _⟩
                  case measure => simp [intOf]; omega
              · obtain rfl : j = p + L := by omega
                have HB : Below w3.heap.size w3 wr := hbr.trans (hb5.mono (by omega))
                by_cases hem2 : p + L < m
                · obtain ⟨f0, f1⟩ := hf5 (p + L) hem2
                  rw [Nat.zero_add] at f0 f1
                  have HCE : Hid (cont ⟨kind, (p : Int), (L : Int), (G p).l, (G p).r, (G (p + L - 1)).l, (G (p + L - 1)).r⟩ (G (p + L)) = false) := HCT.out hem2
                  have hz6 : w4.heap.size < wr.heap.size + 1 := by omega
                  go_wp2_with fail
                  obtain ⟨W6, hW6⟩ : ∃ W6, W6 = wr.alloc (.cells #[.int .i16 (G (p + L)).l, .int .i16 (G (p + L)).r] 26) := ⟨_, rfl⟩
                  rw [← hW6]
                  have r0 : W6.cell? ⟨wr.heap.size, 0, none⟩ = some (.int .i16 (G (p + L)).l) := by rw [hW6]; exact World.cell?_alloc_new _ _ _ _
                  have r1 : W6.cell? ⟨wr.heap.size, 1, none⟩ = some (.int .i16 (G (p + L)).r) := by rw [hW6]; exact World.cell?_alloc_new _ _ _ _
                  have r2 : W6.cell? ⟨w4.heap.size, 0, none⟩ = some (.int .u8 kind) := by rw [hW6]; exact cell_old _ _ _ _ q0
                  have r5 : W6.cell? ⟨w4.heap.size, 5, none⟩ = some (.int .i16 (G (p + L - 1)).l) := by rw [hW6]; exact cell_old _ _ _ _ q5
                  have rs : W6.heap.size = wr.heap.size + 1 := by rw [hW6]; exact size_alloc _ _
                  have HB6 : Below w3.heap.size w3 W6 := by rw [hW6]; exact HB.alloc (by omega) _
                  clear hW6 f0 f1 q0 q1 q2 q3 q4 q5 q6
                  refine wp_region_quiet (C := fun w' => Below W6.heap.size W6 w') (by kernel_rfl) (by kernel_rfl) (Below.drew (Below.refl _ _)) ?_
                  have hcl : ∀ w', Below W6.heap.size W6 w' → w'.cell? ⟨wr.heap.size, 0, none⟩ = some (.int .i16 (G (p + L)).l) ∧ w'.cell? ⟨wr.heap.size, 1, none⟩ = some (.int .i16 (G (p + L)).r) ∧ w'.cell? ⟨w4.heap.size, 0, none⟩ = some (.int .u8 kind) ∧ w'.cell? ⟨w4.heap.size, 5, none⟩ = some (.int .i16 (G (p + L - 1)).l) := fun w' hw' => ⟨by rw [cell_same (hw'.block _ (by omega))]; exact r0, by rw [cell_same (hw'.block _ (by omega))]; exact r1, by rw [cell_same (hw'.block _ (by omega))]; exact r2, by rw [cell_same (hw'.block _ (by omega))]; exact r5⟩
                  clear r0 r1 r2 r5
                  by_cases hcq : cls (G (p + L)) = kind
                  · have bq := eq_true hcq
                    have bl : ((G (p + L)).l == IntKind.i16.wrap ((G (p + L - 1)).l + 1)) = false := by
                      have h := HCE.out
                      simpa [cont, hcq, ramp, H1.out, nxt] using h
                    clear hcq
                    refine q_val (.agg #[.int .i16 (G (p + L)).l, .int .i16 (G (p + L)).r]) rfl (fun w' hw' => by obtain ⟨h1, h2, h3, h4⟩ := hcl w' hw'; clear hcl; go_simp) ?_
                    simp only [Act.put, List.setIfInBounds_toArray, List.set_cons_succ, List.set_cons_zero]
                    refine q_call (.int .u8 (cls (G (p + L)))) 7 #[.agg #[.int .i16 (G (p + L)).l, .int .i16 (G (p + L)).r]] rfl (fun w' _ => by go_simp) (fun w' hw' => cls_at (G (p + L)) _ rfl W6 w' hw') ?_
                    simp only [Act.put, List.setIfInBounds_toArray, List.set_cons_succ, List.set_cons_zero]
                    refine q_val (.pointer (some ⟨w4.heap.size, 0, none⟩)) rfl (fun w' _ => by go_simp) ?_
                    simp only [Act.put, List.setIfInBounds_toArray, List.set_cons_succ, List.set_cons_zero]
                    refine q_val (.int .u8 kind) rfl (fun w' hw' => by obtain ⟨h1, h2, h3, h4⟩ := hcl w' hw'; clear hcl; go_simp) ?_
                    simp only [Act.put, List.setIfInBounds_toArray, List.set_cons_succ, List.set_cons_zero]
                    refine q_val (.bool true) rfl (fun w' _ => by go_simp) ?_
                    simp only [Act.put, List.setIfInBounds_toArray, List.set_cons_succ, List.set_cons_zero]
                    refine q_val (.bool true) rfl (fun _ _ => rfl) ?_
                    simp only [Act.put, List.setIfInBounds_toArray, List.set_cons_succ, List.set_cons_zero]
                    refine q_val (.bool true) rfl (fun _ _ => rfl) ?_
                    simp only [Act.put, List.setIfInBounds_toArray, List.set_cons_succ, List.set_cons_zero]
                    refine q_val (.bool false) rfl (fun w' _ => by go_simp) ?_
                    simp only [Act.put, List.setIfInBounds_toArray, List.set_cons_succ, List.set_cons_zero]
                    refine q_val (.bool false) rfl (fun _ _ => rfl) ?_
                    simp only [Act.put, List.setIfInBounds_toArray, List.set_cons_succ, List.set_cons_zero]
                    refine q_val (.pointer (some ⟨wr.heap.size, 0, none⟩)) rfl (fun w' _ => by go_simp) ?_
                    simp only [Act.put, List.setIfInBounds_toArray, List.set_cons_succ, List.set_cons_zero]
                    refine q_val (.int .i16 (G (p + L)).l) rfl (fun w' hw' => by obtain ⟨h1, h2, h3, h4⟩ := hcl w' hw'; clear hcl; go_simp) ?_
                    simp only [Act.put, List.setIfInBounds_toArray, List.set_cons_succ, List.set_cons_zero]
                    refine q_val (.pointer (some ⟨w4.heap.size, 5, none⟩)) rfl (fun w' _ => by go_simp) ?_
                    simp only [Act.put, List.setIfInBounds_toArray, List.set_cons_succ, List.set_cons_zero]
                    refine q_val (.pointer (some ⟨w4.heap.size, 5, none⟩)) rfl (fun w' _ => by go_simp) ?_
                    simp only [Act.put, List.setIfInBounds_toArray, List.set_cons_succ, List.set_cons_zero]
                    refine q_val (.int .i16 (G (p + L - 1)).l) rfl (fun w' hw' => by obtain ⟨h1, h2, h3, h4⟩ := hcl w' hw'; clear hcl; go_simp) ?_
                    simp only [Act.put, List.setIfInBounds_toArray, List.set_cons_succ, List.set_cons_zero]
                    refine q_val (.int .i16 (IntKind.i16.wrap ((G (p + L - 1)).l + 1))) rfl (fun w' _ => by go_simp) ?_
                    simp only [Act.put, List.setIfInBounds_toArray, List.set_cons_succ, List.set_cons_zero]
                    refine q_val (.bool false) rfl (fun w' _ => by go_simp) ?_
                    simp only [Act.put, List.setIfInBounds_toArray, List.set_cons_succ, List.set_cons_zero]
                    refine q_val (.bool false) rfl (fun w' _ => by go_simp) ?_
                    simp only [Act.put, List.setIfInBounds_toArray, List.set_cons_succ, List.set_cons_zero]
                    refine q_val (.bool false) rfl (fun w' _ => by go_simp) ?_
                    simp only [Act.put, List.setIfInBounds_toArray, List.set_cons_succ, List.set_cons_zero]
                    refine wpQuiet_nil ?_
                    intro w6 hw6
                    clear hcl
                    go_wp2_with fail
                    go_round
                    case rel => exact ⟨i + 1, p + L, by omega, by omega, by go_num, by go_num, HFW, HB6.trans (hw6.mono (by omega))⟩
                    case measure => simp [intOf]; omega
                  · have bq := eq_false hcq
                    clear hcq
                    refine q_val (.agg #[.int .i16 (G (p + L)).l, .int .i16 (G (p + L)).r]) rfl (fun w' hw' => by obtain ⟨h1, h2, h3, h4⟩ := hcl w' hw'; clear hcl; go_simp) ?_
                    simp only [Act.put, List.setIfInBounds_toArray, List.set_cons_succ, List.set_cons_zero]
                    refine q_call (.int .u8 (cls (G (p + L)))) 7 #[.agg #[.int .i16 (G (p + L)).l, .int .i16 (G (p + L)).r]] rfl (fun w' _ => by go_simp) (fun w' hw' => cls_at (G (p + L)) _ rfl W6 w' hw') ?_
                    simp only [Act.put, List.setIfInBounds_toArray, List.set_cons_succ, List.set_cons_zero]
                    refine q_val (.pointer (some ⟨w4.heap.size, 0, none⟩)) rfl (fun w' _ => by go_simp) ?_
                    simp only [Act.put, List.setIfInBounds_toArray, List.set_cons_succ, List.set_cons_zero]
                    refine q_val (.int .u8 kind) rfl (fun w' hw' => by obtain ⟨h1, h2, h3, h4⟩ := hcl w' hw'; clear hcl; go_simp) ?_
                    simp only [Act.put, List.setIfInBounds_toArray, List.set_cons_succ, List.set_cons_zero]
                    refine q_val (.bool false) rfl (fun w' _ => by go_simp) ?_
                    simp only [Act.put, List.setIfInBounds_toArray, List.set_cons_succ, List.set_cons_zero]
                    refine q_val (.bool false) rfl (fun _ _ => rfl) ?_
                    simp only [Act.put, List.setIfInBounds_toArray, List.set_cons_succ, List.set_cons_zero]
                    go_big_quiet_skip
                    go_big_quiet_skip
                    go_big_quiet_skip
                    go_big_quiet_skip
                    go_big_quiet_skip
                    go_big_quiet_skip
                    go_big_quiet_skip
                    go_big_quiet_skip
                    go_big_quiet_skip
                    go_big_quiet_skip
                    go_big_quiet_skip
                    refine q_val (.bool false) rfl (fun w' _ => by go_simp) ?_
                    simp only [Act.put, List.setIfInBounds_toArray, List.set_cons_succ, List.set_cons_zero]
                    refine wpQuiet_nil ?_
                    intro w6 hw6
                    clear hcl
                    go_wp2_with fail
                    go_round
                    case rel => exact ⟨i + 1, p + L, by omega, by omega, by go_num, by go_num, HFW, HB6.trans (hw6.mono (by omega))⟩
                    case measure => simp [intOf]; omega
                · have hpm2 : p + L = m := by omega
                  clear hpm2
                  go_wp2_with fail
                  go_round
                  case rel => exact ⟨i + 1, p + L, by omega, by omega, by go_num, by go_num, HFW, HB⟩
                  case measure => simp [intOf]; omega
          · have b1 := eq_false hk1
            by_cases hk2 : kind = 2
            · have b2 := eq_true hk2
              have H1 : Hid (kind = 2) := hk2
              clear hk1 hk2
              go_wp2_with fail
              go_quiet (fail)
              go_wp2_with fail
              go_loopw [9] (fun jj wr => ∃ j : Nat, p ≤ j ∧ j ≤ p + L ∧ jj = .int .i64 j ∧ Below (w4.heap.size + 1) (w4.alloc (segBox ⟨kind, (p : Int), (L : Int), (G p).l, (G p).r, (G (p + L - 1)).l, (G (p + L - 1)).r⟩)) wr) (fun jj _ => p + L - (intOf jj).toNat)
              case atStart => exact ⟨p, Nat.le_refl _, by omega, rfl, bel_drewN (Below.refl _ _) _⟩
              case round =>
                obtain ⟨j, hpj, hjL, rfl, hbx⟩ := hrel
                obtain ⟨⟨q0, q1, q2, q3, q4, q5, q6⟩, hz5, hb5⟩ := box7 hbx
                simp only [Nat.zero_mul, Nat.zero_add] at q0 q1 q2 q3 q4 q5 q6
                have hf5 : ∀ k, k < m → FrAt wr w1.heap.size 0 k (G k) := fun k hk => (HF3.out k hk).same ((hb5.block _ hfb4).trans (hbr.block _ hz3))
                have hfb5 : w1.heap.size < wr.heap.size := by omega
                clear c0 c1 c2 c3 c4 c5 c6 d0 d1 d2 d3
                by_cases hjl : j < p + L
                · obtain ⟨f0, f1⟩ := hf5 j (by omega)
                  rw [Nat.zero_add] at f0 f1
                  have HKJ : Hid (cls (G j) = kind) := HKD.out j hpj hjl
                  have hjm : (j : Int) < (m : Int) := by omega
                  go_wp2_with fail
                  refine wp_region_quiet (C := fun w' => Below wr.heap.size wr w') (by kernel_rfl) (by kernel_rfl) (Below.drew (Below.refl _ _)) ?_
                  have hcl : ∀ w', Below wr.heap.size wr w' → w'.cell? ⟨w1.heap.size, j * 2, none⟩ = some (.int .i16 (G j).l) ∧ w'.cell? ⟨w1.heap.size, j * 2 + 1, none⟩ = some (.int .i16 (G j).r) ∧ w'.cell? ⟨w4.heap.size, 0, none⟩ = some (.int .u8 kind) := fun w' hw' => ⟨by rw [cell_same (hw'.block _ hfb5)]; exact f0, by rw [cell_same (hw'.block _ hfb5)]; exact f1, by rw [cell_same (hw'.block _ hz5)]; exact q0⟩
                  refine q_val (.slice (some ⟨w1.heap.size, 0, none⟩) m m) rfl (fun _ _ => rfl) ?_
                  simp only [Act.put, List.setIfInBounds_toArray, List.set_cons_succ, List.set_cons_zero]
                  refine q_val (.int .i64 j) rfl (fun _ _ => rfl) ?_
                  simp only [Act.put, List.setIfInBounds_toArray, List.set_cons_succ, List.set_cons_zero]
                  refine q_val (.pointer (some ⟨w1.heap.size, j * 2, none⟩)) rfl (fun w' _ => by go_simp) ?_
                  simp only [Act.put, List.setIfInBounds_toArray, List.set_cons_succ, List.set_cons_zero]
                  refine q_val (.agg #[.int .i16 (G j).l, .int .i16 (G j).r]) rfl (fun w' hw' => by obtain ⟨h1, h2, _⟩ := hcl w' hw'; clear hcl f0 f1; go_simp) ?_
                  simp only [Act.put, List.setIfInBounds_toArray, List.set_cons_succ, List.set_cons_zero]
                  refine q_call (.int .u8 kind) 7 #[.agg #[.int .i16 (G j).l, .int .i16 (G j).r]] rfl (fun w' _ => by go_simp) (fun w' hw' => cls_at (G j) kind HKJ.out wr w' hw') ?_
                  simp only [Act.put, List.setIfInBounds_toArray, List.set_cons_succ, List.set_cons_zero]
                  refine q_val (.pointer (some ⟨w4.heap.size, 0, none⟩)) rfl (fun w' _ => by go_simp) ?_
                  simp only [Act.put, List.setIfInBounds_toArray, List.set_cons_succ, List.set_cons_zero]
                  refine q_val (.int .u8 kind) rfl (fun w' hw' => by obtain ⟨_, _, h3⟩ := hcl w' hw'; clear hcl q0; go_simp) ?_
                  simp only [Act.put, List.setIfInBounds_toArray, List.set_cons_succ, List.set_cons_zero]
                  refine q_val (.bool false) rfl (fun w' _ => by go_simp) ?_
                  simp only [Act.put, List.setIfInBounds_toArray, List.set_cons_succ, List.set_cons_zero]
                  refine wpQuiet_nil ?_
                  intro w5 hw5
                  clear hcl f0 f1 q0 q1 q2 q3 q4 q5 q6
                  by_cases hjp : p < j
                  · obtain ⟨f0, f1⟩ := (hf5 j (by omega)).same (hw5.block _ hfb5)
                    obtain ⟨f2, f3⟩ := (hf5 (j - 1) (by omega)).same (hw5.block _ hfb5)
                    rw [Nat.zero_add] at f0 f1 f2 f3
                    have hdj : decide ((p : Int) < (j : Int)) = true := by simp; omega
                    have hnx : ((G j).l != IntKind.i16.wrap ((G (j - 1)).l + 1)) = false := by
                      have h := HRP.out (by simp [ramp, H1.out]) j hjp hjl
                      simp only [nxt] at h
                      rw [h]; simp
                    go_wp2_with fail
                    go_quiet (fail)
                    go_wp2_with fail
                    go_round
                    case rel => exact ⟨j + 1, by omega, by omega, by go_num, bel_drewN (hbx.trans (hw5.mono (by omega))) _⟩
                    case measure => simp [intOf]; omega
                  · have hdj : decide ((p : Int) < (j : Int)) = false := by simp; omega
                    go_wp2_with fail
                    go_quiet (fail)
                    go_wp2_with fail
                    go_round
                    case rel => exact ⟨j + 1, by omega, by omega, by go_num, bel_drewN (hbx.trans (hw5.mono (by omega))) _⟩
                    case measure => simp [intOf]; omega
                · obtain rfl : j = p + L := by omega
                  have HB : Below w3.heap.size w3 wr := hbr.trans (hb5.mono (by omega))
                  by_cases hem2 : p + L < m
                  · obtain ⟨f0, f1⟩ := hf5 (p + L) hem2
                    rw [Nat.zero_add] at f0 f1
                    have HCE : Hid (cont ⟨kind, (p : Int), (L : Int), (G p).l, (G p).r, (G (p + L - 1)).l, (G (p + L - 1)).r⟩ (G (p + L)) = false) := HCT.out hem2
                    have hz6 : w4.heap.size < wr.heap.size + 1 := by omega
                    go_wp2_with fail
                    obtain ⟨W6, hW6⟩ : ∃ W6, W6 = wr.alloc (.cells #[.int .i16 (G (p + L)).l, .int .i16 (G (p + L)).r] 26) := ⟨_, rfl⟩
                    rw [← hW6]
                    have r0 : W6.cell? ⟨wr.heap.size, 0, none⟩ = some (.int .i16 (G (p + L)).l) := by rw [hW6]; exact World.cell?_alloc_new _ _ _ _
                    have r1 : W6.cell? ⟨wr.heap.size, 1, none⟩ = some (.int .i16 (G (p + L)).r) := by rw [hW6]; exact World.cell?_alloc_new _ _ _ _
                    have r2 : W6.cell? ⟨w4.heap.size, 0, none⟩ = some (.int .u8 kind) := by rw [hW6]; exact cell_old _ _ _ _ q0
                    have r5 : W6.cell? ⟨w4.heap.size, 5, none⟩ = some (.int .i16 (G (p + L - 1)).l) := by rw [hW6]; exact cell_old _ _ _ _ q5
                    have rs : W6.heap.size = wr.heap.size + 1 := by rw [hW6]; exact size_alloc _ _
                    have HB6 : Below w3.heap.size w3 W6 := by rw [hW6]; exact HB.alloc (by omega) _
                    clear hW6 f0 f1 q0 q1 q2 q3 q4 q5 q6
                    refine wp_region_quiet (C := fun w' => Below W6.heap.size W6 w') (by kernel_rfl) (by kernel_rfl) (Below.drew (Below.refl _ _)) ?_
                    have hcl : ∀ w', Below W6.heap.size W6 w' → w'.cell? ⟨wr.heap.size, 0, none⟩ = some (.int .i16 (G (p + L)).l) ∧ w'.cell? ⟨wr.heap.size, 1, none⟩ = some (.int .i16 (G (p + L)).r) ∧ w'.cell? ⟨w4.heap.size, 0, none⟩ = some (.int .u8 kind) ∧ w'.cell? ⟨w4.heap.size, 5, none⟩ = some (.int .i16 (G (p + L - 1)).l) := fun w' hw' => ⟨by rw [cell_same (hw'.block _ (by omega))]; exact r0, by rw [cell_same (hw'.block _ (by omega))]; exact r1, by rw [cell_same (hw'.block _ (by omega))]; exact r2, by rw [cell_same (hw'.block _ (by omega))]; exact r5⟩
                    clear r0 r1 r2 r5
                    by_cases hcq : cls (G (p + L)) = kind
                    · have bq := eq_true hcq
                      have bl : ((G (p + L)).l == IntKind.i16.wrap ((G (p + L - 1)).l + 1)) = false := by
                        have h := HCE.out
                        simpa [cont, hcq, ramp, H1.out, nxt] using h
                      clear hcq
                      refine q_val (.agg #[.int .i16 (G (p + L)).l, .int .i16 (G (p + L)).r]) rfl (fun w' hw' => by obtain ⟨h1, h2, h3, h4⟩ := hcl w' hw'; clear hcl; go_simp) ?_
                      simp only [Act.put, List.setIfInBounds_toArray, List.set_cons_succ, List.set_cons_zero]
                      refine q_call (.int .u8 (cls (G (p + L)))) 7 #[.agg #[.int .i16 (G (p + L)).l, .int .i16 (G (p + L)).r]] rfl (fun w' _ => by go_simp) (fun w' hw' => cls_at (G (p + L)) _ rfl W6 w' hw') ?_
                      simp only [Act.put, List.setIfInBounds_toArray, List.set_cons_succ, List.set_cons_zero]
                      refine q_val (.pointer (some ⟨w4.heap.size, 0, none⟩)) rfl (fun w' _ => by go_simp) ?_
                      simp only [Act.put, List.setIfInBounds_toArray, List.set_cons_succ, List.set_cons_zero]
                      refine q_val (.int .u8 kind) rfl (fun w' hw' => by obtain ⟨h1, h2, h3, h4⟩ := hcl w' hw'; clear hcl; go_simp) ?_
                      simp only [Act.put, List.setIfInBounds_toArray, List.set_cons_succ, List.set_cons_zero]
                      refine q_val (.bool true) rfl (fun w' _ => by go_simp) ?_
                      simp only [Act.put, List.setIfInBounds_toArray, List.set_cons_succ, List.set_cons_zero]
                      refine q_val (.bool true) rfl (fun _ _ => rfl) ?_
                      simp only [Act.put, List.setIfInBounds_toArray, List.set_cons_succ, List.set_cons_zero]
                      refine q_val (.bool true) rfl (fun _ _ => rfl) ?_
                      simp only [Act.put, List.setIfInBounds_toArray, List.set_cons_succ, List.set_cons_zero]
                      refine q_val (.bool false) rfl (fun w' _ => by go_simp) ?_
                      simp only [Act.put, List.setIfInBounds_toArray, List.set_cons_succ, List.set_cons_zero]
                      refine q_val (.bool false) rfl (fun _ _ => rfl) ?_
                      simp only [Act.put, List.setIfInBounds_toArray, List.set_cons_succ, List.set_cons_zero]
                      refine q_val (.pointer (some ⟨wr.heap.size, 0, none⟩)) rfl (fun w' _ => by go_simp) ?_
                      simp only [Act.put, List.setIfInBounds_toArray, List.set_cons_succ, List.set_cons_zero]
                      refine q_val (.int .i16 (G (p + L)).l) rfl (fun w' hw' => by obtain ⟨h1, h2, h3, h4⟩ := hcl w' hw'; clear hcl; go_simp) ?_
                      simp only [Act.put, List.setIfInBounds_toArray, List.set_cons_succ, List.set_cons_zero]
                      refine q_val (.pointer (some ⟨w4.heap.size, 5, none⟩)) rfl (fun w' _ => by go_simp) ?_
                      simp only [Act.put, List.setIfInBounds_toArray, List.set_cons_succ, List.set_cons_zero]
                      refine q_val (.pointer (some ⟨w4.heap.size, 5, none⟩)) rfl (fun w' _ => by go_simp) ?_
                      simp only [Act.put, List.setIfInBounds_toArray, List.set_cons_succ, List.set_cons_zero]
                      refine q_val (.int .i16 (G (p + L - 1)).l) rfl (fun w' hw' => by obtain ⟨h1, h2, h3, h4⟩ := hcl w' hw'; clear hcl; go_simp) ?_
                      simp only [Act.put, List.setIfInBounds_toArray, List.set_cons_succ, List.set_cons_zero]
                      refine q_val (.int .i16 (IntKind.i16.wrap ((G (p + L - 1)).l + 1))) rfl (fun w' _ => by go_simp) ?_
                      simp only [Act.put, List.setIfInBounds_toArray, List.set_cons_succ, List.set_cons_zero]
                      refine q_val (.bool false) rfl (fun w' _ => by go_simp) ?_
                      simp only [Act.put, List.setIfInBounds_toArray, List.set_cons_succ, List.set_cons_zero]
                      refine q_val (.bool false) rfl (fun w' _ => by go_simp) ?_
                      simp only [Act.put, List.setIfInBounds_toArray, List.set_cons_succ, List.set_cons_zero]
                      refine q_val (.bool false) rfl (fun w' _ => by go_simp) ?_
                      simp only [Act.put, List.setIfInBounds_toArray, List.set_cons_succ, List.set_cons_zero]
                      refine wpQuiet_nil ?_
                      intro w6 hw6
                      clear hcl
                      go_wp2_with fail
                      go_round
                      case rel => exact ⟨i + 1, p + L, by omega, by omega, by go_num, by go_num, HFW, HB6.trans (hw6.mono (by omega))⟩
                      case measure => simp [intOf]; omega
                    · have bq := eq_false hcq
                      clear hcq
                      refine q_val (.agg #[.int .i16 (G (p + L)).l, .int .i16 (G (p + L)).r]) rfl (fun w' hw' => by obtain ⟨h1, h2, h3, h4⟩ := hcl w' hw'; clear hcl; go_simp) ?_
                      simp only [Act.put, List.setIfInBounds_toArray, List.set_cons_succ, List.set_cons_zero]
                      refine q_call (.int .u8 (cls (G (p + L)))) 7 #[.agg #[.int .i16 (G (p + L)).l, .int .i16 (G (p + L)).r]] rfl (fun w' _ => by go_simp) (fun w' hw' => cls_at (G (p + L)) _ rfl W6 w' hw') ?_
                      simp only [Act.put, List.setIfInBounds_toArray, List.set_cons_succ, List.set_cons_zero]
                      refine q_val (.pointer (some ⟨w4.heap.size, 0, none⟩)) rfl (fun w' _ => by go_simp) ?_
                      simp only [Act.put, List.setIfInBounds_toArray, List.set_cons_succ, List.set_cons_zero]
                      refine q_val (.int .u8 kind) rfl (fun w' hw' => by obtain ⟨h1, h2, h3, h4⟩ := hcl w' hw'; clear hcl; go_simp) ?_
                      simp only [Act.put, List.setIfInBounds_toArray, List.set_cons_succ, List.set_cons_zero]
                      refine q_val (.bool false) rfl (fun w' _ => by go_simp) ?_
                      simp only [Act.put, List.setIfInBounds_toArray, List.set_cons_succ, List.set_cons_zero]
                      refine q_val (.bool false) rfl (fun _ _ => rfl) ?_
                      simp only [Act.put, List.setIfInBounds_toArray, List.set_cons_succ, List.set_cons_zero]
                      go_big_quiet_skip
                      go_big_quiet_skip
                      go_big_quiet_skip
                      go_big_quiet_skip
                      go_big_quiet_skip
                      go_big_quiet_skip
                      go_big_quiet_skip
                      go_big_quiet_skip
                      go_big_quiet_skip
                      go_big_quiet_skip
                      go_big_quiet_skip
                      refine q_val (.bool false) rfl (fun w' _ => by go_simp) ?_
                      simp only [Act.put, List.setIfInBounds_toArray, List.set_cons_succ, List.set_cons_zero]
                      refine wpQuiet_nil ?_
                      intro w6 hw6
                      clear hcl
                      go_wp2_with fail
                      go_round
                      case rel => exact ⟨i + 1, p + L, by omega, by omega, by go_num, by go_num, HFW, HB6.trans (hw6.mono (by omega))⟩
                      case measure => simp [intOf]; omega
                  · have hpm2 : p + L = m := by omega
                    clear hpm2
                    go_wp2_with fail
                    go_round
                    case rel => exact ⟨i + 1, p + L, by omega, by omega, by go_num, by go_num, HFW, HB⟩
                    case measure => simp [intOf]; omega
            · have b2 := eq_false hk2
              have H1 : Hid (¬ kind = 1 ∧ ¬ kind = 2) := ⟨hk1, hk2⟩
              clear hk1 hk2
              go_wp2_with fail
              go_quiet (fail)
              go_wp2_with fail
              go_loopw [9] (fun jj wr => ∃ j : Nat, p ≤ j ∧ j ≤ p + L ∧ jj = .int .i64 j ∧ Below (w4.heap.size + 1) (w4.alloc (segBox ⟨kind, (p : Int), (L : Int), (G p).l, (G p).r, (G (p + L - 1)).l, (G (p + L - 1)).r⟩)) wr) (fun jj _ => p + L - (intOf jj).toNat)
              case atStart => exact ⟨p, Nat.le_refl _, by omega, rfl, bel_drewN (Below.refl _ _) _⟩
              case round =>
                obtain ⟨j, hpj, hjL, rfl, hbx⟩ := hrel
                obtain ⟨⟨q0, q1, q2, q3, q4, q5, q6⟩, hz5, hb5⟩ := box7 hbx
                simp only [Nat.zero_mul, Nat.zero_add] at q0 q1 q2 q3 q4 q5 q6
                have hf5 : ∀ k, k < m → FrAt wr w1.heap.size 0 k (G k) := fun k hk => (HF3.out k hk).same ((hb5.block _ hfb4).trans (hbr.block _ hz3))
                have hfb5 : w1.heap.size < wr.heap.size := by omega
                clear c0 c1 c2 c3 c4 c5 c6 d0 d1 d2 d3
                by_cases hjl : j < p + L
                · obtain ⟨f0, f1⟩ := hf5 j (by omega)
                  rw [Nat.zero_add] at f0 f1
                  have HKJ : Hid (cls (G j) = kind) := HKD.out j hpj hjl
                  have hjm : (j : Int) < (m : Int) := by omega
                  go_wp2_with fail
                  refine wp_region_quiet (C := fun w' => Below wr.heap.size wr w') (by kernel_rfl) (by kernel_rfl) (Below.drew (Below.refl _ _)) ?_
                  have hcl : ∀ w', Below wr.heap.size wr w' → w'.cell? ⟨w1.heap.size, j * 2, none⟩ = some (.int .i16 (G j).l) ∧ w'.cell? ⟨w1.heap.size, j * 2 + 1, none⟩ = some (.int .i16 (G j).r) ∧ w'.cell? ⟨w4.heap.size, 0, none⟩ = some (.int .u8 kind) := fun w' hw' => ⟨by rw [cell_same (hw'.block _ hfb5)]; exact f0, by rw [cell_same (hw'.block _ hfb5)]; exact f1, by rw [cell_same (hw'.block _ hz5)]; exact q0⟩
                  refine q_val (.slice (some ⟨w1.heap.size, 0, none⟩) m m) rfl (fun _ _ => rfl) ?_
                  simp only [Act.put, List.setIfInBounds_toArray, List.set_cons_succ, List.set_cons_zero]
                  refine q_val (.int .i64 j) rfl (fun _ _ => rfl) ?_
                  simp only [Act.put, List.setIfInBounds_toArray, List.set_cons_succ, List.set_cons_zero]
                  refine q_val (.pointer (some ⟨w1.heap.size, j * 2, none⟩)) rfl (fun w' _ => by go_simp) ?_
                  simp only [Act.put, List.setIfInBounds_toArray, List.set_cons_succ, List.set_cons_zero]
                  refine q_val (.agg #[.int .i16 (G j).l, .int .i16 (G j).r]) rfl (fun w' hw' => by obtain ⟨h1, h2, _⟩ := hcl w' hw'; clear hcl f0 f1; go_simp) ?_
                  simp only [Act.put, List.setIfInBounds_toArray, List.set_cons_succ, List.set_cons_zero]
                  refine q_call (.int .u8 kind) 7 #[.agg #[.int .i16 (G j).l, .int .i16 (G j).r]] rfl (fun w' _ => by go_simp) (fun w' hw' => cls_at (G j) kind HKJ.out wr w' hw') ?_
                  simp only [Act.put, List.setIfInBounds_toArray, List.set_cons_succ, List.set_cons_zero]
                  refine q_val (.pointer (some ⟨w4.heap.size, 0, none⟩)) rfl (fun w' _ => by go_simp) ?_
                  simp only [Act.put, List.setIfInBounds_toArray, List.set_cons_succ, List.set_cons_zero]
                  refine q_val (.int .u8 kind) rfl (fun w' hw' => by obtain ⟨_, _, h3⟩ := hcl w' hw'; clear hcl q0; go_simp) ?_
                  simp only [Act.put, List.setIfInBounds_toArray, List.set_cons_succ, List.set_cons_zero]
                  refine q_val (.bool false) rfl (fun w' _ => by go_simp) ?_
                  simp only [Act.put, List.setIfInBounds_toArray, List.set_cons_succ, List.set_cons_zero]
                  refine wpQuiet_nil ?_
                  intro w5 hw5
                  clear hcl f0 f1 q0 q1 q2 q3 q4 q5 q6
                  go_wp2_with fail
                  go_quiet (fail)
                  go_wp2_with fail
                  go_round
                  case rel => exact ⟨j + 1, by omega, by omega, by go_num, bel_drewN (hbx.trans (hw5.mono (by omega))) _⟩
                  case measure => simp [intOf]; omega
                · obtain rfl : j = p + L := by omega
                  have HB : Below w3.heap.size w3 wr := hbr.trans (hb5.mono (by omega))
                  by_cases hem2 : p + L < m
                  · obtain ⟨f0, f1⟩ := hf5 (p + L) hem2
                    rw [Nat.zero_add] at f0 f1
                    have HCE : Hid (cont ⟨kind, (p : Int), (L : Int), (G p).l, (G p).r, (G (p + L - 1)).l, (G (p + L - 1)).r⟩ (G (p + L)) = false) := HCT.out hem2
                    have hz6 : w4.heap.size < wr.heap.size + 1 := by omega
                    go_wp2_with fail
                    obtain ⟨W6, hW6⟩ : ∃ W6, W6 = wr.alloc (.cells #[.int .i16 (G (p + L)).l, .int .i16 (G (p + L)).r] 26) := ⟨_, rfl⟩
                    rw [← hW6]
                    have r0 : W6.cell? ⟨wr.heap.size, 0, none⟩ = some (.int .i16 (G (p + L)).l) := by rw [hW6]; exact World.cell?_alloc_new _ _ _ _
                    have r1 : W6.cell? ⟨wr.heap.size, 1, none⟩ = some (.int .i16 (G (p + L)).r) := by rw [hW6]; exact World.cell?_alloc_new _ _ _ _
                    have r2 : W6.cell? ⟨w4.heap.size, 0, none⟩ = some (.int .u8 kind) := by rw [hW6]; exact cell_old _ _ _ _ q0
                    have r5 : W6.cell? ⟨w4.heap.size, 5, none⟩ = some (.int .i16 (G (p + L - 1)).l) := by rw [hW6]; exact cell_old _ _ _ _ q5
                    have rs : W6.heap.size = wr.heap.size + 1 := by rw [hW6]; exact size_alloc _ _
                    have HB6 : Below w3.heap.size w3 W6 := by rw [hW6]; exact HB.alloc (by omega) _
                    clear hW6 f0 f1 q0 q1 q2 q3 q4 q5 q6
                    refine wp_region_quiet (C := fun w' => Below W6.heap.size W6 w') (by kernel_rfl) (by kernel_rfl) (Below.drew (Below.refl _ _)) ?_
                    have hcl : ∀ w', Below W6.heap.size W6 w' → w'.cell? ⟨wr.heap.size, 0, none⟩ = some (.int .i16 (G (p + L)).l) ∧ w'.cell? ⟨wr.heap.size, 1, none⟩ = some (.int .i16 (G (p + L)).r) ∧ w'.cell? ⟨w4.heap.size, 0, none⟩ = some (.int .u8 kind) ∧ w'.cell? ⟨w4.heap.size, 5, none⟩ = some (.int .i16 (G (p + L - 1)).l) := fun w' hw' => ⟨by rw [cell_same (hw'.block _ (by omega))]; exact r0, by rw [cell_same (hw'.block _ (by omega))]; exact r1, by rw [cell_same (hw'.block _ (by omega))]; exact r2, by rw [cell_same (hw'.block _ (by omega))]; exact r5⟩
                    clear r0 r1 r2 r5
                    have bq : (cls (G (p + L)) == kind) = false := by
                      refine eq_false (fun hcq => ?_)
                      have h := HCE.out
                      simp [cont, hcq, ramp, H1.out.1, H1.out.2] at h
                    refine q_val (.agg #[.int .i16 (G (p + L)).l, .int .i16 (G (p + L)).r]) rfl (fun w' hw' => by obtain ⟨h1, h2, h3, h4⟩ := hcl w' hw'; clear hcl; go_simp) ?_
                    simp only [Act.put, List.setIfInBounds_toArray, List.set_cons_succ, List.set_cons_zero]
                    refine q_call (.int .u8 (cls (G (p + L)))) 7 #[.agg #[.int .i16 (G (p + L)).l, .int .i16 (G (p + L)).r]] rfl (fun w' _ => by go_simp) (fun w' hw' => cls_at (G (p + L)) _ rfl W6 w' hw') ?_
                    simp only [Act.put, List.setIfInBounds_toArray, List.set_cons_succ, List.set_cons_zero]
                    refine q_val (.pointer (some ⟨w4.heap.size, 0, none⟩)) rfl (fun w' _ => by go_simp) ?_
                    simp only [Act.put, List.setIfInBounds_toArray, List.set_cons_succ, List.set_cons_zero]
                    refine q_val (.int .u8 kind) rfl (fun w' hw' => by obtain ⟨h1, h2, h3, h4⟩ := hcl w' hw'; clear hcl; go_simp) ?_
                    simp only [Act.put, List.setIfInBounds_toArray, List.set_cons_succ, List.set_cons_zero]
                    refine q_val (.bool false) rfl (fun w' _ => by go_simp) ?_
                    simp only [Act.put, List.setIfInBounds_toArray, List.set_cons_succ, List.set_cons_zero]
                    refine q_val (.bool false) rfl (fun _ _ => rfl) ?_
                    simp only [Act.put, List.setIfInBounds_toArray, List.set_cons_succ, List.set_cons_zero]
                    go_big_quiet_skip
                    go_big_quiet_skip
                    go_big_quiet_skip
                    go_big_quiet_skip
                    go_big_quiet_skip
                    go_big_quiet_skip
                    go_big_quiet_skip
                    go_big_quiet_skip
                    go_big_quiet_skip
                    go_big_quiet_skip
                    go_big_quiet_skip
                    refine q_val (.bool false) rfl (fun w' _ => by go_simp) ?_
                    simp only [Act.put, List.setIfInBounds_toArray, List.set_cons_succ, List.set_cons_zero]
                    refine wpQuiet_nil ?_
                    intro w6 hw6
                    clear hcl
                    go_wp2_with fail
                    go_round
                    case rel => exact ⟨i + 1, p + L, by omega, by omega, by go_num, by go_num, HFW, HB6.trans (hw6.mono (by omega))⟩
                    case measure => simp [intOf]; omega
                  · have hpm2 : p + L = m := by omega
                    clear hpm2
                    go_wp2_with fail
                    go_round
                    case rel => exact ⟨i + 1, p + L, by omega, by omega, by go_num, by go_num, HFW, HB⟩
                    case measure => simp [intOf]; omega
        · obtain rfl : i = S.length := by omega
          rw [List.drop_length] at hfw
          obtain rfl : p = m := hfw.out
          go_wp2_with fail
          go_ret
          exact .mk (by simp) (hb0.trans (hbr.mono (by omega)))
end Go.Proofs.Qxb6600087a
