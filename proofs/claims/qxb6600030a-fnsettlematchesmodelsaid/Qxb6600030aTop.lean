import Derived.Test.Qxb6600030aSettle
import Derived.Deep.RegionWith
namespace Go.Proofs.Qxb6600030a
open Go.ChangeShapes Go.WideShapes Go.ChangeAt Go.RowKit

theorem zz_any (b : Nat) (len : Nat) (F : Nat → SOp) (w : World)
   (hm : len ≤ 65536) (hwv : ∀ k, k < len → (F k).kind = 1 → (F k).hasV = true) (hc : Laid w b len F) :
    Calls Try.prog 11 #[.slice (some ⟨b, 0, none⟩) len len] w fun e w' => ∃ g, e = .returned (.slice (some ⟨g, 0, none⟩) (pos F len len) len) ∧ R2 w w' g len F len := by
  go_enter Try.func11, Try.ntmps11
  go_wp2_with fail
  refine (settle_any b len F w hm hwv hc).mono ?_
  rintro e w1 ⟨g, rfl, h⟩
  go_wp2
  go_ret
  exact ⟨g, rfl, h⟩

theorem match_at (g i : Nat) (o : SOp) (vp rp : Value) (r : Option Int) (hb : Bool) (ret : Int) (w : World) (hs : ptrS w g vp (ownV o)) (hi : ptrI w g rp r) (hbr : hb = r.isSome) (hr : ∀ x, r = some x → ret = x) :
    Calls Try.prog 14 #[.agg #[.string ⟨#[107]⟩, .int .i64 i, .int .u8 o.kind, vp, .int .i64 o.call, rp],
      .agg #[.int .u8 o.kind, .bool o.hasV, .string o.val, .int .i64 o.call, .bool o.hasR, .int .i64 o.ret], .int .i64 i, .bool hb, .int .i64 ret] w
      fun e w' => e = .returned (.bool true) ∧ Below w.heap.size w w' := by
  subst hbr
  exact match_any g i o vp rp r ret w hs hi hr

section
variable {P : Program} {ops : Array Oper} {C : World → Prop} {Q : Act → Prop} {a : Act} {o : Oper} {rest : List Oper}
/-- One operation of a quiet walk: its value named. -/
theorem q_val (v : Value) (hw : Region.wanted o (yielded ops a.tmps) = true) (h : ∀ w, C w → (execOp a.eval o).run P w = .ok (.value v) w) (hk : wpQuiet P ops C Q rest (a.put o.dst v)) : wpQuiet P ops C Q (o :: rest) a :=
  wpQuiet_step fun K hK => by
    rw [if_pos hw]
    exact ⟨v, fun w hC => by unfold Oper.quietAt; rw [h w hC]; exact ⟨rfl, rfl⟩, hK _ hk⟩
/-- .. a call. -/
theorem q_call (v : Value) (f : FuncId) (args : Array Value) (hw : Region.wanted o (yielded ops a.tmps) = true) (h : ∀ w, C w → (execOp a.eval o).run P w = .ok (.enter f args) w)
    (hc : ∀ w, C w → Calls P f args w fun e w' => e = .returned v ∧ C w') (hk : wpQuiet P ops C Q rest (a.put o.dst v)) : wpQuiet P ops C Q (o :: rest) a :=
  wpQuiet_step fun K hK => by
    rw [if_pos hw]
    exact ⟨v, fun w hC => by unfold Oper.quietAt; rw [h w hC]; exact ⟨rfl, hc w hC⟩, hK _ hk⟩
end

/-- The law's loop, behind 'settle': from here the answer is true. -/
def Fine (w : World) (e : Ending) (w' : World) : Prop := e = .returned (.bool true) ∧ Below w.heap.size w w'
theorem Fine.mk {w w' : World} {v : Value} (hv : v = .bool true) (hb : Below w.heap.size w w') : Fine w (.returned v) w' := ⟨by rw [hv], hb⟩

set_option maxRecDepth 100000 in
set_option maxHeartbeats 4000000 in
theorem law_some (a : Addr) (b off cap : Nat) (len : Nat) (F : Nat → SOp) (w : World) (ha : 0 < len → a = ⟨b, off, none⟩)
   (hm : len ≤ maxLen) (hs : ∀ k, k < len → (F k).val.size ≤ maxLen) (hc : ∀ k, k < len → OpAt w b off k (F k)) :
    Calls Try.prog 3 #[.slice (some a) len cap] w (Fine w) := by
  have ha' : 0 < len → (some a) = some ⟨b, off, none⟩ := fun h => by rw [ha h]
  go_enter Try.func3, Try.ntmps3
  go_wp2_with fail
  refine (zzbytes (some a) b off cap len F w ha' hm hs hc).mono ?_
  rintro e w1 ⟨⟨r, rfl, -⟩, rfl⟩
  cases r with
  | false =>
    go_wp2
    go_ret
    exact .mk rfl (Below.refl _ _)
  | true =>
    unfold maxLen at hm
    by_cases hl : 65536 < len
    · go_wp2_with fail
      go_ret
      exact .mk rfl (Below.refl _ _)
    · go_wp2_with fail
      refine (size_any (some a) b off cap len F _ ha' (by unfold maxLen; omega) hs hc).mono ?_
      rintro e w1 ⟨⟨n, rfl, -⟩, rfl⟩
      by_cases hn : 1048576 < n
      · go_wp2_with fail
        go_ret
        exact .mk rfl (Below.refl _ _)
      · go_wp2_with fail
        refine (writes_any (some a) b off cap len F _ ha' (by omega) hc).mono ?_
        rintro e w1 ⟨⟨r, rfl, hwv⟩, rfl⟩
        cases r with
        | false =>
          go_wp2_with fail
          go_ret
          exact .mk rfl (Below.refl _ _)
        | true =>
          replace hwv := hwv rfl
          go_wp2_with fail
          refine (formed_any (some a) b off cap len F _ ha' (by omega) hc).mono ?_
          rintro e w1 ⟨⟨r, rfl, hwf⟩, nd, rfl⟩
          cases r with
          | false =>
            go_wp2_with fail
            go_ret
            exact .mk rfl (bel_drewN (Below.refl _ _) _)
          | true =>
            replace hwf := hwf rfl
            go_wp2_with fail
            refine (clone_any a b off cap len F (w1.drewN nd) ha (by omega) (fun k hk => (hc k hk).same rfl)).mono ?_
            rintro e w2 ⟨rfl, hc2, hb2, hz2⟩
            clear hc ha ha' hs
            have hz1 : (w1.drewN nd).heap.size = w1.heap.size := rfl
            rw [hz1] at hc2 hb2 hz2
            go_wp2_with fail
            refine (ops_any (some ⟨w1.heap.size, 0, none⟩) w1.heap.size len len F w2 (fun _ => rfl) (by omega) hc2).mono ?_
            rintro e w3 ⟨rfl, hL, hb3, hz3⟩
            go_wp2_with fail
            refine (zz_any w2.heap.size len F w3 (by omega) hwv hL).mono ?_
            rintro e w4 ⟨g, rfl, hR⟩
            have hb0 : Below w1.heap.size w1 w4 := Below.trans (Below.trans (Below.trans (bel_drewN (Below.refl _ _) nd) hb2) (hb3.mono (by omega))) (hR.below.mono (by omega))
            have hc4 : ∀ k, k < len → OpAt w4 w1.heap.size 0 k (F k) := fun k hk => (hc2 k hk).same ((hR.below.block _ (by omega)).trans (hb3.block _ (by omega)))
            have hK := hR.kept
            have hgl := hR.row.lt
            clear hc2 hb2 hb3 hL hR hz3
            go_wp2_with fail
            go_loopw [4, 5] (fun kk ii wr => ∃ i : Nat, i ≤ len ∧ ii = .int .i64 i ∧ kk = .int .i64 (pos F len i) ∧ Below w4.heap.size w4 wr) (fun _ ii _ => len - (intOf ii).toNat)
            case atStart => exact ⟨0, Nat.zero_le _, rfl, rfl, Below.refl _ _⟩
            case round =>
              obtain ⟨i, hi, rfl, rfl, hbr⟩ := hrel
              have hpl := pos_le F len i
              by_cases hil : i < len
              · have hcr : ∀ k, k < len → OpAt wr w1.heap.size 0 k (F k) := fun k hk => (hc4 k hk).same (hbr.block _ (hc4 k hk).lt)
                go_wp2_with fail
                refine (model_any w1.heap.size len i len F wr (by omega) hil hcr).mono ?_
                rintro e w5 ⟨hM, hb5⟩
                unfold RetM at hM
                have hag := agree (stat F (F i).val len) (F i) (hwf i hil)
                obtain ⟨⟨keep, hasR, ret⟩, hmod⟩ : ∃ m, model (stat F (F i).val len) (F i) = m := ⟨_, rfl⟩
                rw [hmod] at hM hag
                subst hM
                clear hmod
                cases hfa : fate F len i with
                | none =>
                  have hfa' : settled (stat F (F i).val len) (F i) = none := hfa
                  rw [hfa'] at hag
                  simp only at hag
                  subst hag
                  have HF : Hid (fate F len i = none) := hfa
                  clear hfa hfa'
                  go_wp2_with fail
                  go_round
                  case rel => exact ⟨i + 1, by omega, by go_num, by rw [pos_none HF.out], Below.trans hbr (hb5.mono hbr.size)⟩
                  case measure => simp [intOf]; omega
                | some r =>
                  have hfa' : settled (stat F (F i).val len) (F i) = some r := hfa
                  rw [hfa'] at hag
                  simp only at hag
                  obtain ⟨hk1, hk2, hk3⟩ := hag
                  subst hk1
                  subst hk2
                  have HF : Hid (fate F len i = some r) := hfa
                  have hpp := pos_lt (j := len) hfa hil
                  obtain ⟨vp, rp, hop⟩ := hK i hil r hfa
                  clear hfa hfa'
                  have hb45 : Below w4.heap.size w4 w5 := Below.trans hbr (hb5.mono hbr.size)
                  obtain ⟨c0, c1, c2, c3, c4, c5, ps, pi⟩ := hop.below hb45 rfl
                  obtain ⟨d0, d1, d2, d3, d4, d5⟩ := (hcr i hil).same (hb5.block _ (hcr i hil).lt)
                  rw [Nat.zero_add] at d0 d1 d2 d3 d4 d5
                  clear hop hcr
                  have hdec : decide ((pos F len len : Int) ≤ (pos F len i : Int)) = false := by simp; omega
                  have hpp' : (pos F len i : Int) < (pos F len len : Int) := by omega
                  have hil' : (i : Int) < (len : Int) := by omega
                  have g1 := cell_lt c0
                  have g2 := cell_lt d0
                  clear hbr hb5 hK hc4 hb0 hwv hwf hgl hz1 hz2
                  obtain ⟨xv, rfl⟩ := ps.shape
                  obtain ⟨xr, rfl⟩ := pi.shape
                  go_wp2_with fail
                  refine wp_region_quiet (C := fun w' => Below w5.heap.size w5 w') (by kernel_rfl) (by kernel_rfl) (Below.drew (Below.refl _ _)) ?_
                  have hcc : ∀ w', Below w5.heap.size w5 w' → HOpAt w' g (pos F len i) (F i) i r (.pointer xv) (.pointer xr) ∧ OpAt w' w1.heap.size 0 i (F i) := by
                    intro w' hw'
                    exact ⟨HOpAt.below ⟨c0, c1, c2, c3, c4, c5, ps, pi⟩ hw' rfl, OpAt.same (w := w5) ⟨by rw [Nat.zero_add]; exact d0, by rw [Nat.zero_add]; exact d1, by rw [Nat.zero_add]; exact d2, by rw [Nat.zero_add]; exact d3, by rw [Nat.zero_add]; exact d4, by rw [Nat.zero_add]; exact d5⟩ (hw'.block _ g2)⟩
                  clear c0 c1 c2 c3 c4 c5 d0 d1 d2 d3 d4 d5
                  refine q_val (.int .i64 (pos F len i)) rfl (fun _ _ => rfl) ?_
                  simp only [Act.put, List.setIfInBounds_toArray, List.set_cons_succ, List.set_cons_zero]
                  refine q_val (.slice (some ⟨g, 0, none⟩) (pos F len len) len) rfl (fun _ _ => rfl) ?_
                  simp only [Act.put, List.setIfInBounds_toArray, List.set_cons_succ, List.set_cons_zero]
                  refine q_val (.int .i64 (pos F len len)) rfl (fun w' _ => by go_simp) ?_
                  simp only [Act.put, List.setIfInBounds_toArray, List.set_cons_succ, List.set_cons_zero]
                  refine q_val (.bool false) rfl (fun w' _ => by go_simp) ?_
                  simp only [Act.put, List.setIfInBounds_toArray, List.set_cons_succ, List.set_cons_zero]
                  refine q_val (.bool false) rfl (fun _ _ => rfl) ?_
                  simp only [Act.put, List.setIfInBounds_toArray, List.set_cons_succ, List.set_cons_zero]
                  refine q_val (.slice (some ⟨g, 0, none⟩) (pos F len len) len) rfl (fun _ _ => rfl) ?_
                  simp only [Act.put, List.setIfInBounds_toArray, List.set_cons_succ, List.set_cons_zero]
                  refine q_val (.int .i64 (pos F len i)) rfl (fun _ _ => rfl) ?_
                  simp only [Act.put, List.setIfInBounds_toArray, List.set_cons_succ, List.set_cons_zero]
                  refine q_val (.pointer (some ⟨g, pos F len i * 6, none⟩)) rfl (fun w' _ => by go_simp) ?_
                  simp only [Act.put, List.setIfInBounds_toArray, List.set_cons_succ, List.set_cons_zero]
                  refine q_val (.agg #[.string ⟨#[107]⟩, .int .i64 i, .int .u8 (F i).kind, .pointer xv, .int .i64 (F i).call, .pointer xr]) rfl (fun w' hw' => by obtain ⟨⟨c0, c1, c2, c3, c4, c5, _, _⟩, _⟩ := hcc w' hw'; go_simp) ?_
                  simp only [Act.put, List.setIfInBounds_toArray, List.set_cons_succ, List.set_cons_zero]
                  refine q_val (.slice (some ⟨w1.heap.size, 0, none⟩) len len) rfl (fun _ _ => rfl) ?_
                  simp only [Act.put, List.setIfInBounds_toArray, List.set_cons_succ, List.set_cons_zero]
                  refine q_val (.int .i64 i) rfl (fun _ _ => rfl) ?_
                  simp only [Act.put, List.setIfInBounds_toArray, List.set_cons_succ, List.set_cons_zero]
                  refine q_val (.pointer (some ⟨w1.heap.size, i * 6, none⟩)) rfl (fun w' _ => by go_simp) ?_
                  simp only [Act.put, List.setIfInBounds_toArray, List.set_cons_succ, List.set_cons_zero]
                  refine q_val (.agg #[.int .u8 (F i).kind, .bool (F i).hasV, .string (F i).val, .int .i64 (F i).call, .bool (F i).hasR, .int .i64 (F i).ret]) rfl (fun w' hw' => by obtain ⟨_, ⟨d0, d1, d2, d3, d4, d5⟩⟩ := hcc w' hw'; rw [Nat.zero_add] at d0 d1 d2 d3 d4 d5; go_simp) ?_
                  simp only [Act.put, List.setIfInBounds_toArray, List.set_cons_succ, List.set_cons_zero]
                  refine q_val (.int .i64 i) rfl (fun _ _ => rfl) ?_
                  simp only [Act.put, List.setIfInBounds_toArray, List.set_cons_succ, List.set_cons_zero]
                  refine q_val (.bool r.isSome) rfl (fun _ _ => rfl) ?_
                  simp only [Act.put, List.setIfInBounds_toArray, List.set_cons_succ, List.set_cons_zero]
                  refine q_val (.int .i64 ret) rfl (fun _ _ => rfl) ?_
                  simp only [Act.put, List.setIfInBounds_toArray, List.set_cons_succ, List.set_cons_zero]
                  refine q_call (.bool true) 14 #[(.agg #[.string ⟨#[107]⟩, .int .i64 i, .int .u8 (F i).kind, .pointer xv, .int .i64 (F i).call, .pointer xr]), (.agg #[.int .u8 (F i).kind, .bool (F i).hasV, .string (F i).val, .int .i64 (F i).call, .bool (F i).hasR, .int .i64 (F i).ret]), .int .i64 i, .bool r.isSome, .int .i64 ret] rfl (fun w' _ => by go_simp) (fun w' hw' => (match_any g i (F i) _ _ r ret w' (hcc w' hw').1.ps (hcc w' hw').1.pi hk3).mono fun e w'' h => ⟨h.1, Below.trans hw' (h.2.mono hw'.size)⟩) ?_
                  simp only [Act.put, List.setIfInBounds_toArray, List.set_cons_succ, List.set_cons_zero]
                  refine q_val (.bool false) rfl (fun w' _ => by go_simp) ?_
                  simp only [Act.put, List.setIfInBounds_toArray, List.set_cons_succ, List.set_cons_zero]
                  refine q_val (.bool false) rfl (fun w' _ => by go_simp) ?_
                  simp only [Act.put, List.setIfInBounds_toArray, List.set_cons_succ, List.set_cons_zero]
                  refine wpQuiet_nil ?_
                  intro w6 hb6
                  have HB : Below w4.heap.size w4 w6 := Below.trans hb45 (hb6.mono hb45.size)
                  clear hcc hb6 ps pi
                  go_wp2
                  go_round
                  case rel => exact ⟨i + 1, by omega, by go_num, by rw [pos_some HF.out]; go_num, HB⟩
                  case measure => simp [intOf]; omega
              · obtain rfl : i = len := by omega
                go_wp2_with fail
                go_ret
                exact .mk (by simp) (Below.trans hb0 (hbr.mono hb0.size))

set_option maxRecDepth 100000 in
set_option maxHeartbeats 1000000 in
theorem law_nil (w : World) : Calls Try.prog 3 #[.slice none 0 0] w (Fine w) := by
  obtain ⟨F⟩ : Nonempty (Nat → SOp) := ⟨fun _ => ⟨0, false, ⟨#[]⟩, 0, false, 0⟩⟩
  have h0 : ∀ (w : World) (k : Nat), k < 0 → OpAt w 0 0 k (F k) := fun w k hk => absurd hk (by omega)
  go_enter Try.func3, Try.ntmps3
  go_wp2_with fail
  refine (zzbytes none 0 0 0 0 F w (fun h => absurd h (by omega)) (by unfold maxLen; omega) (fun k hk => absurd hk (by omega)) (h0 w)).mono ?_
  rintro e w1 ⟨⟨r, rfl, -⟩, rfl⟩
  cases r with
  | false =>
    go_wp2
    go_ret
    exact .mk rfl (Below.refl _ _)
  | true =>
    go_wp2_with fail
    refine (size_any none 0 0 0 0 F _ (fun h => absurd h (by omega)) (by unfold maxLen; omega) (fun k hk => absurd hk (by omega)) (h0 _)).mono ?_
    rintro e w1 ⟨⟨n, rfl, -⟩, rfl⟩
    by_cases hn : 1048576 < n
    · go_wp2_with fail
      go_ret
      exact .mk rfl (Below.refl _ _)
    · go_wp2_with fail
      refine (writes_any none 0 0 0 0 F _ (fun h => absurd h (by omega)) (by omega) (h0 _)).mono ?_
      rintro e w1 ⟨⟨r, rfl, -⟩, rfl⟩
      cases r with
      | false =>
        go_wp2_with fail
        go_ret
        exact .mk rfl (Below.refl _ _)
      | true =>
        go_wp2_with fail
        refine (formed_any none 0 0 0 0 F _ (fun h => absurd h (by omega)) (by omega) (h0 _)).mono ?_
        rintro e w1 ⟨⟨r, rfl, -⟩, nd, rfl⟩
        cases r with
        | false =>
          go_wp2_with fail
          go_ret
          exact .mk rfl (bel_drewN (Below.refl _ _) _)
        | true =>
          go_wp2_with fail
          refine (clone_nil (w1.drewN nd)).mono ?_
          rintro e w2 ⟨rfl, rfl⟩
          go_wp2_with fail
          refine (ops_any none 0 0 0 F (w1.drewN nd) (fun h => absurd h (by omega)) (by omega) (h0 _)).mono ?_
          rintro e w3 ⟨rfl, hL, hb3, hz3⟩
          go_wp2_with fail
          refine (zz_any _ 0 F w3 (by omega) (fun k hk => absurd hk (by omega)) hL).mono ?_
          rintro e w4 ⟨g, rfl, hR⟩
          have hb0 : Below w1.heap.size w1 w4 := Below.trans (Below.trans (bel_drewN (Below.refl _ _) nd) hb3) (hR.below.mono hb3.size)
          clear hL hR hb3 hz3
          have hp0 : pos F 0 0 = 0 := rfl
          rw [hp0]
          go_wp2_with fail
          refine wp_loop_rounds 1 ?_
          rw [rounds_succ]
          go_wp2
          go_ret
          exact .mk rfl hb0
end Go.Proofs.Qxb6600030a
