import Derived.Test.Qxb6600030aSettle2Plain
namespace Go.Proofs.Qxb6600030a
open Go.ChangeShapes Go.WideShapes Go.ChangeAt Go.RowKit

set_option maxRecDepth 100000 in
set_option maxHeartbeats 4000000 in
theorem settle_any (b : Nat) (len : Nat) (F : Nat → SOp) (w : World)
   (hm : len ≤ 65536) (hwv : ∀ k, k < len → (F k).kind = 1 → (F k).hasV = true) (hc : Laid w b len F) :
    Calls Try.prog 18 #[.slice (some ⟨b, 0, none⟩) len len] w fun e w' => ∃ g, e = .returned (.slice (some ⟨g, 0, none⟩) (pos F len len) len) ∧ R2 w w' g len F len := by
  have hmm := @run_makeMap Try.prog
  have h3 := Three.start w F
  have hb0 : Below w.heap.size w (((w.alloc (.map #[] 0)).alloc (.map #[] 0)).alloc (.map #[] 0)) := (((Below.refl _ _).alloc (Nat.le_refl _) _).alloc (by rw [size_alloc]; omega) _).alloc (by rw [size_alloc, size_alloc]; omega) _
  go_enter Try.func18, Try.ntmps18
  go_wp2
  go_loopw [20] (fun i wr => ∃ k : Nat, k ≤ len ∧ i = .int .i64 k ∧ R1 w wr F k) (fun i _ => len - (intOf i).toNat)
  case atStart => exact ⟨0, Nat.zero_le _, rfl, h3, hb0, by simp only [size_alloc]; omega⟩
  case round =>
    obtain ⟨k, hk, rfl, ht, hbl, hsz⟩ := hrel
    clear h3 hb0
    by_cases hlt : k < len
    · obtain ⟨vp, rp, ho⟩ := hc k hlt
      have hbw := ho.lt
      have ps := ho.ps
      have pi := ho.pi
      obtain ⟨c0, c1, c2, c3, c4, c5, _, _⟩ := ho.below hbl rfl
      have l1 : b < wr.heap.size := by omega
      have hwk := hwv k hlt
      have hle := stat_le F (F k).val k
      obtain ⟨⟨nw, hMw⟩, ⟨nr, hMr⟩, ⟨ne, hMe⟩⟩ := ht
      clear hwv hc ho
      by_cases hk1 : (F k).kind = 1
      · have hkb : ((F k).kind == 1) = true := by simpa using hk1
        have hv := hwk hk1
        have HK : Hid ((F k).hasV = true ∧ (F k).kind = 1) := ⟨hv, hk1⟩
        rw [ownV_some hv] at ps
        obtain ⟨a, rfl, la, l2, hcell⟩ := ps.to hbl rfl
        obtain ⟨xr, rfl⟩ := pi.shape
        clear hk1 hv hwk pi
        go_wp2_with (first | (at_lookup; refine wpList_look strKey _ rfl _ _ 42 9 3 false rfl Try.underlying42 Try.underlying9 w.heap.size nw (Mw F k) rfl (hMw.alloc _) (F k).val rfl (.int .i64 0) (zero3 _) (.int .i64 (stat F (F k).val k).writes) (Mw_get F k _).symm ?_) | (at_mapUpdate; refine wpList_put strKey _ rfl _ _ _ 42 9 3 rfl Try.underlying42 Try.underlying9 w.heap.size nw (Mw F k) rfl (hMw.alloc _) (F k).val rfl (.int .i64 ((stat F (F k).val k).writes + 1)) rfl ?_; intro w1 hM1 hg1 hs1))
        go_round
        case rel => exact ⟨k + 1, by omega, by go_num, R1.w HK.out.1 HK.out.2 hM1 hMr hMe hbl hsz hg1⟩
        case measure => simp [intOf]; omega
      · have hkb : ((F k).kind == 1) = false := by simpa using hk1
        clear hwk
        obtain ⟨xr, rfl⟩ := pi.shape
        cases hv : (F k).hasV with
        | false =>
          have HK : Hid ((F k).hasV = false) := hv
          rw [ownV_none hv] at ps
          cases ps
          clear hk1 hv pi
          go_wp2
          go_round
          case rel => exact ⟨k + 1, by omega, by go_num, R1.no HK.out hMw hMr hMe hbl hsz⟩
          case measure => simp [intOf]; omega
        | true =>
          have HK : Hid ((F k).hasV = true ∧ ¬ (F k).kind = 1) := ⟨hv, hk1⟩
          rw [ownV_some hv] at ps
          obtain ⟨a, rfl, la, l2, hcell⟩ := ps.to hbl rfl
          clear hk1 hv
          obtain ⟨f, hf⟩ : ∃ f, (stat F (F k).val k).first = f := ⟨_, rfl⟩
          have hr : (.tuple #[.int .i64 (f.getD 0), .bool f.isSome] : Value) = if true = true then .tuple #[(Me F k (F k).val).getD (.int .i64 0), .bool (Me F k (F k).val).isSome] else (Me F k (F k).val).getD (.int .i64 0) := by
            rw [if_pos rfl, Me_get, Me_some, hf]
          have HR : Hid _ := hr
          have HF : Hid _ := hf
          clear hr hf
          cases hR : (F k).hasR with
          | false =>
            have HH : Hid ((F k).hasR = false) := hR
            rw [own_none hR] at pi
            cases pi
            clear hR
            go_wp2_with (first | (at_mapUpdate; refine wpList_put strKey _ rfl _ _ _ 43 9 4 rfl Try.underlying43 Try.underlying9 (w.heap.size + 1) nr (Mr F k) rfl (hMr.alloc _) (F k).val rfl (.bool true) rfl ?_; intro w1 hM1 hg1 hs1; have e3 : w1.cell? ⟨wr.heap.size, 3, none⟩ = some (.pointer (some ⟨a, 0, none⟩)) := cell_grown hg1 (World.cell?_alloc_new _ _ _ _) (by omega); have e5 : w1.cell? ⟨wr.heap.size, 5, none⟩ = some (.pointer none) := cell_grown hg1 (World.cell?_alloc_new _ _ _ _) (by omega); have ea : w1.cell? ⟨a, 0, none⟩ = some (.string (F k).val) := cell_grown hg1 (cell_old _ _ _ _ hcell) (by omega)) | (at_lookup; refine wpList_look strKey _ rfl _ _ 44 9 2 true rfl Try.underlying44 Try.underlying9 (w.heap.size + 2) ne (Me F k) rfl ((hMe.alloc _).grown hg1 (by simp)) (F k).val rfl (.int .i64 0) (zero2 _) (.tuple #[.int .i64 (f.getD 0), .bool f.isSome]) HR.out ?_))
            go_round
            case rel => exact ⟨k + 1, by omega, by go_num, R1.r HK.out.1 HK.out.2 hMw hM1 hMe hbl hsz hg1 (by rw [HF.out]; unfold later; cases f <;> simp [HH.out])⟩
            case measure => simp [intOf]; omega
          | true =>
            have HH : Hid ((F k).hasR = true) := hR
            rw [own_some hR] at pi
            obtain ⟨c, hcx, lc, l3, hcr⟩ := pi.to hbl rfl
            cases hcx
            clear hR pi
            cases f with
            | none =>
              go_wp2_with (first | (at_mapUpdate; refine wpList_put strKey _ rfl _ _ _ 43 9 4 rfl Try.underlying43 Try.underlying9 (w.heap.size + 1) nr (Mr F k) rfl (hMr.alloc _) (F k).val rfl (.bool true) rfl ?_; intro w1 hM1 hg1 hs1; have e3 : w1.cell? ⟨wr.heap.size, 3, none⟩ = some (.pointer (some ⟨a, 0, none⟩)) := cell_grown hg1 (World.cell?_alloc_new _ _ _ _) (by omega); have e5 : w1.cell? ⟨wr.heap.size, 5, none⟩ = some (.pointer (some ⟨c, 0, none⟩)) := cell_grown hg1 (World.cell?_alloc_new _ _ _ _) (by omega); have ea : w1.cell? ⟨a, 0, none⟩ = some (.string (F k).val) := cell_grown hg1 (cell_old _ _ _ _ hcell) (by omega); have er : w1.cell? ⟨c, 0, none⟩ = some (.int .i64 (F k).ret) := cell_grown hg1 (cell_old _ _ _ _ hcr) (by omega)) | (at_lookup; refine wpList_look strKey _ rfl _ _ 44 9 2 true rfl Try.underlying44 Try.underlying9 (w.heap.size + 2) ne (Me F k) rfl ((hMe.alloc _).grown hg1 (by simp)) (F k).val rfl (.int .i64 0) (zero2 _) (.tuple #[.int .i64 0, .bool false]) HR.out ?_))
              have hMe1 : MapIs strKey w1.drew (w.heap.size + 1 + 1) (Me F k) ne := ((hMe.alloc _).grown hg1 (by simp)).drew
              obtain ⟨w3, hrun0, hM3, hg3, hs3⟩ := hMe1.update (P := Try.prog) Try.underlying44 Try.underlying9 (F k).val (.int .i64 (F k).ret)
              have hrun : (Instr.mapUpdate 44 (.map (some (w.heap.size + 1 + 1))) (.string (F k).val) (.int .i64 (F k).ret)).run Try.prog w1.drew = .ok () w3 := hrun0
              clear hrun0 hMe1
              go_region
              go_wp2
              go_round
              case rel => exact ⟨k + 1, by omega, by go_num, R1.e HK.out.1 HK.out.2 hMw hM1 hbl hsz hg1 hM3 hg3 (by rw [HF.out]; simp [later, HH.out])⟩
              case measure => simp [intOf]; omega
            | some f =>
              by_cases hlf : (F k).ret < f
              · go_wp2_with (first | (at_mapUpdate; refine wpList_put strKey _ rfl _ _ _ 43 9 4 rfl Try.underlying43 Try.underlying9 (w.heap.size + 1) nr (Mr F k) rfl (hMr.alloc _) (F k).val rfl (.bool true) rfl ?_; intro w1 hM1 hg1 hs1; have e3 : w1.cell? ⟨wr.heap.size, 3, none⟩ = some (.pointer (some ⟨a, 0, none⟩)) := cell_grown hg1 (World.cell?_alloc_new _ _ _ _) (by omega); have e5 : w1.cell? ⟨wr.heap.size, 5, none⟩ = some (.pointer (some ⟨c, 0, none⟩)) := cell_grown hg1 (World.cell?_alloc_new _ _ _ _) (by omega); have ea : w1.cell? ⟨a, 0, none⟩ = some (.string (F k).val) := cell_grown hg1 (cell_old _ _ _ _ hcell) (by omega); have er : w1.cell? ⟨c, 0, none⟩ = some (.int .i64 (F k).ret) := cell_grown hg1 (cell_old _ _ _ _ hcr) (by omega)) | (at_lookup; refine wpList_look strKey _ rfl _ _ 44 9 2 true rfl Try.underlying44 Try.underlying9 (w.heap.size + 2) ne (Me F k) rfl ((hMe.alloc _).grown hg1 (by simp)) (F k).val rfl (.int .i64 0) (zero2 _) (.tuple #[.int .i64 f, .bool true]) HR.out ?_))
                have hMe1 : MapIs strKey w1.drew (w.heap.size + 1 + 1) (Me F k) ne := ((hMe.alloc _).grown hg1 (by simp)).drew
                obtain ⟨w3, hrun0, hM3, hg3, hs3⟩ := hMe1.update (P := Try.prog) Try.underlying44 Try.underlying9 (F k).val (.int .i64 (F k).ret)
                have hrun : (Instr.mapUpdate 44 (.map (some (w.heap.size + 1 + 1))) (.string (F k).val) (.int .i64 (F k).ret)).run Try.prog w1.drew = .ok () w3 := hrun0
                clear hrun0 hMe1
                go_region
                go_wp2
                go_round
                case rel => exact ⟨k + 1, by omega, by go_num, R1.e HK.out.1 HK.out.2 hMw hM1 hbl hsz hg1 hM3 hg3 (by rw [HF.out]; simp [later, HH.out, hlf])⟩
                case measure => simp [intOf]; omega
              · go_wp2_with (first | (at_mapUpdate; refine wpList_put strKey _ rfl _ _ _ 43 9 4 rfl Try.underlying43 Try.underlying9 (w.heap.size + 1) nr (Mr F k) rfl (hMr.alloc _) (F k).val rfl (.bool true) rfl ?_; intro w1 hM1 hg1 hs1; have e3 : w1.cell? ⟨wr.heap.size, 3, none⟩ = some (.pointer (some ⟨a, 0, none⟩)) := cell_grown hg1 (World.cell?_alloc_new _ _ _ _) (by omega); have e5 : w1.cell? ⟨wr.heap.size, 5, none⟩ = some (.pointer (some ⟨c, 0, none⟩)) := cell_grown hg1 (World.cell?_alloc_new _ _ _ _) (by omega); have ea : w1.cell? ⟨a, 0, none⟩ = some (.string (F k).val) := cell_grown hg1 (cell_old _ _ _ _ hcell) (by omega); have er : w1.cell? ⟨c, 0, none⟩ = some (.int .i64 (F k).ret) := cell_grown hg1 (cell_old _ _ _ _ hcr) (by omega)) | (at_lookup; refine wpList_look strKey _ rfl _ _ 44 9 2 true rfl Try.underlying44 Try.underlying9 (w.heap.size + 2) ne (Me F k) rfl ((hMe.alloc _).grown hg1 (by simp)) (F k).val rfl (.int .i64 0) (zero2 _) (.tuple #[.int .i64 f, .bool true]) HR.out ?_))
                go_round
                case rel => exact ⟨k + 1, by omega, by go_num, R1.r HK.out.1 HK.out.2 hMw hM1 hMe hbl hsz hg1 (by rw [HF.out]; simp [later, HH.out, show ¬ (F k).ret < f by omega])⟩
                case measure => simp [intOf]; omega
    · obtain rfl : k = len := by omega
      rename World => w0
      have hR1 : R1 w w0 F k := ⟨ht, hbl, hsz⟩
      clear ht hmm
      obtain ⟨i0, hi, hz0, hz1, hz2⟩ := info_parts Try.info36
      go_wp2_with (at_make; refine wpList_make_own _ rfl _ _ 26 rfl w0.heap.size 36 i0 _ 6 Try.underlying26 hi hz0 hz1 .i64 .i64 _ k rfl rfl rfl (by rw [hz2]; omega) (by unfold maxLen; omega) (by omega) ?_; intro w1 hown hgrow)
      have hR2 : R2 w w1 w0.heap.size k F 0 := R2.start hR1 hown hgrow
      clear hown hgrow hR1 hbl hsz
      go_loopw [10, 81] (fun v i wr => ∃ j : Nat, j ≤ k ∧ i = .int .i64 j ∧ v = .slice (some ⟨w0.heap.size, 0, none⟩) (pos F k j) k ∧ R2 w wr w0.heap.size k F j) (fun _ i _ => k - (intOf i).toNat)
      case atStart => exact ⟨0, Nat.zero_le _, rfl, rfl, hR2⟩
      case round =>
        obtain ⟨j, hj, rfl, rfl, hr2⟩ := hrel
        clear hR2
        by_cases hjt : j < k
        · obtain ⟨vp, rp, ho⟩ := hc j hjt
          have hbw := ho.lt
          have ps := ho.ps
          have pi := ho.pi
          have hbl := hr2.below
          have hgl := hr2.gle
          have hglt := hr2.row.lt
          have hpl := pos_le F k j
          have hwk := hwv j hjt
          obtain ⟨c0, c1, c2, c3, c4, c5, _, _⟩ := ho.below hbl rfl
          have l1 : b < wr.heap.size := by omega
          obtain ⟨⟨nw, hMw⟩, ⟨nr, hMr⟩, ⟨ne, hMe⟩⟩ := hr2.three
          have hl1 := fun o => look_w (hMw.alloc o) (F j).val
          have hl2 := fun o => look_e (B := w.heap.size + 1 + 1) (hMe.alloc o) (F j).val
          have hl3 := fun o o' => look_r ((hMr.alloc o).alloc o') (F j).val
          have hfate : fate F k j = settled (stat F (F j).val k) (F j) := rfl
          have HFt : Hid _ := hfate
          generalize stat F (F j).val k = st at HFt hl1 hl2 hl3
          clear hwv hc ho hMw hMr hMe hfate
          obtain ⟨xr, rfl⟩ := pi.shape
          obtain ⟨xv, rfl⟩ := ps.shape
          obtain ⟨n, c, f⟩ := st
          simp only at hl1 hl2 hl3
          have hsw : w.heap.size ≤ wr.heap.size := by omega
          by_cases hk1 : (F j).kind = 1
          · have hkb : ((F j).kind != 1) = false := by simpa using hk1
            rw [ownV_some (hwk hk1)] at ps
            obtain ⟨a, hax, la, l2, hcell⟩ := ps.to hbl rfl
            cases hax
            rw [← ownV_some (hwk hk1)] at ps
            clear hwk
            by_cases hn : n = 1
            · subst hn
              have hnb : (((1 : Nat) : Int) != 1) = false := rfl
              cases hR : (F j).hasR with
              | false =>
                have pi0 := pi
                rw [own_none hR] at pi0
                cases pi0
                cases c with
                | false =>
                  have HF : Hid (fate F k j = none) := by show _ = _; rw [HFt.out]; simp [settled, hk1, hR]
                  clear hk1 hR HFt
                  go_wp2
                  go_round
                  case rel => exact ⟨j + 1, by omega, by go_num, by rw [pos_none HF.out], hr2.skip (bel2 (Below.refl _ _) (Nat.le_refl _) _ _) HF.out⟩
                  case measure => simp [intOf]; omega
                | true =>
                  cases f with
                  | none =>
                    have HF : Hid (fate F k j = some (own (F j))) := by show _ = _; rw [HFt.out]; simp [settled, hk1, hR]
                    clear hk1 hR HFt
                    go_wp2
                    go_quiet (fail)
                    go_wp2_with (at_builtin; refine wpList_push6 _ rfl _ _ 26 36 rfl i0 Try.underlying26 hi hz1 w0.heap.size (pos F k j) k rfl (row3d hr2.row _ _ _ _) (by omega) (wr.heap.size + 1 + 1) 1 (.string ⟨#[107]⟩) (.int .i64 j) (.int .u8 (F j).kind) (.pointer (some ⟨a, 0, none⟩)) (.int .i64 (F j).call) (.pointer none) 36 rfl (heap3d _ _ _ _) (by simp [Value.oneCell']) ?_)
                    go_round
                    case rel => exact ⟨j + 1, by omega, by go_num, by rw [pos_some HF.out], hr2.push hjt (bel3d (Below.refl _ _) (Nat.le_refl _) _ _ _ _) HF.out (ps.re (bel3d hbl hsw _ _ _ _) (by omega)) (pi.re (bel3d hbl hsw _ _ _ _) (by omega))⟩
                    case measure => simp [intOf]; omega
                  | some r =>
                    by_cases hrc : r < (F j).call
                    · have HF : Hid (fate F k j = some (some (F j).call)) := by show _ = _; rw [HFt.out]; simp [settled, hk1, hR, hrc]
                      clear hk1 hR HFt
                      go_wp2
                      go_quiet (fail)
                      go_wp2_with (at_builtin; refine wpList_push6 _ rfl _ _ 26 36 rfl i0 Try.underlying26 hi hz1 w0.heap.size (pos F k j) k rfl (row4 hr2.row _ _ _ _ _ _ _ _) (by omega) (wr.heap.size + 1 + 1) 1 (.string ⟨#[107]⟩) (.int .i64 j) (.int .u8 (F j).kind) (.pointer (some ⟨a, 0, none⟩)) (.int .i64 (F j).call) (.pointer (some ⟨wr.heap.size + 1, 0, none⟩)) 36 rfl (heap4 _ _ _ _ _ _ _ _) (by simp [Value.oneCell']) ?_)
                      go_round
                      case rel => exact ⟨j + 1, by omega, by go_num, by rw [pos_some HF.out], hr2.push hjt (bel4 (Below.refl _ _) (Nat.le_refl _) _ _ _ _ _ _ _ _) HF.out (ps.re (bel4 hbl hsw _ _ _ _ _ _ _ _) (by omega)) ⟨wr.heap.size + 1, rfl, by omega, cell4 _ _ _ _ _ _ _ _⟩⟩
                      case measure => simp [intOf]; omega
                    · have HF : Hid (fate F k j = some (some r)) := by show _ = _; rw [HFt.out]; simp [settled, hk1, hR, hrc]
                      clear hk1 hR HFt
                      go_wp2
                      go_quiet (fail)
                      go_wp2_with (at_builtin; refine wpList_push6 _ rfl _ _ 26 36 rfl i0 Try.underlying26 hi hz1 w0.heap.size (pos F k j) k rfl (row4 hr2.row _ _ _ _ _ _ _ _) (by omega) (wr.heap.size + 1 + 1) 1 (.string ⟨#[107]⟩) (.int .i64 j) (.int .u8 (F j).kind) (.pointer (some ⟨a, 0, none⟩)) (.int .i64 (F j).call) (.pointer (some ⟨wr.heap.size + 1, 0, none⟩)) 36 rfl (heap4 _ _ _ _ _ _ _ _) (by simp [Value.oneCell']) ?_)
                      go_round
                      case rel => exact ⟨j + 1, by omega, by go_num, by rw [pos_some HF.out], hr2.push hjt (bel4 (Below.refl _ _) (Nat.le_refl _) _ _ _ _ _ _ _ _) HF.out (ps.re (bel4 hbl hsw _ _ _ _ _ _ _ _) (by omega)) ⟨wr.heap.size + 1, rfl, by omega, cell4 _ _ _ _ _ _ _ _⟩⟩
                      case measure => simp [intOf]; omega
              | true =>
                have pi0 := pi
                rw [own_some hR] at pi0
                obtain ⟨d, hdx, ld, l3, hcd⟩ := pi0.to hbl rfl
                cases hdx
                clear pi0
                cases f with
                | none =>
                  have HF : Hid (fate F k j = some (own (F j))) := by show _ = _; rw [HFt.out]; simp [settled, hk1, hR]
                  clear hk1 hR HFt
                  go_wp2
                  go_quiet (fail)
                  go_wp2_with (at_builtin; refine wpList_push6 _ rfl _ _ 26 36 rfl i0 Try.underlying26 hi hz1 w0.heap.size (pos F k j) k rfl (row3d hr2.row _ _ _ _) (by omega) (wr.heap.size + 1 + 1) 1 (.string ⟨#[107]⟩) (.int .i64 j) (.int .u8 (F j).kind) (.pointer (some ⟨a, 0, none⟩)) (.int .i64 (F j).call) (.pointer (some ⟨d, 0, none⟩)) 36 rfl (heap3d _ _ _ _) (by simp [Value.oneCell']) ?_)
                  go_round
                  case rel => exact ⟨j + 1, by omega, by go_num, by rw [pos_some HF.out], hr2.push hjt (bel3d (Below.refl _ _) (Nat.le_refl _) _ _ _ _) HF.out (ps.re (bel3d hbl hsw _ _ _ _) (by omega)) (pi.re (bel3d hbl hsw _ _ _ _) (by omega))⟩
                  case measure => simp [intOf]; omega
                | some r =>
                  by_cases hrr : r < (F j).ret
                  · by_cases hrc : r < (F j).call
                    · have HF : Hid (fate F k j = some (some (F j).call)) := by show _ = _; rw [HFt.out]; simp [settled, hk1, hR, hrr, hrc]
                      clear hk1 hR HFt
                      go_wp2
                      go_quiet (fail)
                      go_wp2_with (at_builtin; refine wpList_push6 _ rfl _ _ 26 36 rfl i0 Try.underlying26 hi hz1 w0.heap.size (pos F k j) k rfl (row4 hr2.row _ _ _ _ _ _ _ _) (by omega) (wr.heap.size + 1 + 1) 1 (.string ⟨#[107]⟩) (.int .i64 j) (.int .u8 (F j).kind) (.pointer (some ⟨a, 0, none⟩)) (.int .i64 (F j).call) (.pointer (some ⟨wr.heap.size + 1, 0, none⟩)) 36 rfl (heap4 _ _ _ _ _ _ _ _) (by simp [Value.oneCell']) ?_)
                      go_round
                      case rel => exact ⟨j + 1, by omega, by go_num, by rw [pos_some HF.out], hr2.push hjt (bel4 (Below.refl _ _) (Nat.le_refl _) _ _ _ _ _ _ _ _) HF.out (ps.re (bel4 hbl hsw _ _ _ _ _ _ _ _) (by omega)) ⟨wr.heap.size + 1, rfl, by omega, cell4 _ _ _ _ _ _ _ _⟩⟩
                      case measure => simp [intOf]; omega
                    · have HF : Hid (fate F k j = some (some r)) := by show _ = _; rw [HFt.out]; simp [settled, hk1, hR, hrr, hrc]
                      clear hk1 hR HFt
                      go_wp2
                      go_quiet (fail)
                      go_wp2_with (at_builtin; refine wpList_push6 _ rfl _ _ 26 36 rfl i0 Try.underlying26 hi hz1 w0.heap.size (pos F k j) k rfl (row4 hr2.row _ _ _ _ _ _ _ _) (by omega) (wr.heap.size + 1 + 1) 1 (.string ⟨#[107]⟩) (.int .i64 j) (.int .u8 (F j).kind) (.pointer (some ⟨a, 0, none⟩)) (.int .i64 (F j).call) (.pointer (some ⟨wr.heap.size + 1, 0, none⟩)) 36 rfl (heap4 _ _ _ _ _ _ _ _) (by simp [Value.oneCell']) ?_)
                      go_round
                      case rel => exact ⟨j + 1, by omega, by go_num, by rw [pos_some HF.out], hr2.push hjt (bel4 (Below.refl _ _) (Nat.le_refl _) _ _ _ _ _ _ _ _) HF.out (ps.re (bel4 hbl hsw _ _ _ _ _ _ _ _) (by omega)) ⟨wr.heap.size + 1, rfl, by omega, cell4 _ _ _ _ _ _ _ _⟩⟩
                      case measure => simp [intOf]; omega
                  · have HF : Hid (fate F k j = some (own (F j))) := by show _ = _; rw [HFt.out]; simp [settled, hk1, hR, hrr]
                    clear hk1 hR HFt
                    go_wp2
                    go_quiet (fail)
                    go_wp2_with (at_builtin; refine wpList_push6 _ rfl _ _ 26 36 rfl i0 Try.underlying26 hi hz1 w0.heap.size (pos F k j) k rfl (row3d hr2.row _ _ _ _) (by omega) (wr.heap.size + 1 + 1) 1 (.string ⟨#[107]⟩) (.int .i64 j) (.int .u8 (F j).kind) (.pointer (some ⟨a, 0, none⟩)) (.int .i64 (F j).call) (.pointer (some ⟨d, 0, none⟩)) 36 rfl (heap3d _ _ _ _) (by simp [Value.oneCell']) ?_)
                    go_round
                    case rel => exact ⟨j + 1, by omega, by go_num, by rw [pos_some HF.out], hr2.push hjt (bel3d (Below.refl _ _) (Nat.le_refl _) _ _ _ _) HF.out (ps.re (bel3d hbl hsw _ _ _ _) (by omega)) (pi.re (bel3d hbl hsw _ _ _ _) (by omega))⟩
                    case measure => simp [intOf]; omega
            · have hnb : ((n : Int) != 1) = true := by rw [bne_iff_ne]; omega
              have HF : Hid (fate F k j = some (own (F j))) := by show _ = _; rw [HFt.out]; simp [settled, hk1, hn]
              clear hk1 hn HFt
              go_wp2_with (at_builtin; refine wpList_push6 _ rfl _ _ 26 36 rfl i0 Try.underlying26 hi hz1 w0.heap.size (pos F k j) k rfl (row2 hr2.row _ _) (by omega) (wr.heap.size + 1) 1 (.string ⟨#[107]⟩) (.int .i64 j) (.int .u8 (F j).kind) (.pointer (some ⟨a, 0, none⟩)) (.int .i64 (F j).call) (.pointer xr) 36 rfl (heap2 _ _) (by simp [Value.oneCell']) ?_)
              go_round
              case rel => exact ⟨j + 1, by omega, by go_num, by rw [pos_some HF.out], hr2.push hjt (bel2 (Below.refl _ _) (Nat.le_refl _) _ _) HF.out (ps.re (bel2 hbl hsw _ _) (by omega)) (pi.re (bel2 hbl hsw _ _) (by omega))⟩
              case measure => simp [intOf]; omega
          · have hkb : ((F j).kind != 1) = true := by simpa using hk1
            have HF : Hid (fate F k j = some (own (F j))) := by show _ = _; rw [HFt.out]; simp [settled, hk1]
            clear hk1 hwk HFt
            go_wp2_with (at_builtin; refine wpList_push6 _ rfl _ _ 26 36 rfl i0 Try.underlying26 hi hz1 w0.heap.size (pos F k j) k rfl (row2 hr2.row _ _) (by omega) (wr.heap.size + 1) 1 (.string ⟨#[107]⟩) (.int .i64 j) (.int .u8 (F j).kind) (.pointer xv) (.int .i64 (F j).call) (.pointer xr) 36 rfl (heap2 _ _) (by simp [Value.oneCell']) ?_)
            go_round
            case rel => exact ⟨j + 1, by omega, by go_num, by rw [pos_some HF.out], hr2.push hjt (bel2 (Below.refl _ _) (Nat.le_refl _) _ _) HF.out (ps.re (bel2 hbl hsw _ _) (by omega)) (pi.re (bel2 hbl hsw _ _) (by omega))⟩
            case measure => simp [intOf]; omega
        · obtain rfl : j = k := by omega
          go_wp2
          go_ret
          exact ⟨_, rfl, hr2⟩
end Go.Proofs.Qxb6600030a
