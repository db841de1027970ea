import Derived.Test.Qxb6600030aOps
namespace Go.Proofs.Qxb6600030a
open Go.ChangeShapes Go.WideShapes Go.ChangeAt Go.RowKit

def RetM (m : Bool × Bool × Int) (e : Ending) : Prop := e = .returned (.tuple #[.bool m.1, .bool m.2.1, .int .i64 m.2.2])

/-- The six cells of one operation, as a box. -/
def box (o : SOp) : Obj := .cells #[.int .u8 o.kind, .bool o.hasV, .string o.val, .int .i64 o.call, .bool o.hasR, .int .i64 o.ret] 38

theorem str_eq {a b : ByteArray} : (a.toList == b.toList) = true ↔ a = b := by
  rw [beq_iff_eq, ByteArray.toList_eq, ByteArray.toList_eq]
  exact ⟨fun h => ByteArray.ext (Array.toList_inj.mp h), fun h => by rw [h]⟩
theorem str_ne {a b : ByteArray} (h : a ≠ b) : (a.toList == b.toList) = false := by
  cases e : (a.toList == b.toList) with
  | false => rfl
  | true => exact absurd (str_eq.1 e) h

theorem bump_no {v : ByteArray} {s : Stat} {p : SOp} (h : ¬ (p.hasV = true ∧ p.val = v)) : bump v s p = s := by unfold bump; rw [if_neg h]
theorem bump_w {v : ByteArray} {s : Stat} {p : SOp} (h : p.hasV = true) (h2 : p.val = v) (h3 : p.kind = 1) : bump v s p = { s with writes := s.writes + 1 } := by unfold bump; rw [if_pos ⟨h, h2⟩, if_pos h3]
theorem bump_r {v : ByteArray} {s : Stat} {p : SOp} (h : p.hasV = true) (h2 : p.val = v) (h3 : ¬ p.kind = 1) : bump v s p = { s with carried := true, first := later s.first p } := by unfold bump; rw [if_pos ⟨h, h2⟩, if_neg h3]

set_option maxHeartbeats 2000000 in
theorem model_any (b cap i : Nat) (len : Nat) (F : Nat → SOp) (w : World)
   (hm : len ≤ 65536) (hil : i < len) (hc : ∀ k, k < len → OpAt w b 0 k (F k)) :
    Calls Try.prog 13 #[.slice (some ⟨b, 0, none⟩) len cap, .int .i64 i] w fun e w' => RetM (model (stat F (F i).val len) (F i)) e ∧ Below w.heap.size w w' := by
  have hb := (hc i hil).lt
  obtain ⟨c0, c1, c2, c3, c4, c5⟩ := hc i hil
  rw [Nat.zero_add] at c0 c1 c2 c3 c4 c5
  by_cases hk1 : (F i).kind = 1
  · have hkb : ((F i).kind != 1) = false := by simpa using hk1
    have H1 : Hid ((F i).kind = 1) := hk1
    clear hk1
    go_enter Try.func13, Try.ntmps13
    go_wp2
    have hBx : Below (w.heap.size + 1) (w.alloc (box (F i))) (w.alloc (box (F i))) := Below.refl _ _
    have hSt : stat F (F i).val 0 = ⟨0, false, none⟩ := rfl
    have HSt : Hid _ := hSt
    clear hSt c0 c1 c2 c3 c4 c5
    unfold box at hBx
    go_loopw [8, 9, 10, 11, 12] (fun n c hf f j wr => ∃ k : Nat, k ≤ len ∧ j = .int .i64 k ∧ n = .int .i64 (stat F (F i).val k).writes ∧ c = .bool (stat F (F i).val k).carried ∧ hf = .bool (stat F (F i).val k).first.isSome ∧
        f = .int .i64 ((stat F (F i).val k).first.getD 0) ∧ Below (w.heap.size + 1) (w.alloc (box (F i))) wr) (fun _ _ _ _ j _ => len - (intOf j).toNat)
    case atStart => exact ⟨0, Nat.zero_le _, rfl, by rw [HSt.out]; rfl, by rw [HSt.out], by rw [HSt.out]; rfl, by rw [HSt.out]; rfl, hBx⟩
    case round =>
      obtain ⟨k, hk, rfl, rfl, rfl, rfl, rfl, hbl⟩ := hrel
      have hle := stat_le F (F i).val k
      have hsz := hbl.size
      rw [size_alloc] at hsz
      have dd : ∀ (j : Nat) (v : Value), (#[.int .u8 (F i).kind, .bool (F i).hasV, .string (F i).val, .int .i64 (F i).call, .bool (F i).hasR, .int .i64 (F i).ret] : Array Value)[j]? = some v → wr.cell? ⟨w.heap.size, j, none⟩ = some v := by
        intro j v hv
        rw [cell_same (hbl.block w.heap.size (by omega)), ← hv]
        exact World.cell?_alloc_new _ _ _ _
      have l1 : w.heap.size < wr.heap.size := by omega
      have l2 : b < wr.heap.size := by omega
      by_cases hlt : k < len
      · obtain ⟨c0, c1, c2, c3, c4, c5⟩ := (hc k hlt).same ((hbl.block b (by omega)).trans (Below.heap_alloc _ _ _ hb))
        rw [Nat.zero_add] at c0 c1 c2 c3 c4 c5
        have d2 := dd 2 _ rfl
        have hst : stat F (F i).val (k + 1) = bump (F i).val (stat F (F i).val k) (F k) := rfl
        have HS : Hid _ := hst
        have BL : ∀ o, Below (w.heap.size + 1) (w.alloc (box (F i))) (wr.alloc o) := fun o => hbl.alloc (by omega) o
        clear hst hc dd hbl
        generalize hg : stat F (F i).val k = st at HS
        simp only [hg] at hle ⊢
        have HG : Hid _ := hg
        clear hg
        obtain ⟨n, c, f⟩ := st
        simp only at hle ⊢
        cases hv : (F k).hasV with
        | false =>
          rw [hv] at c1
          have HV : Hid ((F k).hasV = false) := hv
          clear hv
          go_wp2
          go_round
          case rel =>
            refine ⟨k + 1, by omega, by go_num, ?_, ?_, ?_, ?_, BL _⟩ <;> rw [HS.out, bump_no (by simp [HV.out])]
          case measure => simp [intOf]; omega
        | true =>
          rw [hv] at c1
          have HV : Hid ((F k).hasV = true) := hv
          clear hv
          by_cases he : (F k).val = (F i).val
          · have hes := str_eq.2 he
            have HE : Hid ((F k).val = (F i).val) := he
            clear he
            by_cases hk1 : (F k).kind = 1
            · have hkb2 : ((F k).kind == 1) = true := by simpa using hk1
              have HK : Hid ((F k).kind = 1) := hk1
              clear hk1
              go_wp2
              go_round
              case rel =>
                refine ⟨k + 1, by omega, by go_num, ?_, ?_, ?_, ?_, BL _⟩ <;> rw [HS.out, bump_w HV.out HE.out HK.out]
                go_num
              case measure => simp [intOf]; omega
            · have hkb2 : ((F k).kind == 1) = false := by simpa using hk1
              have HK : Hid (¬ (F k).kind = 1) := hk1
              clear hk1
              cases hR : (F k).hasR with
              | false =>
                rw [hR] at c4
                have HR : Hid ((F k).hasR = false) := hR
                clear hR
                go_wp2
                go_round
                case rel =>
                  refine ⟨k + 1, by omega, by go_num, ?_, ?_, ?_, ?_, BL _⟩ <;> rw [HS.out, bump_r HV.out HE.out HK.out]
                  all_goals cases f <;> simp [later, HR.out]
                case measure => simp [intOf]; omega
              | true =>
                rw [hR] at c4
                have HR : Hid ((F k).hasR = true) := hR
                clear hR
                cases f with
                | none =>
                  go_wp2
                  go_round
                  case rel =>
                    refine ⟨k + 1, by omega, by go_num, ?_, ?_, ?_, ?_, BL _⟩ <;> rw [HS.out, bump_r HV.out HE.out HK.out]
                    all_goals simp [later, HR.out]
                  case measure => simp [intOf]; omega
                | some f =>
                  by_cases hf : (F k).ret < f
                  · go_wp2
                    go_round
                    case rel =>
                      refine ⟨k + 1, by omega, by go_num, ?_, ?_, ?_, ?_, BL _⟩ <;> rw [HS.out, bump_r HV.out HE.out HK.out]
                      all_goals simp [later, HR.out, hf]
                    case measure => simp [intOf]; omega
                  · go_wp2
                    go_round
                    case rel =>
                      refine ⟨k + 1, by omega, by go_num, ?_, ?_, ?_, ?_, BL _⟩ <;> rw [HS.out, bump_r HV.out HE.out HK.out]
                      all_goals simp [later, HR.out, show ¬ (F k).ret < f by omega]
                    case measure => simp [intOf]; omega
          · have hes := str_ne he
            have HE : Hid (¬ (F k).val = (F i).val) := he
            clear he
            go_wp2
            go_round
            case rel =>
              refine ⟨k + 1, by omega, by go_num, ?_, ?_, ?_, ?_, BL _⟩ <;> rw [HS.out, bump_no (by simp [HE.out])]
            case measure => simp [intOf]; omega
      · obtain rfl : k = len := by omega
        have d3 := dd 3 _ rfl
        have d4 := dd 4 _ rfl
        have d5 := dd 5 _ rfl
        have BL : Below w.heap.size w wr := ((Below.refl _ _).alloc (Nat.le_refl _) _).trans (hbl.mono (by omega))
        clear dd hbl hc
        generalize hg : stat F (F i).val k = st
        simp only [hg] at hle ⊢
        have HG : Hid _ := hg
        clear hg
        obtain ⟨n, c, f⟩ := st
        simp only at hle ⊢
        by_cases hn : n = 1
        · subst hn
          have hn1 : (((1 : Nat) : Int) != 1) = false := rfl
          cases hR : (F i).hasR with
          | false =>
            rw [hR] at d4
            have HR : Hid ((F i).hasR = false) := hR
            clear hR
            cases c with
            | false =>
              go_wp2
              go_ret3
              exact ⟨by simp [RetM, HG.out, model, H1.out, HR.out], BL⟩
            | true =>
              cases f with
              | none =>
                go_wp2
                go_ret3
                exact ⟨by simp [RetM, HG.out, model, H1.out, HR.out], BL⟩
              | some f =>
                by_cases h1 : f < (F i).call
                · go_wp2
                  go_ret3
                  exact ⟨by simp [RetM, HG.out, model, H1.out, HR.out, h1], BL⟩
                · go_wp2
                  go_ret3
                  exact ⟨by simp [RetM, HG.out, model, H1.out, HR.out, show ¬ f < (F i).call by omega], BL⟩
          | true =>
            rw [hR] at d4
            have HR : Hid ((F i).hasR = true) := hR
            clear hR
            cases f with
            | none =>
              go_wp2
              go_ret3
              exact ⟨by simp [RetM, HG.out, model, H1.out, HR.out], BL⟩
            | some f =>
              by_cases h1 : f < (F i).call
              · by_cases h2 : (F i).call < (F i).ret
                · go_wp2
                  go_ret3
                  exact ⟨by simp [RetM, HG.out, model, H1.out, HR.out, h1, h2], BL⟩
                · go_wp2
                  go_ret3
                  exact ⟨by simp [RetM, HG.out, model, H1.out, HR.out, h1, show ¬ (F i).call < (F i).ret by omega], BL⟩
              · by_cases h2 : f < (F i).ret
                · go_wp2
                  go_ret3
                  exact ⟨by simp [RetM, HG.out, model, H1.out, HR.out, show ¬ f < (F i).call by omega, show f < (F i).ret by omega], BL⟩
                · go_wp2
                  go_ret3
                  exact ⟨by simp [RetM, HG.out, model, H1.out, HR.out, show ¬ f < (F i).call by omega, show ¬ f < (F i).ret by omega], BL⟩
        · have hn1 : ((n : Int) != 1) = true := by rw [bne_iff_ne]; omega
          have HN : Hid (¬ n = 1) := hn
          clear hn
          go_wp2
          go_quiet (fail)
          go_wp2
          go_ret3
          exact ⟨by simp [RetM, HG.out, model, HN.out], Below.trans BL ⟨rfl, rfl, rfl, Nat.le_refl _, fun _ _ => rfl⟩⟩
  · have hkb : ((F i).kind != 1) = true := by simpa using hk1
    have H1 : Hid (¬ (F i).kind = 1) := hk1
    clear hk1
    go_enter Try.func13, Try.ntmps13
    go_wp2
    go_quiet (fail)
    go_wp2
    go_ret3
    refine ⟨?_, ?_⟩
    · simp [RetM, model, H1.out]
    · exact ⟨rfl, rfl, rfl, by simp, fun j hj => Below.heap_alloc _ _ _ hj⟩
end Go.Proofs.Qxb6600030a
