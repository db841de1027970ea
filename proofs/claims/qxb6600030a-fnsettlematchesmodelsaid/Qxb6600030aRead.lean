import Derived.Test.Qxb6600030aRows
import Derived.Test.Qxb6600030aPlain
import Derived.Test.Qxb6600030aMaps
import Derived.WalkKit
import Derived.ProofKit
import Derived.Deep.QuietTactic
import Derived.BigQuiet
namespace Go.Proofs.Qxb6600030a
open Go.ChangeShapes Go.WideShapes Go.ChangeAt Go.RowKit

/-- Operation k of a slice of SettleOps, at cell 'off + k * 6' of block b. -/
structure OpAt (w : World) (b off k : Nat) (o : SOp) : Prop where
  kind : w.cell? ⟨b, off + k * 6, none⟩ = some (.int .u8 o.kind)
  hasV : w.cell? ⟨b, off + k * 6 + 1, none⟩ = some (.bool o.hasV)
  val : w.cell? ⟨b, off + k * 6 + 2, none⟩ = some (.string o.val)
  call : w.cell? ⟨b, off + k * 6 + 3, none⟩ = some (.int .i64 o.call)
  hasR : w.cell? ⟨b, off + k * 6 + 4, none⟩ = some (.bool o.hasR)
  ret : w.cell? ⟨b, off + k * 6 + 5, none⟩ = some (.int .i64 o.ret)

/-- The call returned a bool of which φ tells. -/
def RetB (φ : Bool → Prop) (e : Ending) : Prop := ∃ r, e = .returned (.bool r) ∧ φ r
theorem RetB.mk {φ : Bool → Prop} {v : Value} {r : Bool} (h : v = .bool r) (hr : φ r) : RetB φ (.returned v) := ⟨r, by rw [h], hr⟩
def RetI (φ : Int → Prop) (e : Ending) : Prop := ∃ r, e = .returned (.int .i64 r) ∧ φ r
theorem RetI.mk {φ : Int → Prop} {v : Value} {r : Int} (h : v = .int .i64 r) (hr : φ r) : RetI φ (.returned v) := ⟨r, by rw [h], hr⟩

def Kb (o : SOp) : Prop := 0 ≤ o.kind ∧ o.kind ≤ 255

set_option maxHeartbeats 1000000 in
theorem zzbytes (ao : Option Addr) (b off cap : Nat) (len : Nat) (F : Nat → SOp) (w : World) (ha : 0 < len → ao = some ⟨b, off, none⟩)
   (hm : len ≤ maxLen) (hs : ∀ k, k < len → (F k).val.size ≤ maxLen) (hc : ∀ k, k < len → OpAt w b off k (F k)) :
    Calls Try.prog 6 #[.slice ao len cap] w fun e w' => RetB (fun _ => True) e ∧ w' = w := by
  unfold maxLen at hm hs
  by_cases h0 : len = 0
  · subst h0
    clear hc ha hs
    go_enter Try.func6, Try.ntmps6
    go_wp2
    refine wp_loop_rounds 1 ?_
    rw [rounds_succ]
    go_wp2
    go_ret
    exact ⟨.mk rfl trivial, rfl⟩
  · obtain rfl := ha (by omega)
    clear ha
    go_enter Try.func6, Try.ntmps6
    go_wp2
    · go_ret
      exact ⟨.mk rfl trivial, rfl⟩
    go_loop [3, 4] (fun n i => ∃ k : Nat, ∃ m : Int, k ≤ len ∧ 0 ≤ m ∧ m ≤ 1048576 ∧ i = .int .i64 k ∧ n = .int .i64 m) (fun _ i => len - (intOf i).toNat)
    case atStart => exact ⟨0, len, Nat.zero_le _, by omega, by omega, rfl, rfl⟩
    case round =>
      obtain ⟨k, m, hk, hm, hm2, rfl, rfl⟩ := hrel
      by_cases hlt : k < len
      · have h1 := (hc k hlt).val
        clear hc
        go_wp2
        · go_ret; exact ⟨.mk rfl trivial, rfl⟩
        · go_ret; exact ⟨.mk rfl trivial, rfl⟩
        · go_round
          case rel => exact ⟨k + 1, m + (F k).val.size, by omega, by omega, by omega, by go_num, rfl⟩
          case measure => simp [intOf]; omega
      · go_wp2
        go_ret; exact ⟨.mk rfl trivial, rfl⟩

set_option maxHeartbeats 1000000 in
theorem size_any (ao : Option Addr) (b off cap : Nat) (len : Nat) (F : Nat → SOp) (w : World) (ha : 0 < len → ao = some ⟨b, off, none⟩)
   (hm : len ≤ maxLen) (hs : ∀ k, k < len → (F k).val.size ≤ maxLen) (hc : ∀ k, k < len → OpAt w b off k (F k)) :
    Calls Try.prog 7 #[.slice ao len cap] w fun e w' => RetI (fun _ => True) e ∧ w' = w := by
  unfold maxLen at hm hs
  by_cases h0 : len = 0
  · subst h0
    clear hc ha hs
    go_enter Try.func7, Try.ntmps7
    go_wp2
    refine wp_loop_rounds 1 ?_
    rw [rounds_succ]
    go_wp2
    go_ret
    exact ⟨.mk rfl trivial, rfl⟩
  · obtain rfl := ha (by omega)
    clear ha
    go_enter Try.func7, Try.ntmps7
    go_wp2
    · go_ret
      exact ⟨.mk rfl trivial, rfl⟩
    · go_ret
      exact ⟨.mk rfl trivial, rfl⟩
    go_loop [3, 4] (fun n i => ∃ k : Nat, ∃ m : Int, k ≤ len ∧ 0 ≤ m ∧ m ≤ 1048576 ∧ i = .int .i64 k ∧ n = .int .i64 m) (fun _ i => len - (intOf i).toNat)
    case atStart => exact ⟨0, len * 48, Nat.zero_le _, by omega, by omega, rfl, rfl⟩
    case round =>
      obtain ⟨k, m, hk, hm, hm2, rfl, rfl⟩ := hrel
      by_cases hlt : k < len
      · have h1 := (hc k hlt).val
        clear hc
        go_wp2
        · go_ret; exact ⟨.mk rfl trivial, rfl⟩
        · go_ret; exact ⟨.mk rfl trivial, rfl⟩
        · go_round
          case rel => exact ⟨k + 1, m + (F k).val.size, by omega, by omega, by omega, by go_num, rfl⟩
          case measure => simp [intOf]; omega
      · go_wp2
        go_ret; exact ⟨.mk rfl trivial, rfl⟩

set_option maxHeartbeats 1000000 in
theorem writes_any (ao : Option Addr) (b off cap : Nat) (len : Nat) (F : Nat → SOp) (w : World) (ha : 0 < len → ao = some ⟨b, off, none⟩)
   (hm : len ≤ 65536) (hc : ∀ k, k < len → OpAt w b off k (F k)) :
    Calls Try.prog 8 #[.slice ao len cap] w fun e w' => RetB (fun r => r = true → ∀ k, k < len → (F k).kind = 1 → (F k).hasV = true) e ∧ w' = w := by
  by_cases h0 : len = 0
  · subst h0
    clear hc ha
    go_enter Try.func8, Try.ntmps8
    go_wp2
    refine wp_loop_rounds 1 ?_
    rw [rounds_succ]
    go_wp2
    go_ret
    exact ⟨.mk rfl (fun _ k hk => absurd hk (by omega)), rfl⟩
  · obtain rfl := ha (by omega)
    clear ha
    go_enter Try.func8, Try.ntmps8
    go_wp2
    go_loop [3] (fun i => ∃ k : Nat, k ≤ len ∧ i = .int .i64 k ∧ Hid (∀ j, j < k → (F j).kind = 1 → (F j).hasV = true)) (fun i => len - (intOf i).toNat)
    case atStart => exact ⟨0, Nat.zero_le _, rfl, fun j hj => absurd hj (by omega)⟩
    case round =>
      obtain ⟨k, hk, rfl, hj⟩ := hrel
      by_cases hlt : k < len
      · have h1 := (hc k hlt).kind
        have h2 := (hc k hlt).hasV
        clear hc
        by_cases hk1 : (F k).kind = 1
        · have hb : ((F k).kind == 1) = true := by simpa using hk1
          have H1 : Hid ((F k).kind = 1) := hk1
          clear hk1
          cases hv : (F k).hasV with
          | false =>
            rw [hv] at h2
            go_wp2
            go_ret
            exact ⟨.mk rfl (fun h => by cases h), rfl⟩
          | true =>
            rw [hv] at h2
            have HV : Hid ((F k).hasV = true) := hv
            clear hv
            go_wp2
            go_round
            case rel =>
              refine ⟨k + 1, by omega, by go_num, fun j hj' hj1 => ?_⟩
              by_cases e : j = k
              · subst e; exact HV.out
              · exact hj.out j (by omega) hj1
            case measure => simp [intOf]; omega
        · have hb : ((F k).kind == 1) = false := by simpa using hk1
          have H1 : Hid (¬ (F k).kind = 1) := hk1
          clear hk1
          go_wp2
          go_round
          case rel =>
            refine ⟨k + 1, by omega, by go_num, fun j hj' hj1 => ?_⟩
            by_cases e : j = k
            · subst e; exact absurd hj1 H1.out
            · exact hj.out j (by omega) hj1
          case measure => simp [intOf]; omega
      · go_wp2
        go_ret
        exact ⟨.mk rfl (fun _ j hj' => hj.out j (by omega)), rfl⟩

set_option maxHeartbeats 1000000 in
theorem formed_any (ao : Option Addr) (b off cap : Nat) (len : Nat) (F : Nat → SOp) (w : World) (ha : 0 < len → ao = some ⟨b, off, none⟩)
   (hm : len ≤ 65536) (hc : ∀ k, k < len → OpAt w b off k (F k)) :
    Calls Try.prog 9 #[.slice ao len cap] w fun e w' => RetB (fun r => r = true → ∀ k, k < len → (F k).hasR = true → (F k).call ≤ (F k).ret) e ∧ ∃ n, w' = w.drewN n := by
  by_cases h0 : len = 0
  · subst h0
    clear hc ha
    go_enter Try.func9, Try.ntmps9
    go_wp2
    refine wp_loop_rounds 1 ?_
    rw [rounds_succ]
    go_wp2
    go_ret
    exact ⟨.mk rfl (fun _ k hk => absurd hk (by omega)), 0, rfl⟩
  · obtain rfl := ha (by omega)
    clear ha
    go_enter Try.func9, Try.ntmps9
    go_wp2
    go_loopw [3] (fun i wr => ∃ k : Nat, k ≤ len ∧ i = .int .i64 k ∧ Hid (∀ j, j < k → (F j).hasR = true → (F j).call ≤ (F j).ret) ∧ Hid (∃ n, wr = w.drewN n)) (fun i _ => len - (intOf i).toNat)
    case atStart => exact ⟨0, Nat.zero_le _, rfl, fun j hj => absurd hj (by omega), 0, rfl⟩
    case round =>
      obtain ⟨k, hk, rfl, hj, hd⟩ := hrel
      by_cases hlt : k < len
      · have h4 := (hc k hlt).hasR
        have h5 := (hc k hlt).ret
        have h3 := (hc k hlt).call
        clear hc
        obtain ⟨n, hn⟩ := hd.out
        clear hd
        subst hn
        cases hv : (F k).hasR with
        | false =>
          rw [hv] at h4
          have HV : Hid ((F k).hasR = false) := hv
          clear hv
          go_wp2
          go_quiet (fail)
          go_wp2
          go_round
          case rel =>
            refine ⟨k + 1, by omega, by go_num, fun j hj' hj1 => ?_, ?_⟩
            · by_cases e : j = k
              · subst e; rw [HV.out] at hj1; cases hj1
              · exact hj.out j (by omega) hj1
            · exact ⟨_, rfl⟩
          case measure => simp [intOf]; omega
        | true =>
          rw [hv] at h4
          have HV : Hid ((F k).hasR = true) := hv
          clear hv
          go_wp2
          go_quiet (fail)
          go_wp2
          · go_ret
            exact ⟨.mk rfl (fun h => by cases h), n + nq, by simp⟩
          · have hle : (F k).call ≤ (F k).ret := by assumption
            go_round
            case rel =>
              refine ⟨k + 1, by omega, by go_num, fun j hj' hj1 => ?_, n + nq, by simp⟩
              by_cases e : j = k
              · subst e; exact hle
              · exact hj.out j (by omega) hj1
            case measure => simp [intOf]; omega
      · go_wp2
        go_ret
        exact ⟨.mk rfl (fun _ j hj' => hj.out j (by omega)), hd.out⟩
end Go.Proofs.Qxb6600030a
