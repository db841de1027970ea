import Derived.Test.Qxb6600164aLink
namespace Go.Proofs.Qxb6600164a
open Go.MapKept
open Go.ChangeShapes Go.WideShapes Go.ChangeAt Go.RowKit

def sl : ByteArray := ⟨#[47]⟩
/-- Is byte j a slash? -/
def isSl (s : ByteArray) (j : Nat) : Bool := if h : j < s.size then s[j] == 47 else false
/-- Not empty, no slash. -/
def Good (s : ByteArray) : Prop := s.size ≠ 0 ∧ ∀ j, isSl s j = false

theorem isSl_byte {s : ByteArray} {j : Nat} (h : j < s.size) : (((s[j]'h).toNat : Int) == 47) = isSl s j := by
  simp only [isSl, h, dite_true]
  have : ((s[j]'h) == 47) = decide ((s[j]'h) = 47) := by simp [BEq.beq]
  rw [this, Bool.eq_iff_iff, beq_iff_eq, decide_eq_true_iff]
  constructor
  · intro e; exact UInt8.toNat.inj (by simpa using (by omega : (s[j]'h).toNat = 47))
  · intro e; rw [e]; rfl

theorem data_append (a b : ByteArray) : (a ++ b).data = a.data ++ b.data := by simp
theorem isSl_append (a b : ByteArray) (j : Nat) : isSl (a ++ b) j = if j < a.size then isSl a j else isSl b (j - a.size) := by
  by_cases h : j < a.size
  · have h' : j < (a ++ b).size := by rw [ByteArray.size_append]; omega
    simp only [isSl, h, h', dite_true, if_true]
    rw [ByteArray.getElem_append_left h]
  · rw [if_neg h]
    by_cases h2 : j - a.size < b.size
    · have h' : j < (a ++ b).size := by rw [ByteArray.size_append]; omega
      simp only [isSl, h', h2, dite_true]
      rw [ByteArray.getElem_append_right (by omega)]
    · have h' : ¬ j < (a ++ b).size := by rw [ByteArray.size_append]; omega
      simp only [isSl, h', h2, dite_false]
theorem isSl_sl : isSl sl 0 = true := by decide
theorem size_sl : sl.size = 1 := rfl
theorem isSl_sl' (j : Nat) (h : 0 < j) : isSl sl j = false := by
  have h' : ¬ j < sl.size := by rw [size_sl]; omega
  simp only [isSl, h', dite_false]

theorem extract_right (a b : ByteArray) : (a ++ b).extract a.size (a ++ b).size = b := by
  rw [ByteArray.size_append]
  exact ByteArray.extract_append_eq_right rfl rfl
theorem extract_left (a b : ByteArray) : (a ++ b).extract 0 a.size = a := by
  exact ByteArray.extract_append_eq_left rfl

set_option maxHeartbeats 1000000 in
theorem last28 (s : ByteArray) (k : Nat) (w : World) (hm : s.size ≤ 1048576) (hk : k < s.size) (h0 : isSl s k = true) (h1 : ∀ j, k < j → isSl s j = false) :
    Calls Try.prog 28 #[.string s, .int .u8 47] w fun e w' => e = .returned (.int .i64 k) ∧ w' = w := by
  go_enter Try.func28, Try.ntmps28
  go_wp2_with fail
  go_loopw [5] (fun i wr => wr = w ∧ ∃ j : Nat, k ≤ j ∧ j < s.size ∧ i = .int .i64 j) (fun i _ => (intOf i).toNat)
  case atStart => exact ⟨rfl, s.size - 1, by omega, by omega, by simp; omega⟩
  case round =>
    obtain ⟨rfl, j, hj, hj', rfl⟩ := hrel
    have e := isSl_byte hj'
    by_cases q : j = k
    · subst q
      rw [h0] at e
      go_wp2
      go_ret
      exact ⟨rfl, rfl⟩
    · rw [h1 j (by omega)] at e
      go_wp2
      go_round
      case rel => exact ⟨trivial, j - 1, by omega, by omega, by congr 1; omega⟩
      case measure => simp [intOf]; omega

theorem last27 (s : ByteArray) (k : Nat) (w : World) (hm : s.size ≤ 1048576) (hk : k < s.size) (h0 : isSl s k = true) (h1 : ∀ j, k < j → isSl s j = false) :
    Calls Try.prog 27 #[.string s, .int .u8 47] w fun e w' => e = .returned (.int .i64 k) ∧ w' = w := by
  go_enter Try.func27, Try.ntmps27
  go_wp2_with fail
  refine (last28 s k w hm hk h0 h1).mono ?_
  rintro _ _ ⟨rfl, rfl⟩
  go_wp2
  go_ret
  exact ⟨rfl, rfl⟩

theorem below_drewN {B : Nat} {a w : World} (h : Below B a w) (n : Nat) : Below B a (w.drewN n) := h.trans ⟨rfl, rfl, rfl, Nat.le_refl _, fun _ _ => rfl⟩

set_option maxHeartbeats 1000000 in
theorem split1 (n : ByteArray) (w : World) (hm : (sl ++ n).size ≤ 1048576) (hn : ∀ j, isSl n j = false) :
    Calls Try.prog 26 #[.string (sl ++ n)] w fun e w' => e = .returned (.tuple #[.string sl, .string n]) ∧ Below w.heap.size w w' ∧ w'.heap.size = w.heap.size := by
  have h27 := last27 (sl ++ n) 0 w hm (by rw [ByteArray.size_append, size_sl]; omega) (by rw [isSl_append]; rfl) (fun j hj => by rw [isSl_append, if_neg (by rw [size_sl]; omega)]; exact hn _)
  have hx : (sl ++ n).extract 1 (sl ++ n).size = n := extract_right sl n
  have hz : 0 < (sl ++ n).size := by rw [ByteArray.size_append, size_sl]; omega
  generalize sl ++ n = s at *
  go_enter Try.func26, Try.ntmps26
  go_wp2_with fail
  refine h27.mono ?_
  rintro _ _ ⟨rfl, rfl⟩
  go_wp2
  go_quiet (fail)
  go_wp2
  go_ret2
  exact ⟨rfl, below_drewN (Below.refl _ _) _, rfl⟩

set_option maxHeartbeats 1000000 in
theorem split2 (p n : ByteArray) (w : World) (hp : p.size ≠ 0) (hm : (p ++ sl ++ n).size ≤ 1048576) (hn : ∀ j, isSl n j = false) :
    Calls Try.prog 26 #[.string (p ++ sl ++ n)] w fun e w' => e = .returned (.tuple #[.string p, .string n]) ∧ Below w.heap.size w w' ∧ w'.heap.size = w.heap.size := by
  have hz : (p ++ sl ++ n).size = p.size + 1 + n.size := by simp only [ByteArray.size_append, size_sl]
  have hz' : (p ++ sl).size = p.size + 1 := by simp only [ByteArray.size_append, size_sl]
  have h27 := last27 (p ++ sl ++ n) p.size w hm (by omega) (by
      rw [isSl_append, if_pos (by omega), isSl_append, if_neg (by omega), Nat.sub_self]; rfl)
    (fun j hj => by rw [isSl_append, if_neg (by omega)]; exact hn _)
  have hx : (p ++ sl ++ n).extract (p.size + 1) (p ++ sl ++ n).size = n := by rw [← hz']; exact extract_right _ n
  have hy : (p ++ sl ++ n).extract 0 p.size = p := by rw [ByteArray.append_assoc]; exact extract_left p _
  clear hz'
  generalize p ++ sl ++ n = s at *
  have hp' : ((p.size : Int) == 0) = false := by simpa using hp
  go_enter Try.func26, Try.ntmps26
  go_wp2_with fail
  refine h27.mono ?_
  rintro _ _ ⟨rfl, rfl⟩
  go_wp2
  go_quiet (fail)
  go_wp2
  go_ret2
  exact ⟨by rw [← hz, hx]; rfl, below_drewN (Below.refl _ _) _, rfl⟩

set_option maxHeartbeats 1000000 in
theorem has23 (s : ByteArray) (w : World) (hm : s.size ≤ 1048576) :
    Calls Try.prog 23 #[.string s] w fun e w' => RetB (fun r => r = false → ∀ j, isSl s j = false) e ∧ w' = w := by
  go_enter Try.func23, Try.ntmps23
  go_wp2_with fail
  go_loopw [3] (fun i wr => wr = w ∧ ∃ j : Nat, j ≤ s.size ∧ i = .int .i64 j ∧ Hid (∀ t, t < j → isSl s t = false)) (fun i _ => s.size - (intOf i).toNat)
  case atStart => exact ⟨rfl, 0, by omega, rfl, fun t ht => absurd ht (by omega)⟩
  case round =>
    obtain ⟨rfl, j, hj, rfl, hs⟩ := hrel
    by_cases q : j < s.size
    · have e := isSl_byte q
      by_cases h : isSl s j = true
      · rw [h] at e
        go_wp2
        go_ret
        exact ⟨.mk rfl (fun h => by cases h), rfl⟩
      · rw [Bool.not_eq_true] at h
        rw [h] at e
        go_wp2
        go_round
        case rel => exact ⟨trivial, j + 1, by omega, rfl, fun t ht => by
          by_cases q : t = j
          · rw [q]; exact h
          · exact hs.out t (by omega)⟩
        case measure => simp [intOf]; omega
    · go_wp2
      go_ret
      refine ⟨.mk rfl (fun _ t => ?_), rfl⟩
      by_cases q' : t < s.size
      · exact hs.out t (by omega)
      · simp [isSl, q']

theorem ne_empty (s : ByteArray) : s.toList = [] ∨ ¬ s.toList = [] ∧ s.size ≠ 0 := by
  by_cases h : s.toList = []
  · exact .inl h
  · exact .inr ⟨h, fun h0 => h (by
    have : s = ByteArray.empty := ByteArray.ext (Array.eq_empty_of_size_eq_zero h0)
    rw [this]; unfold ByteArray.toList ByteArray.toList.loop; rfl)⟩

set_option maxHeartbeats 1000000 in
theorem good6 (s : ByteArray) (w : World) (hm : s.size ≤ 1048576) :
    Calls Try.prog 6 #[.string s] w fun e w' => RetB (fun r => r = true → Good s) e ∧ w' = w := by
  rcases ne_empty s with h | ⟨h, h'⟩
  · go_enter Try.func6, Try.ntmps6
    go_wp2
    go_ret
    exact ⟨.mk rfl (fun h => by cases h), rfl⟩
  · go_enter Try.func6, Try.ntmps6
    go_wp2_with fail
    refine (has23 s w hm).mono ?_
    rintro _ _ ⟨⟨r, rfl, hr⟩, rfl⟩
    have hr : Hid (r = false → ∀ j, isSl s j = false) := hr
    cases r
    · go_wp2
      go_ret
      exact ⟨.mk rfl (fun _ => ⟨h', hr.out trivial⟩), rfl⟩
    · go_wp2
      go_ret
      exact ⟨.mk rfl (fun h => by cases h), rfl⟩
end Go.Proofs.Qxb6600164a
