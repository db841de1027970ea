/-! Plain data and plain reckoning: what 'settle' keeps, and what the model says. Nothing of Go here. -/
namespace Go.Proofs.Qxb6600030a

structure SOp where
  kind : Int
  hasV : Bool
  val : ByteArray
  call : Int
  hasR : Bool
  ret : Int

/-- What is known of a value behind some operations: how many writes write it, does a non-write carry it, the first return of such a one. -/
structure Stat where
  writes : Nat
  carried : Bool
  first : Option Int

def later (f : Option Int) (p : SOp) : Option Int :=
  match f with
  | none => if p.hasR then some p.ret else none
  | some r => if p.hasR && decide (p.ret < r) then some p.ret else some r

def bump (v : ByteArray) (s : Stat) (p : SOp) : Stat :=
  if p.hasV = true ∧ p.val = v then
    if p.kind = 1 then { s with writes := s.writes + 1 } else { s with carried := true, first := later s.first p }
  else s

def stat (F : Nat → SOp) (v : ByteArray) : Nat → Stat
  | 0 => ⟨0, false, none⟩
  | n + 1 => bump v (stat F v n) (F n)

theorem stat_le (F : Nat → SOp) (v : ByteArray) : ∀ n, (stat F v n).writes ≤ n
  | 0 => Nat.le_refl _
  | n + 1 => by
    have := stat_le F v n
    simp only [stat, bump]
    split
    · split
      · show (stat F v n).writes + 1 ≤ n + 1; omega
      · show (stat F v n).writes ≤ n + 1; omega
    · omega

def own (o : SOp) : Option Int := if o.hasR then some o.ret else none

/-- What 'settle' does with an operation, given its value's 'Stat': none: left out; some r: kept, its return r. -/
def settled (s : Stat) (o : SOp) : Option (Option Int) :=
  if o.kind ≠ 1 ∨ s.writes ≠ 1 then some (own o)
  else if o.hasR = false ∧ s.carried = false then none
  else match s.first with
    | none => some (own o)
    | some r => if o.hasR = false ∨ r < o.ret then some (some (if r < o.call then o.call else r)) else some (own o)

/-- What the model says: keep, has a return, the return. -/
def model (s : Stat) (o : SOp) : Bool × Bool × Int :=
  if o.kind ≠ 1 ∨ s.writes ≠ 1 then (true, o.hasR, o.ret)
  else if o.hasR = false ∧ s.carried = false then (false, false, 0)
  else match s.first with
    | none => (true, o.hasR, o.ret)
    | some f =>
      let c := if f < o.call then o.call else f
      (true, true, if o.hasR = false ∨ c < o.ret then c else o.ret)

/-- The two agree on a well-formed operation. -/
theorem agree (s : Stat) (o : SOp) (hwf : o.hasR = true → o.call ≤ o.ret) :
    match settled s o with
    | none => (model s o).1 = false
    | some r => (model s o).1 = true ∧ (model s o).2.1 = r.isSome ∧ (∀ x, r = some x → (model s o).2.2 = x) := by
  unfold settled model own
  by_cases h1 : o.kind ≠ 1 ∨ s.writes ≠ 1
  · simp only [if_pos h1]
    cases hr : o.hasR <;> simp
  · simp only [if_neg h1]
    by_cases h2 : o.hasR = false ∧ s.carried = false
    · simp only [if_pos h2]
    · simp only [if_neg h2]
      cases hf : s.first with
      | none => cases hr : o.hasR <;> simp
      | some f =>
        cases hr : o.hasR with
        | false => simp
        | true =>
          have := hwf hr
          by_cases h3 : f < o.ret
          · simp only [h3, or_true, if_true, Option.isSome_some, true_and]
            intro x hx
            cases hx
            by_cases h6 : f < o.call
            · simp [h6]; omega
            · simp [h6]; omega
          · simp [h3]
            split <;> omega
end Go.Proofs.Qxb6600030a
