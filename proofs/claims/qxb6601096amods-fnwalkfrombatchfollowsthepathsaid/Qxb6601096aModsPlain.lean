/-
  THE PLAIN LAW of 'Rows.FnWalkFromBatchFollowsThePathSaid': no Go in sight. 'B i': is step i a list item; 'K i': the key of step i.
-/
namespace Go.Proofs.Qxb6601096aMods

/-- The spot of an item of a list at spot s. -/
def itemS (s : Int) : Int := if s = 2 then 3 else if s = 7 then 8 else 0

/-- The spot of the member of key k of a map at spot s. -/
def memberS (s : Int) (k : ByteArray) : Int :=
  if s = 1 then (if (k.toList == [115, 97, 118, 101, 115]) = true then 2 else 0)
  else if s = 3 then (if (k.toList == [102, 105, 101, 108, 100, 115]) = true then 4 else 0)
  else if s = 4 then 5
  else if s = 5 then (if (k.toList == [97, 115, 115, 101, 116]) = true then 6 else 0)
  else if s = 6 then (if (k.toList == [99, 104, 117, 110, 107, 115]) = true then 7 else 0)
  else 0

def stepS (s : Int) (b : Bool) (k : ByteArray) : Int := if b = true then itemS s else memberS s k

/-- Is the step (b, k) the one that the path takes out of depth d? -/
def matchB (d : Int) (b : Bool) (k : ByteArray) : Bool :=
  if d = 0 then !b && (k.toList == [115, 97, 118, 101, 115])
  else if d = 1 then b
  else if d = 2 then !b && (k.toList == [102, 105, 101, 108, 100, 115])
  else if d = 3 then !b
  else if d = 4 then !b && (k.toList == [97, 115, 115, 101, 116])
  else if d = 5 then !b && (k.toList == [99, 104, 117, 110, 107, 115])
  else if d = 6 then b
  else false

/-- The spot behind n steps. -/
def walkTo (B : Nat → Bool) (K : Nat → ByteArray) : Nat → Int
  | 0 => 1
  | n + 1 => stepS (walkTo B K n) (B n) (K n)

/-- Are the first n steps the path's? -/
def allM (B : Nat → Bool) (K : Nat → ByteArray) : Nat → Bool
  | 0 => true
  | n + 1 => allM B K n && matchB (n : Int) (B n) (K n)

theorem walkTo_succ (B : Nat → Bool) (K : Nat → ByteArray) (n : Nat) : walkTo B K (n + 1) = stepS (walkTo B K n) (B n) (K n) := rfl
theorem allM_succ (B : Nat → Bool) (K : Nat → ByteArray) (n : Nat) : allM B K (n + 1) = (allM B K n && matchB (n : Int) (B n) (K n)) := rfl

theorem step_away (b : Bool) (k : ByteArray) : stepS 0 b k = 0 := by cases b <;> rfl
theorem step_end (b : Bool) (k : ByteArray) : stepS 8 b k = 0 := by cases b <;> rfl

/-- A step on the path goes one deeper; any other leaves it. -/
theorem step_path (d : Nat) (hd : d ≤ 6) (b : Bool) (k : ByteArray) : stepS ((d : Int) + 1) b k = if matchB (d : Int) b k = true then (d : Int) + 2 else 0 := by
  have h : d = 0 ∨ d = 1 ∨ d = 2 ∨ d = 3 ∨ d = 4 ∨ d = 5 ∨ d = 6 := by omega
  rcases h with rfl | rfl | rfl | rfl | rfl | rfl | rfl <;> cases b <;> simp [stepS, itemS, memberS, matchB]

/-- THE LAW: behind n steps the walk stands at depth n of the path if the n steps are the path's first n, elsewhere if not. -/
theorem walk_law (B : Nat → Bool) (K : Nat → ByteArray) : ∀ n : Nat, walkTo B K n = if n ≤ 7 ∧ allM B K n = true then (n : Int) + 1 else 0
  | 0 => by simp [walkTo, allM]
  | n + 1 => by
    rw [walkTo_succ, walk_law B K n]
    by_cases h : n ≤ 7 ∧ allM B K n = true
    · rw [if_pos h]
      by_cases h7 : n = 7
      · subst h7
        rw [if_neg (by omega)]
        exact step_end _ _
      · rw [step_path n (by omega), allM_succ, h.2, Bool.true_and]
        by_cases hm : matchB (n : Int) (B n) (K n) = true
        · rw [if_pos hm, if_pos ⟨by omega, hm⟩]
          omega
        · rw [if_neg hm, if_neg (fun h => hm h.2)]
    · rw [if_neg h, step_away, if_neg]
      intro h'
      rw [allM_succ, Bool.and_eq_true] at h'
      exact h ⟨by omega, h'.2.1⟩

/-- What the law's last line compares, on each of its ways. -/
theorem long_law (B : Nat → Bool) (K : Nat → ByteArray) (n : Nat) (h : 7 < n) : walkTo B K n = 0 := by rw [walk_law, if_neg (by omega)]
theorem off_law (B : Nat → Bool) (K : Nat → ByteArray) (n d : Nat) (hd : d < n) (ha : matchB (d : Int) (B d) (K d) = false) : walkTo B K n = 0 := by
  have off : ∀ m : Nat, d < m → allM B K m = false := by
    intro m
    induction m with
    | zero => omega
    | succ m ih =>
      intro hm
      rw [allM_succ]
      by_cases e : d = m
      · subst e; rw [ha, Bool.and_false]
      · rw [ih (by omega), Bool.false_and]
  rw [walk_law, if_neg]
  intro h
  rw [off n hd] at h
  exact absurd h.2 (by decide)
theorem on_law (B : Nat → Bool) (K : Nat → ByteArray) (n : Nat) (h : n ≤ 7) (ha : allM B K n = true) : walkTo B K n = (n : Int) + 1 := by rw [walk_law, if_pos ⟨h, ha⟩]

/-- The walk's spots are small numbers. -/
theorem walkTo_bd (B : Nat → Bool) (K : Nat → ByteArray) (n : Nat) : 0 ≤ walkTo B K n ∧ walkTo B K n ≤ 8 := by
  rw [walk_law]
  by_cases h : n ≤ 7 ∧ allM B K n = true
  · rw [if_pos h]; omega
  · rw [if_neg h]; omega
end Go.Proofs.Qxb6601096aMods
