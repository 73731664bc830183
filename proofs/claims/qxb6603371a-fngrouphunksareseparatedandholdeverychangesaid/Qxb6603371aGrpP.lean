namespace Go.Proofs.Qxb6603371a

/-! The plain text of 'group': no Go in sight. -/

/-- One hunk. -/
structure Hk where
  fs : Int
  ts : Int
  first : Int
  fin : Int

/-- How many of the first k lines are of another op than c. -/
def others (ops : Nat → Int) (c : Int) : Nat → Nat
  | 0 => 0
  | k + 1 => if ops k = c then others ops c k else others ops c k + 1

theorem others_le (ops : Nat → Int) (c : Int) (k : Nat) : others ops c k ≤ k := by
  induction k with
  | zero => simp [others]
  | succ k ih => simp only [others]; split <;> omega

def newHk (ops : Nat → Int) (n k : Nat) : Hk :=
  ⟨(others ops 43 k : Int) - ((k : Int) - max ((k : Int) - 3) 0), (others ops 45 k : Int) - ((k : Int) - max ((k : Int) - 3) 0), max ((k : Int) - 3) 0, min ((k : Int) + 1 + 3) (n : Int)⟩

/-- The hunks behind the first k lines of n. -/
def grp (ops : Nat → Int) (n : Nat) : Nat → List Hk
  | 0 => []
  | k + 1 => if ops k = 32 then grp ops n k else
    match (grp ops n k).getLast? with
    | some h => if (k : Int) - 3 ≤ h.fin then (grp ops n k).dropLast ++ [{ h with fin := min ((k : Int) + 1 + 3) (n : Int) }] else grp ops n k ++ [newHk ops n k]
    | none => grp ops n k ++ [newHk ops n k]

theorem grp_same {ops : Nat → Int} {n k : Nat} (h : ops k = 32) : grp ops n (k + 1) = grp ops n k := by simp [grp, h]

theorem grp_merge {ops : Nat → Int} {n k : Nat} {h : Hk} (h1 : ¬ ops k = 32) (h2 : (grp ops n k).getLast? = some h) (h3 : (k : Int) - 3 ≤ h.fin) :
    grp ops n (k + 1) = (grp ops n k).dropLast ++ [{ h with fin := min ((k : Int) + 1 + 3) (n : Int) }] := by simp [grp, h1, h2, h3]

theorem grp_new {ops : Nat → Int} {n k : Nat} (h1 : ¬ ops k = 32) (h2 : ∀ h, (grp ops n k).getLast? = some h → ¬ (k : Int) - 3 ≤ h.fin) :
    grp ops n (k + 1) = grp ops n k ++ [newHk ops n k] := by
  simp only [grp, if_neg h1]
  split
  · next h hh => rw [if_neg (h2 h hh)]
  · rfl

theorem grp_length (ops : Nat → Int) (n k : Nat) : (grp ops n k).length ≤ k := by
  induction k with
  | zero => simp [grp]
  | succ k ih =>
    by_cases h1 : ops k = 32
    · rw [grp_same h1]; omega
    · cases h2 : (grp ops n k).getLast? with
      | none => rw [grp_new h1 (by simp [h2])]; simp; omega
      | some h =>
        by_cases h3 : (k : Int) - 3 ≤ h.fin
        · rw [grp_merge h1 h2 h3]
          have : grp ops n k ≠ [] := by intro e; simp [e] at h2
          have := List.length_pos_iff.2 this
          simp; omega
        · rw [grp_new h1 (by intro h' e; rw [h2] at e; cases e; exact h3)]; simp; omega

/-- Field number q of hunk i. -/
def hkAt (hs : List Hk) (q i : Nat) : Int :=
  match hs[i]? with
  | some h => if q = 0 then h.fs else if q = 1 then h.ts else if q = 2 then h.first else h.fin
  | none => 0

end Go.Proofs.Qxb6603371a
