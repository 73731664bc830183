namespace Go.Proofs.Qxb6603371a

/-! The length of a longest common subsequence: plain lists. -/

def lcs : List Int → List Int → Nat
  | [], _ => 0
  | _ :: _, [] => 0
  | a :: as, b :: bs => if a = b then lcs as bs + 1 else max (lcs as (b :: bs)) (lcs (a :: as) bs)

theorem tail_sub {x a : Int} {s l : List Int} (h : (x :: s).Sublist (a :: l)) : s.Sublist l := by
  rcases List.sublist_cons_iff.1 h with h | ⟨t, e, h⟩
  · exact (List.sublist_cons_self x s).trans h
  · cases e; exact h

theorem lcs_le_aux : ∀ (N : Nat) (l r s : List Int), l.length + r.length ≤ N → s.Sublist l → s.Sublist r → s.length ≤ lcs l r := by
  intro N
  induction N with
  | zero =>
    intro l r s hN h1 _
    have : l = [] := List.eq_nil_of_length_eq_zero (by omega)
    subst this
    simp [List.sublist_nil.1 h1]
  | succ N ih =>
    intro l r s hN h1 h2
    match l, r with
    | [], _ => simp [List.sublist_nil.1 h1]
    | _ :: _, [] => simp [List.sublist_nil.1 h2]
    | a :: as, b :: bs =>
      simp only [List.length_cons] at hN
      match s, h1, h2 with
      | [], _, _ => simp
      | x :: s, h1, h2 =>
        rw [lcs]
        by_cases e : a = b
        · rw [if_pos e]
          have := ih as bs s (by omega) (tail_sub h1) (tail_sub h2)
          simp only [List.length_cons]
          omega
        · rw [if_neg e]
          rcases List.sublist_cons_iff.1 h1 with h3 | ⟨t, e1, h3⟩
          · have := ih as (b :: bs) (x :: s) (by simp; omega) h3 h2
            omega
          · cases e1
            rcases List.sublist_cons_iff.1 h2 with h4 | ⟨t, e2, h4⟩
            · have := ih (a :: as) bs (a :: s) (by simp; omega) h1 h4
              omega
            · cases e2; exact absurd rfl e

theorem lcs_le {l r s : List Int} (h1 : s.Sublist l) (h2 : s.Sublist r) : s.length ≤ lcs l r := lcs_le_aux _ l r s (Nat.le_refl _) h1 h2

theorem lcs_ex_aux : ∀ (N : Nat) (l r : List Int), l.length + r.length ≤ N → ∃ s : List Int, s.Sublist l ∧ s.Sublist r ∧ s.length = lcs l r := by
  intro N
  induction N with
  | zero =>
    intro l r hN
    have : l = [] := List.eq_nil_of_length_eq_zero (by omega)
    subst this
    exact ⟨[], List.nil_sublist _, List.nil_sublist _, by simp [lcs]⟩
  | succ N ih =>
    intro l r hN
    match l, r with
    | [], _ => exact ⟨[], List.nil_sublist _, List.nil_sublist _, by simp [lcs]⟩
    | _ :: _, [] => exact ⟨[], List.nil_sublist _, List.nil_sublist _, by simp [lcs]⟩
    | a :: as, b :: bs =>
      simp only [List.length_cons] at hN
      rw [lcs]
      by_cases e : a = b
      · subst e
        rw [if_pos rfl]
        obtain ⟨s, h1, h2, h3⟩ := ih as bs (by omega)
        exact ⟨a :: s, List.cons_sublist_cons.2 h1, List.cons_sublist_cons.2 h2, by simp [h3]⟩
      · rw [if_neg e]
        obtain ⟨s, h1, h2, h3⟩ := ih as (b :: bs) (by simp; omega)
        obtain ⟨t, k1, k2, k3⟩ := ih (a :: as) bs (by simp; omega)
        rcases Nat.le_total (lcs as (b :: bs)) (lcs (a :: as) bs) with h | h
        · exact ⟨t, k1, k2.trans (List.sublist_cons_self _ _), by omega⟩
        · exact ⟨s, h1.trans (List.sublist_cons_self _ _), h2, by omega⟩

theorem lcs_ex (l r : List Int) : ∃ s : List Int, s.Sublist l ∧ s.Sublist r ∧ s.length = lcs l r := lcs_ex_aux _ l r (Nat.le_refl _)

theorem lcs_mono {l1 l2 r1 r2 : List Int} (h1 : l1.Sublist l2) (h2 : r1.Sublist r2) : lcs l1 r1 ≤ lcs l2 r2 := by
  obtain ⟨s, a1, a2, a3⟩ := lcs_ex l1 r1
  rw [← a3]
  exact lcs_le (a1.trans h1) (a2.trans h2)

theorem lcs_append (l1 l2 r1 r2 : List Int) : lcs l1 r1 + lcs l2 r2 ≤ lcs (l1 ++ l2) (r1 ++ r2) := by
  obtain ⟨s, a1, a2, a3⟩ := lcs_ex l1 r1
  obtain ⟨t, b1, b2, b3⟩ := lcs_ex l2 r2
  have := lcs_le (a1.append b1) (a2.append b2)
  rw [List.length_append] at this
  omega

theorem lcs_rev_le (l r : List Int) : lcs l r ≤ lcs l.reverse r.reverse := by
  obtain ⟨s, a1, a2, a3⟩ := lcs_ex l r
  rw [← a3, ← List.length_reverse]
  exact lcs_le a1.reverse a2.reverse

theorem lcs_rev (l r : List Int) : lcs l.reverse r.reverse = lcs l r := by
  have h1 := lcs_rev_le l r
  have h2 := lcs_rev_le l.reverse r.reverse
  rw [List.reverse_reverse, List.reverse_reverse] at h2
  omega

theorem lcs_len_left (l r : List Int) : lcs l r ≤ l.length := by
  obtain ⟨s, a1, _, a3⟩ := lcs_ex l r
  rw [← a3]; exact a1.length_le

theorem lcs_len_right (l r : List Int) : lcs l r ≤ r.length := by
  obtain ⟨s, _, a2, a3⟩ := lcs_ex l r
  rw [← a3]; exact a2.length_le

theorem lcs_cons_eq (a : Int) (l r : List Int) : lcs (a :: l) (a :: r) = lcs l r + 1 := by rw [lcs, if_pos rfl]
theorem lcs_cons_ne {a b : Int} (h : a ≠ b) (l r : List Int) : lcs (a :: l) (b :: r) = max (lcs l (b :: r)) (lcs (a :: l) r) := by rw [lcs, if_neg h]

theorem lcs_snoc_eq (a : Int) (l r : List Int) : lcs (l ++ [a]) (r ++ [a]) = lcs l r + 1 := by
  rw [← lcs_rev, List.reverse_append, List.reverse_append, ← lcs_rev l r]
  exact lcs_cons_eq a l.reverse r.reverse

theorem lcs_snoc_ne {a b : Int} (h : a ≠ b) (l r : List Int) : lcs (l ++ [a]) (r ++ [b]) = max (lcs l (r ++ [b])) (lcs (l ++ [a]) r) := by
  rw [← lcs_rev (l ++ [a]) (r ++ [b]), ← lcs_rev l (r ++ [b]), ← lcs_rev (l ++ [a]) r, List.reverse_append, List.reverse_append]
  exact lcs_cons_ne h l.reverse r.reverse

theorem lcs_snoc_le (a b : Int) (l r : List Int) : lcs (l ++ [a]) (r ++ [b]) ≤ lcs l r + 1 := by
  by_cases h : a = b
  · subst h; rw [lcs_snoc_eq]; exact Nat.le_refl _
  · rw [← lcs_rev, List.reverse_append, List.reverse_append, ← lcs_rev l r]
    show lcs (a :: l.reverse) (b :: r.reverse) ≤ lcs l.reverse r.reverse + 1
    obtain ⟨s, a1, a2, a3⟩ := lcs_ex (a :: l.reverse) (b :: r.reverse)
    rw [← a3]
    match s, a1, a2 with
    | [], _, _ => simp
    | x :: s, a1, a2 =>
      have := lcs_le (tail_sub a1) (tail_sub a2)
      simp only [List.length_cons]
      omega

/-! ### Prefixes -/

/-- The length for the first x and the first y elements. -/
def L (l r : List Int) (x y : Nat) : Nat := lcs (l.take x) (r.take y)

/-- The element x of l is the element y of r. -/
def Mt (l r : List Int) (x y : Nat) : Prop := ∃ (hx : x < l.length) (hy : y < r.length), l[x] = r[y]

section
variable {l r : List Int}

theorem L_mono {x x' y y' : Nat} (h1 : x ≤ x') (h2 : y ≤ y') : L l r x y ≤ L l r x' y' := lcs_mono (List.take_sublist_take_left h1) (List.take_sublist_take_left h2)

theorem L_le_left (l r : List Int) (x y : Nat) : L l r x y ≤ x := by
  have := lcs_len_left (l.take x) (r.take y)
  rw [List.length_take] at this
  unfold L; omega
theorem L_le_right (l r : List Int) (x y : Nat) : L l r x y ≤ y := by
  have := lcs_len_right (l.take x) (r.take y)
  rw [List.length_take] at this
  unfold L; omega
theorem L_le_n (l r : List Int) (x y : Nat) : L l r x y ≤ l.length := by
  have := lcs_len_left (l.take x) (r.take y)
  rw [List.length_take] at this
  unfold L; omega
theorem L_le_m (l r : List Int) (x y : Nat) : L l r x y ≤ r.length := by
  have := lcs_len_right (l.take x) (r.take y)
  rw [List.length_take] at this
  unfold L; omega
theorem L_le_all (l r : List Int) (x y : Nat) : L l r x y ≤ lcs l r := lcs_mono (List.take_sublist _ _) (List.take_sublist _ _)

theorem L_sat_left {x y : Nat} (h : l.length ≤ x) : L l r x y = L l r l.length y := by unfold L; rw [List.take_of_length_le h, List.take_of_length_le (Nat.le_refl _)]
theorem L_sat_right {x y : Nat} (h : r.length ≤ y) : L l r x y = L l r x r.length := by unfold L; rw [List.take_of_length_le h, List.take_of_length_le (Nat.le_refl _)]
theorem L_all : L l r l.length r.length = lcs l r := by unfold L; rw [List.take_of_length_le (Nat.le_refl _), List.take_of_length_le (Nat.le_refl _)]

theorem L_match {x y : Nat} (h : Mt l r x y) : L l r (x + 1) (y + 1) = L l r x y + 1 := by
  obtain ⟨hx, hy, e⟩ := h
  unfold L
  rw [List.take_succ_eq_append_getElem hx, List.take_succ_eq_append_getElem hy, e]
  exact lcs_snoc_eq _ _ _

theorem L_nomatch {x y : Nat} (h : ¬ Mt l r x y) : L l r (x + 1) (y + 1) = max (L l r x (y + 1)) (L l r (x + 1) y) := by
  by_cases hx : x < l.length
  · by_cases hy : y < r.length
    · have e : l[x] ≠ r[y] := fun e => h ⟨hx, hy, e⟩
      unfold L
      rw [List.take_succ_eq_append_getElem hx, List.take_succ_eq_append_getElem hy]
      exact lcs_snoc_ne e _ _
    · have e1 : L l r (x + 1) (y + 1) = L l r (x + 1) y := by rw [L_sat_right (by omega), ← L_sat_right (y := y) (by omega)]
      have e2 : L l r x (y + 1) ≤ L l r (x + 1) y := by rw [← e1]; exact L_mono (by omega) (Nat.le_refl _)
      omega
  · have e1 : L l r (x + 1) (y + 1) = L l r x (y + 1) := by rw [L_sat_left (by omega), ← L_sat_left (x := x) (by omega)]
    have e2 : L l r (x + 1) y ≤ L l r x (y + 1) := by rw [← e1]; exact L_mono (Nat.le_refl _) (by omega)
    omega

theorem L_diag (l r : List Int) (x y : Nat) : L l r (x + 1) (y + 1) ≤ L l r x y + 1 := by
  by_cases hx : x < l.length
  · by_cases hy : y < r.length
    · unfold L
      rw [List.take_succ_eq_append_getElem hx, List.take_succ_eq_append_getElem hy]
      exact lcs_snoc_le _ _ _ _
    · rw [L_sat_right (by omega), ← L_sat_right (y := y) (by omega)]
      have : L l r (x + 1) y ≤ L l r x y + 1 := by
        unfold L
        rw [List.take_succ_eq_append_getElem hx]
        obtain ⟨s, a1, a2, a3⟩ := lcs_ex (l.take x ++ [l[x]]) (r.take y)
        rw [← a3]
        obtain ⟨s1, s2, e, b1, b2⟩ := List.sublist_append_iff.1 a1
        subst e
        have h1 := lcs_le b1 ((List.sublist_append_left s1 s2).trans a2)
        have h2 := b2.length_le
        simp at h2 ⊢
        omega
      exact this
  · rw [L_sat_left (by omega), ← L_sat_left (x := x) (by omega)]
    by_cases hy : y < r.length
    · unfold L
      rw [List.take_succ_eq_append_getElem hy]
      obtain ⟨s, a1, a2, a3⟩ := lcs_ex (l.take x) (r.take y ++ [r[y]])
      rw [← a3]
      obtain ⟨s1, s2, e, b1, b2⟩ := List.sublist_append_iff.1 a2
      subst e
      have h1 := lcs_le ((List.sublist_append_left s1 s2).trans a1) b1
      have h2 := b2.length_le
      simp at h2 ⊢
      omega
    · rw [L_sat_right (by omega), ← L_sat_right (y := y) (by omega)]
      omega

theorem L_diag_many (l r : List Int) (x y t : Nat) : L l r (x + t) (y + t) ≤ L l r x y + t := by
  induction t with
  | zero => exact Nat.le_refl _
  | succ t ih =>
    have := L_diag l r (x + t) (y + t)
    rw [show x + (t + 1) = x + t + 1 from rfl, show y + (t + 1) = y + t + 1 from rfl]
    omega

theorem L_zero_left (y : Nat) : L l r 0 y = 0 := by simp [L, lcs]
theorem L_zero_right (x : Nat) : L l r x 0 = 0 := Nat.le_zero.1 (L_le_right l r x 0)
end

end Go.Proofs.Qxb6603371a
