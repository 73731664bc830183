import Derived.Test.Qxb6603371aMyA
namespace Go.Proofs.Qxb6603371a

/-! The greedy search along diagonals: plain. -/

/-- X is the furthest x on diagonal k that d edits reach. -/
def FR (l r : List Int) (d : Nat) (k X : Int) : Prop :=
  ∃ x y : Nat, X = x ∧ (x : Int) - y = k ∧ x + y ≤ d + 2 * L l r x y ∧ d + 2 * L l r (x + 1) (y + 1) < x + y + 2

/-- The number of edits of a shortest script. -/
def Dist (l r : List Int) : Nat := l.length + r.length - 2 * lcs l r

section
variable {l r : List Int}

/-- No point of d edits or fewer lies further on the diagonal. -/
theorem FR.max {d : Nat} {k X : Int} (h : FR l r d k X) {x y : Nat} (hk : (x : Int) - y = k) (hd : x + y ≤ d + 2 * L l r x y) : (x : Int) ≤ X := by
  obtain ⟨x0, y0, rfl, h1, h2, h3⟩ := h
  rcases Nat.lt_or_ge x0 x with hlt | hge
  · obtain ⟨t, rfl⟩ : ∃ t, x = x0 + 1 + t := ⟨x - (x0 + 1), by omega⟩
    obtain rfl : y = y0 + 1 + t := by omega
    have := L_diag_many l r (x0 + 1) (y0 + 1) t
    omega
  · omega

theorem FR.bounds {d : Nat} {k X : Int} (h : FR l r d k X) : 0 ≤ X ∧ k ≤ X ∧ X ≤ d + 2 * l.length ∧ X - k ≤ d + 2 * l.length := by
  obtain ⟨x, y, rfl, h1, h2, _⟩ := h
  have := L_le_n l r x y
  omega

/-- One edit down from diagonal k + 1. -/
theorem from_above {d : Nat} {k X : Int} (h : FR l r d (k + 1) X) : ∃ x y : Nat, X = x ∧ (x : Int) - y = k ∧ x + y ≤ d + 1 + 2 * L l r x y := by
  obtain ⟨x, y, rfl, h1, h2, _⟩ := h
  refine ⟨x, y + 1, rfl, by omega, ?_⟩
  have : L l r x y ≤ L l r x (y + 1) := L_mono (Nat.le_refl _) (by omega)
  omega

/-- One edit right from diagonal k - 1. -/
theorem from_below {d : Nat} {k X : Int} (h : FR l r d (k - 1) X) : ∃ x y : Nat, X + 1 = x ∧ (x : Int) - y = k ∧ x + y ≤ d + 1 + 2 * L l r x y := by
  obtain ⟨x, y, rfl, h1, h2, _⟩ := h
  refine ⟨x + 1, y, by omega, by omega, ?_⟩
  have : L l r x y ≤ L l r (x + 1) y := L_mono (by omega) (Nat.le_refl _)
  omega

/-- Along a match nothing is spent. -/
theorem slide {d x y : Nat} (h : x + y ≤ d + 2 * L l r x y) (hm : Mt l r x y) : x + 1 + (y + 1) ≤ d + 2 * L l r (x + 1) (y + 1) := by
  rw [L_match hm]; omega

/-- Where the slide ends the point is the furthest, if it lies no less far than the two from which one edit leads here. -/
theorem slide_end {d x y : Nat} {k : Int} (hk : (x : Int) - y = k) (hd : x + y ≤ d + 2 * L l r x y) (hno : ¬ Mt l r x y) (hkd : k ≤ d) (hkd2 : -(d : Int) ≤ k)
    (hup : k + 1 ≤ (d : Int) - 1 → ∃ X, FR l r (d - 1) (k + 1) X ∧ X ≤ x) (hdn : -((d : Int) - 1) ≤ k - 1 → ∃ X, FR l r (d - 1) (k - 1) X ∧ X + 1 ≤ x) (hpar : ∃ t : Int, k + d = 2 * t) : FR l r d k x := by
  refine ⟨x, y, rfl, hk, hd, ?_⟩
  have e := L_nomatch hno
  obtain ⟨t, ht⟩ := hpar
  have h1 : d + 2 * L l r x (y + 1) < x + y + 2 := by
    by_cases c : -((d : Int) - 1) ≤ k - 1
    · obtain ⟨X, hX, hx⟩ := hdn c
      rcases Nat.lt_or_ge (x + (y + 1)) (d - 1 + 2 * L l r x (y + 1) + 1) with h | h
      · have := hX.max (x := x) (y := y + 1) (by omega) (by omega)
        omega
      · omega
    · have := L_le_left l r x (y + 1)
      omega
  have h2 : d + 2 * L l r (x + 1) y < x + y + 2 := by
    by_cases c : k + 1 ≤ (d : Int) - 1
    · obtain ⟨X, hX, hx⟩ := hup c
      rcases Nat.lt_or_ge (x + 1 + y) (d - 1 + 2 * L l r (x + 1) y + 1) with h | h
      · have := hX.max (x := x + 1) (y := y) (by omega) (by omega)
        omega
      · omega
    · have := L_le_right l r (x + 1) y
      omega
  omega

theorem Dist_le (l r : List Int) : Dist l r ≤ l.length + r.length := by unfold Dist; omega

theorem Dist_eq (l r : List Int) : Dist l r + 2 * lcs l r = l.length + r.length := by
  have h1 := lcs_len_left l r
  have h2 := lcs_len_right l r
  unfold Dist; omega

/-- Prefix and suffix together are no more than the whole. -/
theorem L_split {x y : Nat} (hx : x ≤ l.length) (hy : y ≤ r.length) : L l r x y + L l.reverse r.reverse (l.length - x) (r.length - y) ≤ lcs l r := by
  have h := lcs_append (l.take x) (l.drop x) (r.take y) (r.drop y)
  rw [List.take_append_drop, List.take_append_drop] at h
  have e : L l.reverse r.reverse (l.length - x) (r.length - y) = lcs (l.drop x) (r.drop y) := by
    unfold L
    rw [List.take_reverse, List.take_reverse, lcs_rev, show l.length - (l.length - x) = x from by omega, show r.length - (r.length - y) = y from by omega]
  rw [e]
  exact h

/-- THE TWO SEARCHES MEET: a forward point and a backward point on one diagonal, overlapping, with no fewer edits than a shortest script has: the forward point lies in the box and a shortest script goes through it. -/
theorem meet_fwd {d e x y u v : Nat} (hd : x + y ≤ d + 2 * L l r x y) (he : u + v ≤ e + 2 * L l.reverse r.reverse u v) (hxu : l.length ≤ x + u) (hyv : (x : Int) + u - l.length = (y : Int) + v - r.length)
    (hD : d + e ≤ Dist l r) : x ≤ l.length ∧ y ≤ r.length ∧ L l r x y + L l.reverse r.reverse (l.length - x) (r.length - y) = lcs l r := by
  have hDD := Dist_eq l r
  have q1 := L_le_left l.reverse r.reverse u v
  have q2 := L_le_right l.reverse r.reverse u v
  by_cases hx : x ≤ l.length
  · by_cases hy : y ≤ r.length
    · refine ⟨hx, hy, ?_⟩
      have h1 := L_split hx hy
      obtain ⟨t, rfl⟩ : ∃ t, u = l.length - x + t := ⟨u - (l.length - x), by omega⟩
      obtain rfl : v = r.length - y + t := by omega
      have h2 := L_diag_many l.reverse r.reverse (l.length - x) (r.length - y) t
      omega
    · exfalso
      have h1 : L l r x y = L l r x r.length := L_sat_right (by omega)
      have h2 := L_le_all l r x r.length
      omega
  · exfalso
    have h1 : L l r x y = L l r l.length y := L_sat_left (by omega)
    have h2 := L_le_all l r l.length y
    by_cases hy : y ≤ r.length
    · omega
    · omega

theorem meet_bwd {d e x y u v : Nat} (hd : x + y ≤ d + 2 * L l r x y) (he : u + v ≤ e + 2 * L l.reverse r.reverse u v) (hxu : l.length ≤ x + u) (hyv : (x : Int) + u - l.length = (y : Int) + v - r.length)
    (hD : d + e ≤ Dist l r) : u ≤ l.length ∧ v ≤ r.length ∧ L l r (l.length - u) (r.length - v) + L l.reverse r.reverse u v = lcs l r := by
  have hDr : Dist l.reverse r.reverse = Dist l r := by unfold Dist; rw [lcs_rev, List.length_reverse, List.length_reverse]
  have h := meet_fwd (l := l.reverse) (r := r.reverse) (d := e) (e := d) (x := u) (y := v) (u := x) (v := y) he (by simpa using hd) (by simp; omega) (by simp; omega) (by omega)
  simp only [List.length_reverse, List.reverse_reverse] at h
  rw [lcs_rev] at h
  exact ⟨h.1, h.2.1, by omega⟩

/-- On a shortest script there is a point behind any number of its edits. -/
theorem on_script : ∀ (N : Nat) (x y j : Nat), x ≤ l.length → y ≤ r.length → l.length - x + (r.length - y) ≤ N → L l r x y + lcs (l.drop x) (r.drop y) = lcs l r → x + y ≤ j + 2 * L l r x y → j ≤ Dist l r →
    ∃ x' y', x' ≤ l.length ∧ y' ≤ r.length ∧ x' + y' = j + 2 * L l r x' y' ∧ L l r x' y' + lcs (l.drop x') (r.drop y') = lcs l r := by
  intro N
  induction N with
  | zero =>
    intro x y j hx hy hN hL hj hD
    have ex : x = l.length := by omega
    have ey : y = r.length := by omega
    subst ex; subst ey
    refine ⟨_, _, Nat.le_refl _, Nat.le_refl _, ?_, hL⟩
    have := Dist_eq l r
    rw [L_all] at hj ⊢
    omega
  | succ N ih =>
    intro x y j hx hy hN hL hj hD
    by_cases hjj : x + y = j + 2 * L l r x y
    · exact ⟨x, y, hx, hy, hjj, hL⟩
    have split : ∀ x' y', x' ≤ l.length → y' ≤ r.length → L l r x' y' + lcs (l.drop x') (r.drop y') ≤ lcs l r := fun x' y' _ _ => by
      have h := lcs_append (l.take x') (l.drop x') (r.take y') (r.drop y')
      rw [List.take_append_drop, List.take_append_drop] at h
      exact h
    by_cases hxl : x < l.length
    · by_cases hyl : y < r.length
      · by_cases hm : l[x] = r[y]
        · have hd : lcs (l.drop x) (r.drop y) = lcs (l.drop (x + 1)) (r.drop (y + 1)) + 1 := by
            rw [List.drop_eq_getElem_cons hxl, List.drop_eq_getElem_cons hyl, hm]; exact lcs_cons_eq _ _ _
          have hl := L_match (l := l) (r := r) ⟨hxl, hyl, hm⟩
          have := split (x + 1) (y + 1) (by omega) (by omega)
          exact ih (x + 1) (y + 1) j (by omega) (by omega) (by omega) (by omega) (by omega) hD
        · have hd : lcs (l.drop x) (r.drop y) = max (lcs (l.drop (x + 1)) (r.drop y)) (lcs (l.drop x) (r.drop (y + 1))) := by
            rw [List.drop_eq_getElem_cons hxl, List.drop_eq_getElem_cons hyl]; exact lcs_cons_ne hm _ _
          have m1 : L l r x y ≤ L l r (x + 1) y := L_mono (by omega) (Nat.le_refl _)
          have m2 : L l r x y ≤ L l r x (y + 1) := L_mono (Nat.le_refl _) (by omega)
          have s1 := split (x + 1) y (by omega) hy
          have s2 := split x (y + 1) hx (by omega)
          rcases Nat.le_total (lcs (l.drop (x + 1)) (r.drop y)) (lcs (l.drop x) (r.drop (y + 1))) with hh | hh
          · exact ih x (y + 1) j hx (by omega) (by omega) (by omega) (by omega) hD
          · exact ih (x + 1) y j (by omega) hy (by omega) (by omega) (by omega) hD
      · have hd : lcs (l.drop x) (r.drop y) = 0 := Nat.le_zero.1 (by have := lcs_len_right (l.drop x) (r.drop y); simp at this; omega)
        have m1 : L l r x y ≤ L l r (x + 1) y := L_mono (by omega) (Nat.le_refl _)
        have s1 := split (x + 1) y (by omega) hy
        exact ih (x + 1) y j (by omega) hy (by omega) (by omega) (by omega) hD
    · by_cases hyl : y < r.length
      · have hd : lcs (l.drop x) (r.drop y) = 0 := Nat.le_zero.1 (by have := lcs_len_left (l.drop x) (r.drop y); simp at this; omega)
        have m2 : L l r x y ≤ L l r x (y + 1) := L_mono (Nat.le_refl _) (by omega)
        have s2 := split x (y + 1) hx (by omega)
        exact ih x (y + 1) j hx (by omega) (by omega) (by omega) (by omega) hD
      · have ex : x = l.length := by omega
        have ey : y = r.length := by omega
        subst ex; subst ey
        exfalso
        have := Dist_eq l r
        rw [L_all] at hj hjj
        omega

/-- If d + e edits are enough, two searches of d and of e rounds overlap on some diagonal. -/
theorem overlap {d e : Nat} (hD : Dist l r = d + e) : ∃ (k : Int) (x y : Nat), (x : Int) - y = k ∧ x ≤ l.length ∧ y ≤ r.length ∧ x + y ≤ d + 2 * L l r x y ∧ l.length - x + (r.length - y) ≤ e + 2 * L l.reverse r.reverse (l.length - x) (r.length - y) ∧
    -(d : Int) ≤ k ∧ k ≤ d ∧ (∃ t : Int, k + d = 2 * t) ∧ -(e : Int) ≤ (l.length : Int) - r.length - k ∧ (l.length : Int) - r.length - k ≤ e := by
  have h0 : L l r 0 0 + lcs (l.drop 0) (r.drop 0) = lcs l r := by rw [L_zero_left]; simp
  obtain ⟨x, y, hx, hy, h1, h2⟩ := on_script (l := l) (r := r) (l.length + r.length) 0 0 d (by omega) (by omega) (by omega) h0 (by omega) (by omega)
  have e1 : L l.reverse r.reverse (l.length - x) (r.length - y) = lcs (l.drop x) (r.drop y) := by
    unfold L
    rw [List.take_reverse, List.take_reverse, lcs_rev, show l.length - (l.length - x) = x from by omega, show r.length - (r.length - y) = y from by omega]
  have q1 := L_le_left l r x y
  have q2 := L_le_right l r x y
  have q3 := L_le_left l.reverse r.reverse (l.length - x) (r.length - y)
  have q4 := L_le_right l.reverse r.reverse (l.length - x) (r.length - y)
  have hDD := Dist_eq l r
  refine ⟨(x : Int) - y, x, y, rfl, hx, hy, by omega, by omega, by omega, by omega, ⟨(L l r x y : Int) + d - y, by omega⟩, by omega, by omega⟩

/-- Where both ends differ a script has two edits or more. -/
theorem two_edits (hl : 0 < l.length) (hr : 0 < r.length) (h1 : ¬ Mt l r 0 0) (h2 : ¬ Mt l.reverse r.reverse 0 0) : 2 ≤ Dist l r := by
  have hDD := Dist_eq l r
  have g1 := lcs_len_left l r
  have g2 := lcs_len_right l r
  rcases Nat.lt_or_ge (Dist l r) 2 with hlt | hge
  · exfalso
    obtain ⟨s, s1, s2, s3⟩ := lcs_ex l r
    match l, r, hl, hr with
    | a :: as, b :: bs, _, _ =>
      have hab : a ≠ b := fun e => h1 ⟨by simp, by simp, by simpa using e⟩
      have heads : lcs (a :: as) (b :: bs) = max (lcs as (b :: bs)) (lcs (a :: as) bs) := lcs_cons_ne hab _ _
      simp only [List.length_cons] at hDD g1 g2
      have p1 := lcs_len_left as (b :: bs)
      have p2 := lcs_len_right as (b :: bs)
      have p3 := lcs_len_left (a :: as) bs
      have p4 := lcs_len_right (a :: as) bs
      simp only [List.length_cons] at p1 p2 p3 p4
      rcases Nat.le_total (lcs as (b :: bs)) (lcs (a :: as) bs) with hh | hh
      · -- bs is all of a :: as
        have hlen : lcs (a :: as) bs = bs.length := by omega
        have hlen2 : lcs (a :: as) bs = as.length + 1 := by omega
        obtain ⟨t, t1, t2, t3⟩ := lcs_ex (a :: as) bs
        have et1 := t1.eq_of_length (by simp; omega)
        have et2 := t2.eq_of_length (by omega)
        have e : a :: as = bs := et1.symm.trans et2
        subst e
        apply h2
        refine ⟨by simp, by simp, ?_⟩
        rw [List.getElem_reverse, List.getElem_reverse]
        simp
      · have hlen : lcs as (b :: bs) = as.length := by omega
        have hlen2 : lcs as (b :: bs) = bs.length + 1 := by omega
        obtain ⟨t, t1, t2, t3⟩ := lcs_ex as (b :: bs)
        have et1 := t1.eq_of_length (by omega)
        have et2 := t2.eq_of_length (by simp; omega)
        have e : as = b :: bs := et1.symm.trans et2
        subst e
        apply h2
        refine ⟨by simp, by simp, ?_⟩
        rw [List.getElem_reverse, List.getElem_reverse]
        simp
  · exact hge
end

end Go.Proofs.Qxb6603371a
