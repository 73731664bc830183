import Derived.Test.Qxb6603371aGrpQ
namespace Go.Proofs.Qxb6603371a

/-- 'Near', reckoned. -/
def covB (ops : Nat → Int) (k x : Nat) : Bool := (List.range k).any fun c => ops c != 32 && decide (c ≤ x + 3) && decide (x ≤ c + 3)

theorem covB_iff (ops : Nat → Int) (k x : Nat) : covB ops k x = true ↔ Near ops k x := by
  simp [covB, Near]
  constructor
  · rintro ⟨c, h1, ⟨h2, h3⟩, h4⟩; exact ⟨c, h1, h2, h3, h4⟩
  · rintro ⟨c, h1, h2, h3, h4⟩; exact ⟨c, h1, ⟨h2, h3⟩, h4⟩

theorem covB_same {ops : Nat → Int} {k : Nat} (h : ops k = 32) (x : Nat) : covB ops (k + 1) x = covB ops k x := by
  rw [Bool.eq_iff_iff, covB_iff, covB_iff]; exact near_succ_same h

theorem covB_succ {ops : Nat → Int} {k : Nat} (h : ops k ≠ 32) (x : Nat) : covB ops (k + 1) x = (covB ops k x || decide ((k : Int) - 3 ≤ x ∧ (x : Int) < (k : Int) + 4)) := by
  rw [Bool.eq_iff_iff, covB_iff, near_succ h, Bool.or_eq_true, covB_iff, decide_eq_true_eq]
  constructor
  · rintro (h1 | h1)
    · exact .inl h1
    · exact .inr (by omega)
  · rintro (h1 | h1)
    · exact .inl h1
    · exact .inr (by omega)

/-- h hunks end at or before line j, the others behind it. -/
structure Passed (hs : List Hk) (j h : Nat) : Prop where
  le : h ≤ hs.length
  before : ∀ i, i < h → hkAt hs 3 i ≤ j
  behind : ∀ i, h ≤ i → i < hs.length → (j : Int) < hkAt hs 3 i

section
variable {ops : Nat → Int} {n : Nat} {hs : List Hk} {j h : Nat}

theorem passed_start (g : Good ops n n hs) : Passed hs 0 0 :=
  ⟨Nat.zero_le _, fun i hi => absurd hi (by omega), fun i _ hi => by have := g.apart.nonneg i hi; have := g.apart.lt i hi; omega⟩

theorem cov_at (g : Good ops n n hs) (p : Passed hs j h) (hj : j < n) (hc : covB ops n j = true) : h < hs.length ∧ hkAt hs 2 h ≤ j ∧ (j : Int) < hkAt hs 3 h := by
  obtain ⟨i, hi, h1, h2⟩ := (g.cov j hj).1 ((covB_iff _ _ _).1 hc)
  have hle : h ≤ i := by
    rcases Nat.lt_or_ge i h with hlt | hge
    · have := p.before i hlt; omega
    · exact hge
  rcases Nat.lt_or_ge h i with hlt | hge
  · have := g.apart.sep h i hlt hi
    have := p.behind h (Nat.le_refl _) (by omega)
    omega
  · obtain rfl : i = h := by omega
    exact ⟨hi, h1, h2⟩

theorem cov_of (g : Good ops n n hs) (i x : Nat) (hi : i < hs.length) (h1 : hkAt hs 2 i ≤ x) (h2 : (x : Int) < hkAt hs 3 i) : covB ops n x = true := by
  have hle := g.apart.le i hi
  exact (covB_iff _ _ _).2 ((g.cov x (by omega)).2 ⟨i, hi, h1, h2⟩)

theorem run_start (g : Good ops n n hs) (p : Passed hs j h) (hj : j < n) (hc : covB ops n j = true) (hp : j = 0 ∨ covB ops n (j - 1) = false) :
    hkAt hs 2 h = j ∧ hkAt hs 0 h = others ops 43 j ∧ hkAt hs 1 h = others ops 45 j := by
  obtain ⟨h1, h2, h3⟩ := cov_at g p hj hc
  have e : hkAt hs 2 h = j := by
    have hnn := g.apart.nonneg h h1
    rcases hp with rfl | hp
    · omega
    · rcases (show hkAt hs 2 h < j ∨ (j : Int) ≤ hkAt hs 2 h from by omega) with hlt | hge
      · have := cov_of g h (j - 1) h1 (by omega) (by omega)
        rw [hp] at this
        cases this
      · omega
  have e0 := g.fs h h1
  have e1 := g.ts h h1
  rw [e] at e0 e1
  exact ⟨e, by simpa using e0, by simpa using e1⟩

theorem run_end (g : Good ops n n hs) (p : Passed hs j h) (hj : j < n) (hc : covB ops n j = true) (hp : j + 1 = n ∨ covB ops n (j + 1) = false) :
    hkAt hs 3 h = (j : Int) + 1 ∧ Passed hs (j + 1) (h + 1) := by
  obtain ⟨h1, h2, h3⟩ := cov_at g p hj hc
  have hle := g.apart.le h h1
  have e : hkAt hs 3 h = (j : Int) + 1 := by
    rcases hp with hp | hp
    · omega
    · rcases (show (j : Int) + 1 < hkAt hs 3 h ∨ hkAt hs 3 h ≤ (j : Int) + 1 from by omega) with hlt | hge
      · have := cov_of g h (j + 1) h1 (by omega) (by omega)
        rw [hp] at this
        cases this
      · omega
  refine ⟨e, by omega, fun i hi => ?_, fun i h4 h5 => ?_⟩
  · rcases Nat.lt_succ_iff_lt_or_eq.1 hi with h6 | rfl
    · have := p.before i h6; omega
    · omega
  · have := g.apart.sep h i (by omega) h5
    have := g.apart.lt i h5
    omega

theorem run_on (g : Good ops n n hs) (p : Passed hs j h) (hj : j + 1 < n) (hc : covB ops n j = true) (hc2 : covB ops n (j + 1) = true) : Passed hs (j + 1) h := by
  obtain ⟨h1, h2, h3⟩ := cov_at g p (by omega) hc
  refine ⟨p.le, fun i hi => ?_, fun i h4 h5 => ?_⟩
  · have := p.before i hi; omega
  · have hb := p.behind i h4 h5
    obtain ⟨i2, a1, a2, a3⟩ := (g.cov (j + 1) hj).1 ((covB_iff _ _ _).1 hc2)
    rcases Nat.lt_or_ge i i2 with hlt | hge
    · have := g.apart.sep i i2 hlt a1
      have := p.behind i h4 h5
      omega
    · rcases Nat.lt_or_ge i2 i with hlt | hge2
      · have := g.apart.sep i2 i hlt h5
        have := g.apart.lt i h5
        omega
      · obtain rfl : i = i2 := by omega
        omega

theorem run_off (g : Good ops n n hs) (p : Passed hs j h) (hc : covB ops n j = false) : Passed hs (j + 1) h := by
  refine ⟨p.le, fun i hi => ?_, fun i h4 h5 => ?_⟩
  · have := p.before i hi; omega
  · have hb := p.behind i h4 h5
    rcases (show (j : Int) + 1 < hkAt hs 3 i ∨ hkAt hs 3 i ≤ (j : Int) + 1 from by omega) with hlt | hge
    · omega
    · have hl := g.apart.lt i h5
      have := cov_of g i j h5 (by omega) (by omega)
      rw [hc] at this
      cases this

theorem passed_end (g : Good ops n n hs) (p : Passed hs n h) : h = hs.length := by
  rcases Nat.lt_or_ge h hs.length with hlt | hge
  · have := p.behind h (Nat.le_refl _) hlt
    have := g.apart.le h hlt
    omega
  · have := p.le; omega
end

end Go.Proofs.Qxb6603371a
