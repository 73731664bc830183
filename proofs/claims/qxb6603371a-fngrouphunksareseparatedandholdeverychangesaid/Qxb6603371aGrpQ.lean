import Derived.Test.Qxb6603371aGrpP
namespace Go.Proofs.Qxb6603371a

def hkF (h : Hk) (q : Nat) : Int := if q = 0 then h.fs else if q = 1 then h.ts else if q = 2 then h.first else h.fin

theorem hkAt_lt {ys zs : List Hk} {q i : Nat} (h : i < ys.length) : hkAt (ys ++ zs) q i = hkAt ys q i := by
  simp [hkAt, List.getElem?_append_left h]

theorem hkAt_last (ys : List Hk) (h : Hk) (q : Nat) : hkAt (ys ++ [h]) q ys.length = hkF h q := by
  simp [hkAt, hkF]

/-- Line x is within three lines of a change among the first k lines. -/
def Near (ops : Nat → Int) (k x : Nat) : Prop := ∃ c, c < k ∧ ops c ≠ 32 ∧ c ≤ x + 3 ∧ x ≤ c + 3

theorem near_succ_same {ops : Nat → Int} {k x : Nat} (h : ops k = 32) : Near ops (k + 1) x ↔ Near ops k x := by
  constructor
  · rintro ⟨c, h1, h2, h3⟩
    refine ⟨c, ?_, h2, h3⟩
    rcases Nat.lt_succ_iff_lt_or_eq.1 h1 with h4 | rfl
    · exact h4
    · exact absurd h h2
  · rintro ⟨c, h1, h2⟩
    exact ⟨c, by omega, h2⟩

theorem near_succ {ops : Nat → Int} {k x : Nat} (h : ops k ≠ 32) : Near ops (k + 1) x ↔ Near ops k x ∨ (k ≤ x + 3 ∧ x ≤ k + 3) := by
  constructor
  · rintro ⟨c, h1, h2, h3⟩
    rcases Nat.lt_succ_iff_lt_or_eq.1 h1 with h4 | rfl
    · exact .inl ⟨c, h4, h2, h3⟩
    · exact .inr h3
  · rintro (⟨c, h1, h2⟩ | h2)
    · exact ⟨c, by omega, h2⟩
    · exact ⟨k, by omega, h, h2⟩

/-- The hunks that stand apart, in order. -/
structure Apart (n : Nat) (hs : List Hk) : Prop where
  sep : ∀ i j, i < j → j < hs.length → hkAt hs 3 i < hkAt hs 2 j
  nonneg : ∀ i, i < hs.length → 0 ≤ hkAt hs 2 i
  lt : ∀ i, i < hs.length → hkAt hs 2 i < hkAt hs 3 i
  le : ∀ i, i < hs.length → hkAt hs 3 i ≤ n

structure Good (ops : Nat → Int) (n k : Nat) (hs : List Hk) : Prop where
  apart : Apart n hs
  cov : ∀ x, x < n → (Near ops k x ↔ ∃ i, i < hs.length ∧ hkAt hs 2 i ≤ x ∧ (x : Int) < hkAt hs 3 i)
  fs : ∀ i, i < hs.length → hkAt hs 0 i = others ops 43 (hkAt hs 2 i).toNat
  ts : ∀ i, i < hs.length → hkAt hs 1 i = others ops 45 (hkAt hs 2 i).toNat

/-- The last hunk: it ends behind the last change so far. -/
def Last (ops : Nat → Int) (n k : Nat) (hs : List Hk) : Prop :=
  (hs = [] ∧ ∀ c, c < k → ops c = 32) ∨
  ∃ (ys : List Hk) (h : Hk) (c : Nat), hs = ys ++ [h] ∧ c < k ∧ ops c ≠ 32 ∧ h.fin = min ((c : Int) + 4) n ∧ (h.first = 0 ∨ h.first + 3 ≤ (c : Int)) ∧ ∀ c', c < c' → c' < k → ops c' = 32

theorem others_run {ops : Nat → Int} {c : Int} {a : Nat} (d : Nat) (hc : c ≠ 32) (h : ∀ i, a ≤ i → i < a + d → ops i = 32) : others ops c (a + d) = others ops c a + d := by
  induction d with
  | zero => rfl
  | succ d ih =>
    have e := h (a + d) (by omega) (by omega)
    rw [show a + (d + 1) = (a + d) + 1 from rfl, others, if_neg (by rw [e]; exact fun h => hc h.symm), ih (fun i h1 h2 => h i h1 (by omega))]
    omega

theorem good_same {ops : Nat → Int} {n k : Nat} {hs : List Hk} (h : ops k = 32) (g : Good ops n k hs) (l : Last ops n k hs) : Good ops n (k + 1) hs ∧ Last ops n (k + 1) hs := by
  refine ⟨⟨g.apart, fun x hx => (near_succ_same h).trans (g.cov x hx), g.fs, g.ts⟩, ?_⟩
  have stay : ∀ c, (∀ c', c < c' → c' < k → ops c' = 32) → ∀ c', c < c' → c' < k + 1 → ops c' = 32 := by
    intro c hc c' h1 h2
    rcases Nat.lt_succ_iff_lt_or_eq.1 h2 with h3 | rfl
    · exact hc c' h1 h3
    · exact h
  rcases l with ⟨rfl, hc⟩ | ⟨ys, h', c, rfl, h1, h2, h3, h4, h5⟩
  · refine .inl ⟨rfl, fun c h1 => ?_⟩
    rcases Nat.lt_succ_iff_lt_or_eq.1 h1 with h3 | rfl
    · exact hc c h3
    · exact h
  · exact .inr ⟨ys, h', c, rfl, by omega, h2, h3, h4, stay c h5⟩

theorem good_merge {ops : Nat → Int} {n k : Nat} {ys : List Hk} {h : Hk} (hk : k < n) (hne : ops k ≠ 32) (g : Good ops n k (ys ++ [h])) (l : Last ops n k (ys ++ [h])) (hm : (k : Int) - 3 ≤ h.fin) :
    Good ops n (k + 1) (ys ++ [{ h with fin := min ((k : Int) + 1 + 3) n }]) ∧ Last ops n (k + 1) (ys ++ [{ h with fin := min ((k : Int) + 1 + 3) n }]) := by
  rcases l with ⟨e, _⟩ | ⟨ys', h', c, e, h1, h2, h3, h4, h5⟩
  · simp at e
  obtain ⟨rfl, e2⟩ := List.append_inj' e rfl
  obtain rfl : h = h' := by simpa using e2
  have hlen : ∀ x : Hk, (ys ++ [x]).length = ys.length + 1 := fun x => by simp
  have at_lt : ∀ q i, i < ys.length → ∀ x : Hk, hkAt (ys ++ [x]) q i = hkAt ys q i := fun q i hi x => hkAt_lt hi
  have at_eq : ∀ q, ∀ x : Hk, hkAt (ys ++ [x]) q ys.length = hkF x q := fun q x => hkAt_last ys x q
  obtain ⟨⟨sep, nonneg, lt, le⟩, cov, fs, ts⟩ := g
  have l1 := nonneg ys.length (by simp)
  have l2 := lt ys.length (by simp)
  have l3 := le ys.length (by simp)
  rw [at_eq] at l1 l2 l3
  rw [at_eq] at l2
  simp [hkF] at l1 l2 l3
  refine ⟨⟨⟨?_, ?_, ?_, ?_⟩, ?_, ?_, ?_⟩, ?_⟩
  · intro i j hij hj
    rw [hlen] at hj
    have hi : i < ys.length := by omega
    rw [at_lt 3 i hi]
    have s := sep i j hij (by rw [hlen]; exact hj)
    rw [at_lt 3 i hi] at s
    by_cases e : j = ys.length
    · subst e
      rw [at_eq] at s ⊢
      simpa [hkF] using s
    · rw [at_lt 2 j (by omega)] at s ⊢
      exact s
  · intro i hi
    rw [hlen] at hi
    by_cases e : i = ys.length
    · subst e
      rw [at_eq]
      simpa [hkF] using l1
    · have s := nonneg i (by rw [hlen]; exact hi)
      rw [at_lt 2 i (by omega)] at s ⊢
      exact s
  · intro i hi
    rw [hlen] at hi
    by_cases e : i = ys.length
    · subst e
      rw [at_eq, at_eq]
      simp [hkF]
      omega
    · have s := lt i (by rw [hlen]; exact hi)
      rw [at_lt 2 i (by omega), at_lt 3 i (by omega)] at s ⊢
      exact s
  · intro i hi
    rw [hlen] at hi
    by_cases e : i = ys.length
    · subst e
      rw [at_eq]
      simp [hkF]
      omega
    · have s := le i (by rw [hlen]; exact hi)
      rw [at_lt 3 i (by omega)] at s ⊢
      exact s
  · intro x hx
    rw [near_succ hne, cov x hx]
    constructor
    · rintro (⟨i, hi, a1, a2⟩ | ⟨a1, a2⟩)
      · rw [hlen] at hi
        by_cases e : i = ys.length
        · subst e
          rw [at_eq] at a1 a2
          simp [hkF] at a1 a2
          refine ⟨ys.length, by simp, ?_, ?_⟩
          · rw [at_eq]; simpa [hkF] using a1
          · rw [at_eq]; simp [hkF]; omega
        · rw [at_lt 2 i (by omega)] at a1
          rw [at_lt 3 i (by omega)] at a2
          exact ⟨i, by rw [hlen]; exact hi, by rw [at_lt 2 i (by omega)]; exact a1, by rw [at_lt 3 i (by omega)]; exact a2⟩
      · refine ⟨ys.length, by simp, ?_, ?_⟩
        · rw [at_eq]; simp [hkF]; omega
        · rw [at_eq]; simp [hkF]; omega
    · rintro ⟨i, hi, a1, a2⟩
      rw [hlen] at hi
      by_cases e : i = ys.length
      · subst e
        rw [at_eq] at a1 a2
        simp [hkF] at a1 a2
        by_cases hx2 : (x : Int) < h.fin
        · refine .inl ⟨ys.length, by simp, ?_, ?_⟩
          · rw [at_eq]; simpa [hkF] using a1
          · rw [at_eq]; simpa [hkF] using hx2
        · exact .inr (by omega)
      · rw [at_lt 2 i (by omega)] at a1
        rw [at_lt 3 i (by omega)] at a2
        exact .inl ⟨i, by rw [hlen]; exact hi, by rw [at_lt 2 i (by omega)]; exact a1, by rw [at_lt 3 i (by omega)]; exact a2⟩
  · intro i hi
    rw [hlen] at hi
    have s := fs i (by rw [hlen]; exact hi)
    by_cases e : i = ys.length
    · subst e
      rw [at_eq, at_eq] at s ⊢
      simpa [hkF] using s
    · rw [at_lt 0 i (by omega), at_lt 2 i (by omega)] at s ⊢
      exact s
  · intro i hi
    rw [hlen] at hi
    have s := ts i (by rw [hlen]; exact hi)
    by_cases e : i = ys.length
    · subst e
      rw [at_eq, at_eq] at s ⊢
      simpa [hkF] using s
    · rw [at_lt 1 i (by omega), at_lt 2 i (by omega)] at s ⊢
      exact s
  · refine .inr ⟨ys, _, k, rfl, by omega, hne, by simp; omega, ?_, fun c' a1 a2 => absurd a2 (by omega)⟩
    show h.first = 0 ∨ h.first + 3 ≤ (k : Int)
    omega

theorem good_new {ops : Nat → Int} {n k : Nat} {hs : List Hk} (hk : k < n) (hne : ops k ≠ 32) (g : Good ops n k hs) (l : Last ops n k hs) (hm : ∀ h, hs.getLast? = some h → ¬ (k : Int) - 3 ≤ h.fin) :
    Good ops n (k + 1) (hs ++ [newHk ops n k]) ∧ Last ops n (k + 1) (hs ++ [newHk ops n k]) := by
  have hlen : (hs ++ [newHk ops n k]).length = hs.length + 1 := by simp
  have at_lt : ∀ q i, i < hs.length → hkAt (hs ++ [newHk ops n k]) q i = hkAt hs q i := fun q i hi => hkAt_lt hi
  have at_eq : ∀ q, hkAt (hs ++ [newHk ops n k]) q hs.length = hkF (newHk ops n k) q := fun q => hkAt_last hs _ q
  -- what lies between the last hunk and the new one
  have quiet : ∀ i, (max ((k : Int) - 3) 0).toNat ≤ i → i < k → ops i = 32 := by
    intro i h1 h2
    rcases l with ⟨_, hc⟩ | ⟨ys, h, c, rfl, c1, c2, c3, c4, c5⟩
    · exact hc i h2
    · have := hm h (by simp)
      exact c5 i (by omega) h2
  have fins : ∀ i, i < hs.length → hkAt hs 3 i < (k : Int) - 3 := by
    intro i hi
    rcases l with ⟨rfl, hc⟩ | ⟨ys, h, c, rfl, c1, c2, c3, c4, c5⟩
    · simp at hi
    · have hh := hm h (by simp)
      simp at hi
      by_cases e : i = ys.length
      · subst e
        rw [hkAt_last]
        simp [hkF]
        omega
      · have s := g.apart.sep i ys.length (by omega) (by simp)
        have t := g.apart.lt ys.length (by simp)
        rw [hkAt_last] at s
        rw [hkAt_last, hkAt_last] at t
        simp [hkF] at s t
        omega
  have hfirst : hkF (newHk ops n k) 2 = max ((k : Int) - 3) 0 := by simp [hkF, newHk]
  have hfin : hkF (newHk ops n k) 3 = min ((k : Int) + 1 + 3) n := by simp [hkF, newHk]
  have run : ∀ c : Int, c ≠ 32 → (others ops c k : Int) - ((k : Int) - max ((k : Int) - 3) 0) = others ops c (max ((k : Int) - 3) 0).toNat := by
    intro c hc
    have r := others_run (ops := ops) (c := c) (a := (max ((k : Int) - 3) 0).toNat) (k - (max ((k : Int) - 3) 0).toNat) hc (fun i h1 h2 => quiet i h1 (by omega))
    rw [show (max ((k : Int) - 3) 0).toNat + (k - (max ((k : Int) - 3) 0).toNat) = k from by omega] at r
    omega
  obtain ⟨⟨sep, nonneg, lt, le⟩, cov, fs, ts⟩ := g
  refine ⟨⟨⟨?_, ?_, ?_, ?_⟩, ?_, ?_, ?_⟩, ?_⟩
  · intro i j hij hj
    rw [hlen] at hj
    rw [at_lt 3 i (by omega)]
    by_cases e : j = hs.length
    · subst e
      rw [at_eq, hfirst]
      have := fins i (by omega)
      omega
    · rw [at_lt 2 j (by omega)]
      exact sep i j hij (by omega)
  · intro i hi
    rw [hlen] at hi
    by_cases e : i = hs.length
    · subst e; rw [at_eq, hfirst]; omega
    · rw [at_lt 2 i (by omega)]; exact nonneg i (by omega)
  · intro i hi
    rw [hlen] at hi
    by_cases e : i = hs.length
    · subst e; rw [at_eq, at_eq, hfirst, hfin]; omega
    · rw [at_lt 2 i (by omega), at_lt 3 i (by omega)]; exact lt i (by omega)
  · intro i hi
    rw [hlen] at hi
    by_cases e : i = hs.length
    · subst e; rw [at_eq, hfin]; omega
    · rw [at_lt 3 i (by omega)]; exact le i (by omega)
  · intro x hx
    rw [near_succ hne, cov x hx]
    constructor
    · rintro (⟨i, hi, a1, a2⟩ | ⟨a1, a2⟩)
      · exact ⟨i, by rw [hlen]; omega, by rw [at_lt 2 i hi]; exact a1, by rw [at_lt 3 i hi]; exact a2⟩
      · exact ⟨hs.length, by rw [hlen]; omega, by rw [at_eq, hfirst]; omega, by rw [at_eq, hfin]; omega⟩
    · rintro ⟨i, hi, a1, a2⟩
      rw [hlen] at hi
      by_cases e : i = hs.length
      · subst e
        rw [at_eq, hfirst] at a1
        rw [at_eq, hfin] at a2
        exact .inr (by omega)
      · rw [at_lt 2 i (by omega)] at a1
        rw [at_lt 3 i (by omega)] at a2
        exact .inl ⟨i, by omega, a1, a2⟩
  · intro i hi
    rw [hlen] at hi
    by_cases e : i = hs.length
    · subst e
      rw [at_eq, at_eq, hfirst, ← run 43 (by decide)]
      simp [hkF, newHk]
    · rw [at_lt 0 i (by omega), at_lt 2 i (by omega)]; exact fs i (by omega)
  · intro i hi
    rw [hlen] at hi
    by_cases e : i = hs.length
    · subst e
      rw [at_eq, at_eq, hfirst, ← run 45 (by decide)]
      simp [hkF, newHk]
    · rw [at_lt 1 i (by omega), at_lt 2 i (by omega)]; exact ts i (by omega)
  · refine .inr ⟨hs, _, k, rfl, by omega, hne, by simp [newHk]; omega, ?_, fun c' a1 a2 => absurd a2 (by omega)⟩
    simp [newHk]
    omega

theorem grp_good (ops : Nat → Int) (n k : Nat) (hk : k ≤ n) : Good ops n k (grp ops n k) ∧ Last ops n k (grp ops n k) := by
  induction k with
  | zero =>
    refine ⟨⟨⟨?_, ?_, ?_, ?_⟩, ?_, ?_, ?_⟩, .inl ⟨rfl, fun c h => absurd h (by omega)⟩⟩
    · intro i j _ h; simp [grp] at h
    · intro i h; simp [grp] at h
    · intro i h; simp [grp] at h
    · intro i h; simp [grp] at h
    · intro x _
      constructor
      · rintro ⟨c, h, _⟩; omega
      · rintro ⟨i, h, _⟩; simp [grp] at h
    · intro i h; simp [grp] at h
    · intro i h; simp [grp] at h
  | succ k ih =>
    obtain ⟨g, l⟩ := ih (by omega)
    by_cases h1 : ops k = 32
    · rw [grp_same h1]; exact good_same h1 g l
    · cases h2 : (grp ops n k).getLast? with
      | none =>
        rw [grp_new h1 (by simp [h2])]
        exact good_new (by omega) h1 g l (by simp [h2])
      | some h =>
        by_cases h3 : (k : Int) - 3 ≤ h.fin
        · rw [grp_merge h1 h2 h3]
          obtain ⟨ys, e⟩ := List.getLast?_eq_some_iff.1 h2
          rw [e] at g l ⊢
          simpa using good_merge (by omega) h1 g l h3
        · have h4 : ∀ h', (grp ops n k).getLast? = some h' → ¬ (k : Int) - 3 ≤ h'.fin := by
            intro h' e; rw [h2] at e; cases e; exact h3
          rw [grp_new h1 h4]
          exact good_new (by omega) h1 g l h4

end Go.Proofs.Qxb6603371a
