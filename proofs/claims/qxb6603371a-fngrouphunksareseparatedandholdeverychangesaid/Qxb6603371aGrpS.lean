import Derived.Test.Qxb6603371aGrpR
namespace Go.Proofs.Qxb6603371a

section
variable {ops : Nat → Int} {n : Nat} {hs : List Hk}

/-- Which hunk holds a covered line: no other than Q if the line lies at Q's edge or inside. -/
theorem only_hunk (g : Good ops n n hs) {Q F E x : Nat} (hQ : Q < hs.length) (e2 : hkAt hs 2 Q = (F : Int)) (e3 : hkAt hs 3 Q = (E : Int)) (hx : x < n) (hn : Near ops n x) (h1 : F ≤ x + 1) (h2 : x ≤ E) : F ≤ x ∧ x < E := by
  obtain ⟨i, hi, a1, a2⟩ := (g.cov x hx).1 hn
  have hlt := g.apart.lt Q hQ
  rcases Nat.lt_or_ge i Q with h3 | h3
  · have := g.apart.sep i Q h3 hQ; omega
  · rcases Nat.lt_or_ge Q i with h4 | h4
    · have := g.apart.sep Q i h4 hi; omega
    · obtain rfl : i = Q := by omega
      omega

/-- Every line of a hunk is within three lines of a change in the same hunk. -/
theorem near_inside (g : Good ops n n hs) {Q F E : Nat} (hQ : Q < hs.length) (e2 : hkAt hs 2 Q = (F : Int)) (e3 : hkAt hs 3 Q = (E : Int)) (x : Nat) (h1 : F ≤ x) (h2 : x < E) :
    ∃ c, ops c ≠ 32 ∧ c ≤ x + 3 ∧ x ≤ c + 3 ∧ F ≤ c ∧ c < E := by
  have hle := g.apart.le Q hQ
  have hcov := (g.cov x (by omega)).2 ⟨Q, hQ, by omega, by omega⟩
  obtain ⟨c, c1, c2, c3, c4⟩ := hcov
  refine ⟨c, c2, c3, c4, ?_, ?_⟩
  · rcases Nat.lt_or_ge c F with h3 | h3
    · have := only_hunk g hQ e2 e3 (x := F - 1) (by omega) ⟨c, c1, c2, by omega, by omega⟩ (by omega) (by omega)
      omega
    · exact h3
  · rcases Nat.lt_or_ge c E with h3 | h3
    · exact h3
    · have := only_hunk g hQ e2 e3 (x := E) (by omega) ⟨c, c1, c2, by omega, by omega⟩ (by omega) (by omega)
      omega

/-- What the scan of lines F .. I has met: its first change and its last. -/
def Scan (ops : Nat → Int) (F I : Nat) (fc lc : Int) : Prop :=
  (fc = -1 ∧ lc = -1 ∧ ∀ x, F ≤ x → x < I → ops x = 32) ∨
  ∃ C L : Nat, fc = (C : Int) ∧ lc = (L : Int) ∧ F ≤ C ∧ C ≤ L ∧ L < I ∧ ops C ≠ 32 ∧ ops L ≠ 32 ∧ (∀ x, F ≤ x → x < C → ops x = 32) ∧ (∀ x, L < x → x < I → ops x = 32)

theorem scan_start (ops : Nat → Int) (F : Nat) : Scan ops F F (-1) (-1) := .inl ⟨rfl, rfl, fun x h1 h2 => absurd h2 (by omega)⟩

theorem scan_same {F I : Nat} {fc lc : Int} (h : Scan ops F I fc lc) (e : ops I = 32) : Scan ops F (I + 1) fc lc := by
  rcases h with ⟨h1, h2, h3⟩ | ⟨C, L, h1, h2, h3, h4, h5, h6, h7, h8, h9⟩
  · refine .inl ⟨h1, h2, fun x a b => ?_⟩
    rcases Nat.lt_succ_iff_lt_or_eq.1 b with c | rfl
    · exact h3 x a c
    · exact e
  · refine .inr ⟨C, L, h1, h2, h3, h4, by omega, h6, h7, h8, fun x a b => ?_⟩
    rcases Nat.lt_succ_iff_lt_or_eq.1 b with c | rfl
    · exact h9 x a c
    · exact e

theorem scan_bounds {F I : Nat} {fc lc : Int} (h : Scan ops F I fc lc) : -1 ≤ fc ∧ fc ≤ lc ∧ lc < I ∧ (fc < 0 → fc = -1 ∧ lc = -1) := by
  rcases h with ⟨h1, h2, h3⟩ | ⟨C, L, h1, h2, h3, h4, h5, h6, h7, h8, h9⟩ <;> omega

theorem scan_first {F I : Nat} {fc lc : Int} (h : Scan ops F I fc lc) (hf : fc < 0) (hF : F ≤ I) (e : ops I ≠ 32) : Scan ops F (I + 1) I I := by
  rcases h with ⟨h1, h2, h3⟩ | ⟨C, L, h1, h2, h3, h4, h5, h6, h7, h8, h9⟩
  · exact .inr ⟨I, I, rfl, rfl, hF, Nat.le_refl _, by omega, e, e, h3, fun x a b => absurd b (by omega)⟩
  · omega

theorem scan_next {F I : Nat} {fc lc : Int} (h : Scan ops F I fc lc) (hf : 0 ≤ fc) (e : ops I ≠ 32) : Scan ops F (I + 1) fc I := by
  rcases h with ⟨h1, h2, h3⟩ | ⟨C, L, h1, h2, h3, h4, h5, h6, h7, h8, h9⟩
  · omega
  · exact .inr ⟨C, I, h1, rfl, h3, by omega, by omega, h6, e, h8, fun x a b => absurd b (by omega)⟩

theorem scan_gap (g : Good ops n n hs) {Q F E I : Nat} {fc lc : Int} (hQ : Q < hs.length) (e2 : hkAt hs 2 Q = (F : Int)) (e3 : hkAt hs 3 Q = (E : Int)) (h : Scan ops F I fc lc) (hf : 0 ≤ fc) (hI : I < E) : (I : Int) - lc - 1 ≤ 6 := by
  rcases h with ⟨h1, h2, h3⟩ | ⟨C, L, h1, h2, h3, h4, h5, h6, h7, h8, h9⟩
  · omega
  · subst h2
    rcases Nat.lt_or_ge (L + 7) I with h10 | h10
    · obtain ⟨c, c1, c2, c3, c4, c5⟩ := near_inside g hQ e2 e3 (L + 4) (by omega) (by omega)
      exact absurd (h9 c (by omega) (by omega)) c1
    · omega

theorem scan_end (g : Good ops n n hs) {Q F E : Nat} {fc lc : Int} (hQ : Q < hs.length) (e2 : hkAt hs 2 Q = (F : Int)) (e3 : hkAt hs 3 Q = (E : Int)) (hFE : F < E) (h : Scan ops F E fc lc) :
    0 ≤ fc ∧ fc - F ≤ 3 ∧ (E : Int) - 1 - lc ≤ 3 ∧ 0 ≤ fc - F ∧ lc < E := by
  obtain ⟨c, c1, c2, c3, c4, c5⟩ := near_inside g hQ e2 e3 F (by omega) (by omega)
  obtain ⟨d, d1, d2, d3, d4, d5⟩ := near_inside g hQ e2 e3 (E - 1) (by omega) (by omega)
  rcases h with ⟨h1, h2, h3⟩ | ⟨C, L, h1, h2, h3, h4, h5, h6, h7, h8, h9⟩
  · exact absurd (h3 c c4 c5) c1
  · subst h1
    subst h2
    have hc : C ≤ c := by
      rcases Nat.lt_or_ge c C with h10 | h10
      · exact absurd (h8 c c4 h10) c1
      · exact h10
    have hd : d ≤ L := by
      rcases Nat.lt_or_ge L d with h10 | h10
      · exact absurd (h9 d h10 d5) d1
      · exact h10
    omega

theorem others_sum (ops : Nat → Int) (k : Nat) : k ≤ others ops 43 k + others ops 45 k := by
  induction k with
  | zero => simp
  | succ k ih =>
    simp only [others]
    by_cases h : ops k = 43
    · rw [if_pos h, if_neg (by rw [h]; decide)]; omega
    · rw [if_neg h]; split <;> omega

theorem hunk_starts (g : Good ops n n hs) {Q F : Nat} (hQ : Q < hs.length) (e2 : hkAt hs 2 Q = (F : Int)) : hkAt hs 0 Q = (others ops 43 F : Int) ∧ hkAt hs 1 Q = (others ops 45 F : Int) := by
  have h0 := g.fs Q hQ
  have h1 := g.ts Q hQ
  rw [e2] at h0 h1
  exact ⟨by simpa using h0, by simpa using h1⟩

theorem change_in (g : Good ops n n hs) {Q I : Nat} (hI : I < n) (hc : ops I ≠ 32) (hQ : Q ≤ hs.length) (hb : ∀ i, i < Q → hkAt hs 3 i ≤ I) (he : Q < hs.length → (I : Int) < hkAt hs 3 Q) : Q < hs.length ∧ hkAt hs 2 Q ≤ I := by
  obtain ⟨i, hi, a1, a2⟩ := (g.cov I hI).1 ⟨I, hI, hc, by omega, by omega⟩
  rcases Nat.lt_or_ge i Q with h1 | h1
  · have := hb i h1; omega
  · rcases Nat.lt_or_ge Q i with h2 | h2
    · have := g.apart.sep Q i h2 hi
      have := he (by omega)
      omega
    · obtain rfl : i = Q := by omega
      exact ⟨hi, a1⟩

/-- The end of the hunk before Q lies ahead of Q's first line. -/
def Prev (hs : List Hk) (Q : Nat) (pe : Int) : Prop := (Q = 0 ∧ pe = -1) ∨ (0 < Q ∧ pe = hkAt hs 3 (Q - 1))

theorem prev_lt (g : Good ops n n hs) {Q : Nat} {pe : Int} (h : Prev hs Q pe) (hQ : Q < hs.length) : pe < hkAt hs 2 Q := by
  rcases h with ⟨h1, h2⟩ | ⟨h1, h2⟩
  · have := g.apart.nonneg Q hQ; omega
  · have := g.apart.sep (Q - 1) Q (by omega) hQ; omega
end

end Go.Proofs.Qxb6603371a
