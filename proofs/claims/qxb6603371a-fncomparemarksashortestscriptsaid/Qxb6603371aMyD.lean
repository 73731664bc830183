import Derived.Test.Qxb6603371aMyB
namespace Go.Proofs.Qxb6603371a

/-! What the search's arrays hold, and what its rounds do to them: plain. -/

/-- The window of n elements from lo on. -/
def win (z : Nat → Int) (lo n : Nat) : List Int := (List.range n).map fun i => z (lo + i)

theorem win_length (z : Nat → Int) (lo n : Nat) : (win z lo n).length = n := by simp [win]

theorem mt_win {za zb : Nat → Int} {aLo bLo n m x y : Nat} : Mt (win za aLo n) (win zb bLo m) x y ↔ x < n ∧ y < m ∧ za (aLo + x) = zb (bLo + y) := by
  constructor
  · rintro ⟨hx, hy, e⟩
    rw [win_length] at hx hy
    refine ⟨hx, hy, ?_⟩
    simpa [win] using e
  · rintro ⟨hx, hy, e⟩
    exact ⟨by rw [win_length]; exact hx, by rw [win_length]; exact hy, by simpa [win] using e⟩

theorem mt_win_rev {za zb : Nat → Int} {aLo bLo n m u v : Nat} : Mt (win za aLo n).reverse (win zb bLo m).reverse u v ↔ u < n ∧ v < m ∧ za (aLo + (n - 1 - u)) = zb (bLo + (m - 1 - v)) := by
  constructor
  · rintro ⟨hx, hy, e⟩
    have hx' : u < n := by simpa [win_length] using hx
    have hy' : v < m := by simpa [win_length] using hy
    refine ⟨hx', hy', ?_⟩
    rw [List.getElem_reverse, List.getElem_reverse] at e
    simpa [win] using e
  · rintro ⟨hx, hy, e⟩
    refine ⟨by simpa [win_length] using hx, by simpa [win_length] using hy, ?_⟩
    rw [List.getElem_reverse, List.getElem_reverse]
    simpa [win] using e

/-- The same parity. -/
def Par (k : Int) (d : Nat) : Prop := ∃ t : Int, k + d = 2 * t

def RowD (l r : List Int) (f : Nat → Int) (off d : Nat) : Prop := ∀ k : Int, -(d : Int) ≤ k → k ≤ d → Par k d → FR l r d k (f ((off : Int) + k).toNat)
def RowPart (l r : List Int) (f : Nat → Int) (off d : Nat) (k : Int) : Prop := ∀ k' : Int, -(d : Int) ≤ k' → k' ≤ d → k' < k → Par k' d → FR l r d k' (f ((off : Int) + k').toNat)
def RowPrev (l r : List Int) (f : Nat → Int) (off d : Nat) : Prop := 1 ≤ d → RowD l r f off (d - 1)

def upd (f : Nat → Int) (J : Nat) (x : Int) : Nat → Int := fun j => if j = J then x else f j

/-- Where the search starts on diagonal k: one edit from diagonal k + 1 (index P) or from k - 1 (index Q), whichever lies further. -/
def Start (f : Nat → Int) (P Q : Nat) (k : Int) (d : Nat) (s : Int) : Prop :=
  (k ≠ d → f P ≤ s) ∧ (k ≠ -(d : Int) → f Q + 1 ≤ s) ∧ ((s = f P ∧ (k = -(d : Int) ∨ k ≠ d)) ∨ (s = f Q + 1 ∧ k ≠ -(d : Int)))

/-- What a slide holds on to. -/
structure Slide (l r : List Int) (d : Nat) (k : Int) (x y : Nat) : Prop where
  diag : (x : Int) - y = k
  cost : x + y ≤ d + 2 * L l r x y
  up : k + 1 ≤ (d : Int) - 1 → ∃ X, FR l r (d - 1) (k + 1) X ∧ X ≤ x
  down : -((d : Int) - 1) ≤ k - 1 → ∃ X, FR l r (d - 1) (k - 1) X ∧ X + 1 ≤ x

section
variable {l r : List Int} {f : Nat → Int} {off d : Nat} {k : Int}

theorem part_start (l r : List Int) (f : Nat → Int) (off d : Nat) : RowPart l r f off d (-(d : Int)) := fun k' h1 _ h3 _ => by omega

theorem part_step {x : Int} {J : Nat} (h : RowPart l r f off d k) (hf : FR l r d k x) (hJ : (off : Int) + k = J) (hoff : d ≤ off) (hpar : Par k d) : RowPart l r (upd f J x) off d (k + 2) := by
  intro k' h1 h2 h3 h4
  unfold upd
  by_cases e : k' = k
  · subst e
    rw [if_pos (by omega)]; exact hf
  · obtain ⟨t, ht⟩ := hpar
    obtain ⟨t', ht'⟩ := h4
    rw [if_neg (by omega)]
    exact h k' h1 h2 (by omega) ⟨t', ht'⟩

theorem prev_step {x : Int} {J : Nat} (h : RowPrev l r f off d) (hJ : (off : Int) + k = J) (hoff : d ≤ off) (hpar : Par k d) : RowPrev l r (upd f J x) off d := by
  intro hd k' h1 h2 h3
  unfold upd
  obtain ⟨t, ht⟩ := hpar
  obtain ⟨t', ht'⟩ := h3
  rw [if_neg (by omega)]
  exact h hd k' h1 h2 ⟨t', ht'⟩

theorem part_end (h : RowPart l r f off d k) (hk : (d : Int) < k) : RowD l r f off d := fun k' h1 h2 h3 => h k' h1 h2 (by omega) h3

theorem prev_at {P : Nat} (h : RowPrev l r f off d) (hd : 1 ≤ d) (k' : Int) (h1 : -((d : Int) - 1) ≤ k') (h2 : k' ≤ (d : Int) - 1) (hpar : ∃ t : Int, k' + d = 2 * t + 1) (hP : (off : Int) + k' = P) : FR l r (d - 1) k' (f P) := by
  obtain ⟨t, ht⟩ := hpar
  have := h hd k' (by omega) (by omega) ⟨t, by omega⟩
  rwa [show ((off : Int) + k').toNat = P from by omega] at this

theorem start_point {P Q : Nat} {s : Int} (hs : Start f P Q k d s) (hprev : RowPrev l r f off d) (h0 : d = 0 → f P = 0) (hP : (off : Int) + k + 1 = P) (hQ : k ≠ -(d : Int) → (off : Int) + k - 1 = Q)
    (hk1 : -(d : Int) ≤ k) (hk2 : k ≤ d) (hpar : Par k d) : ∃ x y : Nat, s = x ∧ Slide l r d k x y := by
  obtain ⟨a1, a2, a3⟩ := hs
  obtain ⟨t, ht⟩ := hpar
  by_cases hd : d = 0
  · subst hd
    have e0 := h0 rfl
    rcases a3 with ⟨b1, _⟩ | ⟨_, b2⟩
    · refine ⟨0, 0, by omega, ⟨by omega, by omega, fun h => by omega, fun h => by omega⟩⟩
    · omega
  · have hup : k ≠ d → FR l r (d - 1) (k + 1) (f P) := fun h => prev_at hprev (by omega) (k + 1) (by omega) (by omega) ⟨t, by omega⟩ (by omega)
    have hdn : k ≠ -(d : Int) → FR l r (d - 1) (k - 1) (f Q) := fun h => prev_at hprev (by omega) (k - 1) (by omega) (by omega) ⟨t - 1, by omega⟩ (by have := hQ h; omega)
    have key : ∃ x y : Nat, s = x ∧ (x : Int) - y = k ∧ x + y ≤ d - 1 + 1 + 2 * L l r x y := by
      rcases a3 with ⟨b1, b2⟩ | ⟨b1, b2⟩
      · rw [b1]; exact from_above (hup (by omega))
      · rw [b1]; exact from_below (hdn b2)
    obtain ⟨x, y, e1, e2, e3⟩ := key
    refine ⟨x, y, e1, ⟨e2, by omega, fun h => ⟨f P, hup (by omega), by have := a1 (by omega); omega⟩, fun h => ⟨f Q, hdn (by omega), by have := a2 (by omega); omega⟩⟩⟩

theorem Slide.step {x y : Nat} (h : Slide l r d k x y) (hm : Mt l r x y) : Slide l r d k (x + 1) (y + 1) := by
  obtain ⟨h1, h2, h3, h4⟩ := h
  refine ⟨by omega, slide h2 hm, fun h => ?_, fun h => ?_⟩
  · obtain ⟨X, a, b⟩ := h3 h; exact ⟨X, a, by omega⟩
  · obtain ⟨X, a, b⟩ := h4 h; exact ⟨X, a, by omega⟩

theorem Slide.ends {x y : Nat} (h : Slide l r d k x y) (hno : ¬ Mt l r x y) (hk1 : -(d : Int) ≤ k) (hk2 : k ≤ d) (hpar : Par k d) : FR l r d k x :=
  slide_end h.diag h.cost hno hk2 hk1 h.up h.down hpar

/-- No point of the diagonal lies on a script of d edits before it and e behind it. -/
def NoPt (l r : List Int) (d e : Nat) (k : Int) : Prop := ∀ x y : Nat, (x : Int) - y = k → x ≤ l.length → y ≤ r.length → x + y ≤ d + 2 * L l r x y → l.length - x + (r.length - y) ≤ e + 2 * L l.reverse r.reverse (l.length - x) (r.length - y) → False

theorem nopt_of {e : Nat} {κ X U : Int} (hF : FR l r d k X) (hU : FR l.reverse r.reverse e κ U) (hk : k + κ = (l.length : Int) - r.length) (hlt : X + U < l.length) : NoPt l r d e k := by
  intro x y h1 h2 h3 h4 h5
  have a := hF.max h1 h4
  have b := hU.max (x := l.length - x) (y := r.length - y) (by omega) h5
  omega

theorem nopt_range {e : Nat} (h : ¬ (-(e : Int) ≤ (l.length : Int) - r.length - k ∧ (l.length : Int) - r.length - k ≤ e)) : NoPt l r d e k := by
  intro x y h1 h2 h3 h4 h5
  have q3 := L_le_left l.reverse r.reverse (l.length - x) (r.length - y)
  have q4 := L_le_right l.reverse r.reverse (l.length - x) (r.length - y)
  omega

theorem no_meeting {e : Nat} (h : ∀ k : Int, -(d : Int) ≤ k → k ≤ d → Par k d → -(e : Int) ≤ (l.length : Int) - r.length - k → (l.length : Int) - r.length - k ≤ e → NoPt l r d e k) : Dist l r ≠ d + e := by
  intro hD
  obtain ⟨k, x, y, h1, h2, h3, h4, h5, h6, h7, h8, h9, h10⟩ := overlap hD
  exact h k h6 h7 h8 h9 h10 x y h1 h2 h3 h4 h5

/-- The point that 'middle' hands back. -/
def MidOk (l r : List Int) (rounds : Int) (x y : Int) : Prop :=
  ∃ X Y : Nat, x = X ∧ y = Y ∧ X ≤ l.length ∧ Y ≤ r.length ∧ ¬ (X = 0 ∧ Y = 0) ∧ ¬ (X = l.length ∧ Y = r.length) ∧
    ((((l.length + r.length + 1) / 2 : Nat) : Int) ≤ rounds → L l r X Y + L l.reverse r.reverse (l.length - X) (r.length - Y) = lcs l r)

theorem met_fwd {e x y : Nat} {κ U rounds : Int} (hd : x + y ≤ d + 2 * L l r x y) (hk0 : (x : Int) - y = k) (hU : FR l.reverse r.reverse e κ U) (hk : k + κ = (l.length : Int) - r.length) (hge : (l.length : Int) ≤ x + U) (hD : d + e ≤ Dist l r) (h2 : 2 ≤ Dist l r) (hde : d ≤ e + 1) (hd1 : 1 ≤ d) : MidOk l r rounds x y := by
  obtain ⟨u, v, rfl, u1, u2, _⟩ := hU
  obtain ⟨a1, a2, a3⟩ := meet_fwd hd u2 (by omega) (by omega) hD
  have hDD := Dist_eq l r
  have b1 := L_le_left l r x y
  obtain ⟨t, ht⟩ : ∃ t, u = l.length - x + t := ⟨u - (l.length - x), by omega⟩
  have hv : v = r.length - y + t := by omega
  subst ht; subst hv
  have h3 := L_diag_many l.reverse r.reverse (l.length - x) (r.length - y) t
  refine ⟨x, y, rfl, rfl, a1, a2, ?_, ?_, fun _ => a3⟩
  · rintro ⟨rfl, rfl⟩
    rw [L_zero_left] at a3 hd
    omega
  · rintro ⟨rfl, rfl⟩
    rw [L_all] at hd
    omega

theorem met_bwd {e u v : Nat} {κ X rounds : Int} (he : u + v ≤ e + 2 * L l.reverse r.reverse u v) (hk0 : (u : Int) - v = κ) (hX : FR l r d k X) (hk : k + κ = (l.length : Int) - r.length) (hge : (l.length : Int) ≤ X + u) (hD : d + e ≤ Dist l r) (h2 : 2 ≤ Dist l r) (hde : d = e) :
    MidOk l r rounds ((l.length : Int) - u) ((r.length : Int) - v) ∧ u ≤ l.length ∧ v ≤ r.length := by
  obtain ⟨x, y, rfl, u1, u2, _⟩ := hX
  obtain ⟨a1, a2, a3⟩ := meet_bwd u2 he (by omega) (by omega) hD
  have hDD := Dist_eq l r
  refine ⟨⟨l.length - u, r.length - v, by omega, by omega, by omega, by omega, ?_, ?_, fun _ => ?_⟩, a1, a2⟩
  · rintro ⟨h3, h4⟩
    have e1 : u = l.length := by omega
    have e2 : v = r.length := by omega
    subst e1; subst e2
    have e3 : L l.reverse r.reverse l.length r.length = lcs l r := by
      have := L_all (l := l.reverse) (r := r.reverse)
      rw [List.length_reverse, List.length_reverse, lcs_rev] at this
      exact this
    rw [e3] at he
    omega
  · rintro ⟨h3, h4⟩
    have e1 : u = 0 := by omega
    have e2 : v = 0 := by omega
    subst e1; subst e2
    rw [L_zero_left] at a3
    obtain ⟨t, ht⟩ : ∃ t, x = l.length + t := ⟨x - l.length, by omega⟩
    have hy : y = r.length + t := by omega
    subst ht; subst hy
    have h5 := L_le_all l r (l.length + t) (r.length + t)
    omega
  · rw [show l.length - (l.length - u) = u from by omega, show r.length - (r.length - v) = v from by omega]
    exact a3

/-- The furthest point so far: none, or one in the box that is neither corner. -/
def Best (l r : List Int) (fx fy fu : Int) : Prop :=
  (fx = 0 ∧ fy = 0 ∧ fu = 0) ∨ (1 ≤ fu ∧ ∃ X Y : Nat, fx = X ∧ fy = Y ∧ X ≤ l.length ∧ Y ≤ r.length ∧ ¬ (X = 0 ∧ Y = 0) ∧ ¬ (X = l.length ∧ Y = r.length))

theorem best_nonneg {fx fy fu : Int} (h : Best l r fx fy fu) : 0 ≤ fu := by
  rcases h with ⟨_, _, h⟩ | ⟨h, _⟩ <;> omega

theorem best_fwd {fx fy fu : Int} {x y : Nat} (h : Best l r fx fy fu) (hx : x ≤ l.length) (hy : y ≤ r.length) (hlt : fu < (x : Int) + y) (hd : x + y ≤ d + 2 * L l r x y) (hD : 2 * d ≤ Dist l r + 1) (h2 : 2 ≤ Dist l r) : Best l r x y ((x : Int) + y) := by
  have := best_nonneg h
  refine .inr ⟨by omega, x, y, rfl, rfl, hx, hy, by omega, ?_⟩
  rintro ⟨rfl, rfl⟩
  have hDD := Dist_eq l r
  rw [L_all] at hd
  omega

theorem best_bwd {fx fy fu : Int} {u v : Nat} (h : Best l r fx fy fu) (hx : u ≤ l.length) (hy : v ≤ r.length) (hlt : fu < (u : Int) + v) (hd : u + v ≤ d + 2 * L l.reverse r.reverse u v) (hD : 2 * d ≤ Dist l r + 1) (h2 : 2 ≤ Dist l r) : Best l r ((l.length : Int) - u) ((r.length : Int) - v) ((u : Int) + v) := by
  have := best_nonneg h
  refine .inr ⟨by omega, l.length - u, r.length - v, by omega, by omega, by omega, by omega, ?_, by omega⟩
  rintro ⟨h3, h4⟩
  have e1 : u = l.length := by omega
  have e2 : v = r.length := by omega
  subst e1; subst e2
  have hDD := Dist_eq l r
  have e3 : L l.reverse r.reverse l.length r.length = lcs l r := by
    have := L_all (l := l.reverse) (r := r.reverse)
    rw [List.length_reverse, List.length_reverse, lcs_rev] at this
    exact this
  rw [e3] at hd
  omega

theorem best_ok {fx fy fu rounds : Int} (h : Best l r fx fy fu) (hfu : 1 ≤ fu) (hr : rounds < (((l.length + r.length + 1) / 2 : Nat) : Int)) : MidOk l r rounds fx fy := by
  rcases h with ⟨_, _, h⟩ | ⟨_, X, Y, h1, h2, h3, h4, h5, h6⟩
  · omega
  · exact ⟨X, Y, h1, h2, h3, h4, h5, h6, fun h => by omega⟩

end

end Go.Proofs.Qxb6603371a
