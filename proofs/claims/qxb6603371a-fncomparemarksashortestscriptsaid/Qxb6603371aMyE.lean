import Derived.Test.Qxb6603371aMyD
namespace Go.Proofs.Qxb6603371a

/-! The invariants of middle's loops: plain. -/

/-- Whether the difference of the lengths is odd. -/
def Odd (l r : List Int) (od : Bool) : Prop := (od = true → ∃ t : Int, (l.length : Int) - r.length = 2 * t + 1) ∧ (od = false → ∃ t : Int, (l.length : Int) - r.length = 2 * t)

structure OutInv (l r : List Int) (off : Nat) (od : Bool) (d : Nat) (fx fy fu : Int) (f b : Nat → Int) : Prop where
  prev : RowPrev l r f off d
  back : RowPrev l.reverse r.reverse b off d
  z0 : d = 0 → f (off + 1) = 0 ∧ b (off + 1) = 0
  best : Best l r fx fy fu
  pos : 2 ≤ d → 1 ≤ fu
  lowT : od = true → 2 * d ≤ Dist l r + 1
  lowF : od = false → 2 * d ≤ Dist l r

structure FwdInv (l r : List Int) (off : Nat) (od : Bool) (d : Nat) (k : Int) (fx fy fu : Int) (f b : Nat → Int) : Prop where
  prev : RowPrev l r f off d
  part : RowPart l r f off d k
  back : RowPrev l.reverse r.reverse b off d
  z0 : d = 0 → f (off + 1) = 0 ∧ b (off + 1) = 0
  best : Best l r fx fy fu
  pos : 1 ≤ d → -(d : Int) < k → 1 ≤ fu
  pos2 : 2 ≤ d → 1 ≤ fu
  lowT : od = true → 2 * d ≤ Dist l r + 1
  lowF : od = false → 2 * d ≤ Dist l r
  nopt : od = true → 1 ≤ d → ∀ k' : Int, -(d : Int) ≤ k' → k' ≤ d → k' < k → Par k' d → NoPt l r d (d - 1) k'

structure BwdInv (l r : List Int) (off : Nat) (od : Bool) (d : Nat) (k : Int) (fx fy fu : Int) (f b : Nat → Int) : Prop where
  fwd : RowD l r f off d
  prev : RowPrev l.reverse r.reverse b off d
  part : RowPart l.reverse r.reverse b off d k
  z0 : d = 0 → b (off + 1) = 0
  best : Best l r fx fy fu
  pos : 1 ≤ d → 1 ≤ fu
  lowT : od = true → 2 * (d + 1) ≤ Dist l r + 1
  lowF : od = false → 2 * d ≤ Dist l r
  nopt : od = false → ∀ κ : Int, -(d : Int) ≤ κ → κ ≤ d → κ < k → Par κ d → NoPt l r d d ((l.length : Int) - r.length - κ)

section
variable {l r : List Int} {off d : Nat} {od : Bool} {k fx fy fu : Int} {f b : Nat → Int}

theorem OutInv.start (off : Nat) (od : Bool) (f b : Nat → Int) (h1 : f (off + 1) = 0) (h2 : b (off + 1) = 0) : OutInv l r off od 0 0 0 0 f b :=
  ⟨fun h => by omega, fun h => by omega, fun _ => ⟨h1, h2⟩, .inl ⟨rfl, rfl, rfl⟩, fun h => by omega, fun _ => by omega, fun _ => by omega⟩

theorem OutInv.low (h : OutInv l r off od d fx fy fu f b) : 2 * d ≤ Dist l r + 1 := by
  cases od with
  | true => exact h.lowT rfl
  | false => have := h.lowF rfl; omega

theorem FwdInv.low (h : FwdInv l r off od d k fx fy fu f b) : 2 * d ≤ Dist l r + 1 := by
  cases od with
  | true => exact h.lowT rfl
  | false => have := h.lowF rfl; omega

theorem BwdInv.low (h : BwdInv l r off od d k fx fy fu f b) : 2 * d ≤ Dist l r + 1 := by
  cases od with
  | true => have := h.lowT rfl; omega
  | false => have := h.lowF rfl; omega

theorem OutInv.toFwd (h : OutInv l r off od d fx fy fu f b) : FwdInv l r off od d (-(d : Int)) fx fy fu f b :=
  ⟨h.prev, part_start _ _ _ _ _, h.back, h.z0, h.best, fun _ h2 => by omega, h.pos, h.lowT, h.lowF, fun _ _ k' h1 _ h3 _ => by omega⟩

theorem FwdInv.toBwd (h : FwdInv l r off od d k fx fy fu f b) (hk : (d : Int) < k) (ho : Odd l r od) : BwdInv l r off od d (-(d : Int)) fx fy fu f b := by
  refine ⟨part_end h.part hk, h.back, part_start _ _ _ _ _, fun e => (h.z0 e).2, h.best, fun h1 => h.pos h1 (by omega), fun e => ?_, h.lowF, fun _ κ h1 _ h3 _ => by omega⟩
  have hDD := Dist_eq l r
  obtain ⟨t, ht⟩ := ho.1 e
  have hl := h.lowT e
  by_cases hd : d = 0
  · omega
  · have := no_meeting (l := l) (r := r) (d := d) (e := d - 1) (fun k' h1 h2 h3 _ _ => h.nopt e (by omega) k' h1 h2 (by omega) h3)
    omega

theorem BwdInv.toOut (h : BwdInv l r off od d k fx fy fu f b) (hk : (d : Int) < k) (ho : Odd l r od) : OutInv l r off od (d + 1) fx fy fu f b := by
  refine ⟨fun _ => h.fwd, fun _ => part_end h.part hk, fun e => by omega, h.best, fun h1 => h.pos (by omega), h.lowT, fun e => ?_⟩
  have hDD := Dist_eq l r
  obtain ⟨t, ht⟩ := ho.2 e
  have hl := h.lowF e
  have := no_meeting (l := l) (r := r) (d := d) (e := d) (fun k' h1 h2 h3 h4 h5 => by
    obtain ⟨q, hq⟩ := h3
    have := h.nopt e ((l.length : Int) - r.length - k') h4 h5 (by omega) ⟨t - q + d, by omega⟩
    rwa [show (l.length : Int) - r.length - ((l.length : Int) - r.length - k') = k' from by omega] at this)
  omega

/-- In the first round the first point lies in the box. -/
theorem box1 {x y : Nat} (h0 : ¬ Mt l r 0 0) (hm : 1 ≤ r.length) (hk : (x : Int) - y = -1) (hd : x + y ≤ 1 + 2 * L l r x y) : x ≤ l.length ∧ y ≤ r.length := by
  have h1 := L_le_n l r x y
  have h2 := L_le_m l r x y
  refine ⟨by omega, ?_⟩
  rcases Nat.lt_or_ge r.length y with hlt | hge
  · exfalso
    obtain rfl : x = r.length := by omega
    have e1 : L l r r.length y = L l r r.length r.length := L_sat_right (by omega)
    have e2 := L_diag_many l r 1 1 (r.length - 1)
    rw [show 1 + (r.length - 1) = r.length from by omega] at e2
    have e3 := L_nomatch h0
    rw [L_zero_left, show 0 + 1 = 1 from rfl, L_zero_right] at e3
    omega
  · exact hge

/-- Where the round leaves the furthest point as it was, it was one already (from round 1 on). -/
theorem FwdInv.kept {x y : Nat} (h : FwdInv l r off od d k fx fy fu f b) (h0 : ¬ Mt l r 0 0) (hm : 1 ≤ r.length) (hk : (x : Int) - y = k) (hd : x + y ≤ d + 2 * L l r x y) (hk1 : -(d : Int) ≤ k) (hk2 : k ≤ d)
    (hn : ¬ (x ≤ l.length ∧ y ≤ r.length ∧ fu < (x : Int) + y)) : 1 ≤ d → 1 ≤ fu := by
  intro h1
  by_cases e : 2 ≤ d
  · exact h.pos2 e
  · obtain rfl : d = 1 := by omega
    by_cases e2 : -((1 : Nat) : Int) < k
    · exact h.pos h1 e2
    · have := box1 h0 hm (by omega) hd
      omega

theorem FwdInv.next {x : Nat} {J : Nat} {fx' fy' fu' : Int} (h : FwdInv l r off od d k fx fy fu f b) (hFR : FR l r d k x) (hJ : (off : Int) + k = J) (hoff : d ≤ off) (hk2 : k ≤ d) (hpar : Par k d) (hb : Best l r fx' fy' fu') (hp : 1 ≤ d → 1 ≤ fu')
    (hno : od = true → 1 ≤ d → NoPt l r d (d - 1) k) : FwdInv l r off od d (k + 2) fx' fy' fu' (upd f J x) b := by
  refine ⟨prev_step h.prev hJ hoff hpar, part_step h.part hFR hJ hoff hpar, h.back, fun e => ?_, hb, fun h1 _ => hp h1, fun h1 => hp (by omega), h.lowT, h.lowF, fun e h1 k' a1 a2 a3 a4 => ?_⟩
  · obtain ⟨z1, z2⟩ := h.z0 e
    refine ⟨?_, z2⟩
    unfold upd
    rw [if_neg (by omega)]
    exact z1
  · by_cases e2 : k' = k
    · subst e2; exact hno e h1
    · obtain ⟨t, ht⟩ := hpar
      obtain ⟨t', ht'⟩ := a4
      exact h.nopt e h1 k' a1 a2 (by omega) ⟨t', ht'⟩

theorem BwdInv.next {u : Nat} {J : Nat} {fx' fy' fu' : Int} (h : BwdInv l r off od d k fx fy fu f b) (hFR : FR l.reverse r.reverse d k u) (hJ : (off : Int) + k = J) (hoff : d ≤ off) (hk2 : k ≤ d) (hpar : Par k d) (hb : Best l r fx' fy' fu') (hp : 1 ≤ d → 1 ≤ fu')
    (hno : od = false → NoPt l r d d ((l.length : Int) - r.length - k)) : BwdInv l r off od d (k + 2) fx' fy' fu' f (upd b J u) := by
  refine ⟨h.fwd, prev_step h.prev hJ hoff hpar, part_step h.part hFR hJ hoff hpar, fun e => ?_, hb, hp, h.lowT, h.lowF, fun e κ a1 a2 a3 a4 => ?_⟩
  · have z := h.z0 e
    unfold upd
    rw [if_neg (by omega)]
    exact z
  · by_cases e2 : κ = k
    · subst e2; exact hno e
    · obtain ⟨t, ht⟩ := hpar
      obtain ⟨t', ht'⟩ := a4
      exact h.nopt e κ a1 a2 (by omega) ⟨t', ht'⟩

/-- The backward row's entry that the forward round looks at. -/
theorem FwdInv.look {R : Nat} {κ : Int} (h : FwdInv l r off od d k fx fy fu f b) (hod : od = true) (ho : Odd l r od) (hpar : Par k d) (hκ : (l.length : Int) - r.length - k = κ) (h1 : -((d : Int) - 1) ≤ κ) (h2 : κ ≤ (d : Int) - 1) (hR : (off : Int) + κ = R) : FR l.reverse r.reverse (d - 1) κ (b R) := by
  obtain ⟨t, ht⟩ := ho.1 hod
  obtain ⟨q, hq⟩ := hpar
  exact prev_at h.back (by omega) κ h1 h2 ⟨t - q + d, by omega⟩ hR

/-- The forward row's entry that the backward round looks at. -/
theorem BwdInv.look {R : Nat} {κ : Int} (h : BwdInv l r off od d k fx fy fu f b) (hod : od = false) (ho : Odd l r od) (hpar : Par k d) (hκ : (l.length : Int) - r.length - k = κ) (h1 : -(d : Int) ≤ κ) (h2 : κ ≤ d) (hR : (off : Int) + κ = R) : FR l r d κ (f R) := by
  obtain ⟨t, ht⟩ := ho.2 hod
  obtain ⟨q, hq⟩ := hpar
  have := h.fwd κ h1 h2 ⟨t - q + d, by omega⟩
  rwa [show ((off : Int) + κ).toNat = R from by omega] at this

/-- The forward round meets. -/
theorem FwdInv.met {n m x y : Nat} {delta rr rounds : Int} (h : FwdInv l r off od d k fx fy fu f b) (ho : Odd l r od) (hpar : Par k d) (hsl : Slide l r d k x y) (hl : l.length = n) (hr : r.length = m) (hδ : (n : Int) - m = delta) (hrr : delta - k = rr) (hoff : d ≤ off)
    (hmb : (od && decide (-((d : Int) - 1) ≤ rr ∧ rr ≤ (d : Int) - 1 ∧ (n : Int) ≤ x + b ((off : Int) + rr).toNat)) = true) (h2 : 2 ≤ Dist l r) : MidOk l r rounds x y := by
  rw [Bool.and_eq_true, decide_eq_true_eq] at hmb
  obtain ⟨e, q1, q2, q3⟩ := hmb
  have hlk := h.look (κ := rr) (R := ((off : Int) + rr).toNat) e ho hpar (by rw [hl, hr]; omega) q1 q2 (by omega)
  have hlow := h.lowT e
  exact met_fwd hsl.cost hsl.diag hlk (by rw [hl, hr]; omega) (by rw [hl]; exact q3) (by omega) h2 (by omega) (by omega)

/-- The forward round does not meet on this diagonal. -/
theorem FwdInv.unmet {n m x : Nat} {delta rr : Int} (h : FwdInv l r off od d k fx fy fu f b) (ho : Odd l r od) (hpar : Par k d) (hFR : FR l r d k x) (hl : l.length = n) (hr : r.length = m) (hδ : (n : Int) - m = delta) (hrr : delta - k = rr) (hoff : d ≤ off)
    (hmb : (od && decide (-((d : Int) - 1) ≤ rr ∧ rr ≤ (d : Int) - 1 ∧ (n : Int) ≤ x + b ((off : Int) + rr).toNat)) = false) : od = true → 1 ≤ d → NoPt l r d (d - 1) k := by
  intro e h1
  rw [e, Bool.true_and, decide_eq_false_iff_not] at hmb
  by_cases q : -((d : Int) - 1) ≤ rr ∧ rr ≤ (d : Int) - 1
  · have hlk := h.look (κ := rr) (R := ((off : Int) + rr).toNat) e ho hpar (by rw [hl, hr]; omega) q.1 q.2 (by omega)
    exact nopt_of hFR hlk (by rw [hl, hr]; omega) (by rw [hl]; have : ¬ (n : Int) ≤ x + b ((off : Int) + rr).toNat := fun h3 => hmb ⟨q.1, q.2, h3⟩; omega)
  · exact nopt_range (by rw [hl, hr]; omega)

/-- The backward round meets. -/
theorem BwdInv.met {n m u v : Nat} {delta rr rounds : Int} (h : BwdInv l r off od d k fx fy fu f b) (ho : Odd l r od) (hpar : Par k d) (hsl : Slide l.reverse r.reverse d k u v) (hl : l.length = n) (hr : r.length = m) (hδ : (n : Int) - m = delta) (hrr : delta - k = rr) (hoff : d ≤ off)
    (hmb : (!od && decide (-(d : Int) ≤ rr ∧ rr ≤ (d : Int) ∧ (n : Int) ≤ f ((off : Int) + rr).toNat + u)) = true) (h2 : 2 ≤ Dist l r) : MidOk l r rounds ((n : Int) - u) ((m : Int) - v) ∧ u ≤ n ∧ v ≤ m := by
  rw [Bool.and_eq_true, decide_eq_true_eq] at hmb
  obtain ⟨e', q1, q2, q3⟩ := hmb
  have e : od = false := by simpa using e'
  have hlk := h.look (κ := rr) (R := ((off : Int) + rr).toNat) e ho hpar (by rw [hl, hr]; omega) q1 q2 (by omega)
  have hlow := h.lowF e
  have := met_bwd (rounds := rounds) hsl.cost hsl.diag hlk (by rw [hl, hr]; omega) (by rw [hl]; exact q3) (by omega) h2 rfl
  rw [hl, hr] at this
  exact this

/-- The backward round does not meet on this diagonal. -/
theorem BwdInv.unmet {n m u : Nat} {delta rr : Int} (h : BwdInv l r off od d k fx fy fu f b) (ho : Odd l r od) (hpar : Par k d) (hFR : FR l.reverse r.reverse d k u) (hl : l.length = n) (hr : r.length = m) (hδ : (n : Int) - m = delta) (hrr : delta - k = rr) (hoff : d ≤ off)
    (hmb : (!od && decide (-(d : Int) ≤ rr ∧ rr ≤ (d : Int) ∧ (n : Int) ≤ f ((off : Int) + rr).toNat + u)) = false) : od = false → NoPt l r d d ((l.length : Int) - r.length - k) := by
  intro e
  rw [e, Bool.not_false, Bool.true_and, decide_eq_false_iff_not] at hmb
  have hκ : (l.length : Int) - r.length - k = rr := by rw [hl, hr]; omega
  rw [hκ]
  by_cases q : -(d : Int) ≤ rr ∧ rr ≤ (d : Int)
  · have hlk := h.look (κ := rr) (R := ((off : Int) + rr).toNat) e ho hpar hκ q.1 q.2 (by omega)
    exact nopt_of hlk hFR (by rw [hl, hr]; omega) (by rw [hl]; have : ¬ (n : Int) ≤ f ((off : Int) + rr).toNat + u := fun h3 => hmb ⟨q.1, q.2, h3⟩; omega)
  · have hb := hFR
    intro x y h1 h2 h3 h4 h5
    have q1 := L_le_left l r x y
    have q2 := L_le_right l r x y
    omega

end

end Go.Proofs.Qxb6603371a
