import Derived.Test.Qxb6603371aMyD
namespace Go.Proofs.Qxb6603371a

/-! What compare leaves: plain. -/

/-- The lines of a window that no mark strikes. -/
def kept (z : Nat → Int) (mk : Nat → Bool) (lo n : Nat) : List Int := (List.range n).flatMap fun i => if mk (lo + i) then [] else [z (lo + i)]

theorem kept_add (z : Nat → Int) (mk : Nat → Bool) (lo n k : Nat) : kept z mk lo (n + k) = kept z mk lo n ++ kept z mk (lo + n) k := by
  unfold kept
  rw [List.range_add, List.flatMap_append, List.flatMap_map]
  simp [Nat.add_assoc]

theorem kept_congr {z : Nat → Int} {mk mk' : Nat → Bool} {lo n : Nat} (h : ∀ i, i < n → mk' (lo + i) = mk (lo + i)) : kept z mk' lo n = kept z mk lo n := by
  induction n with
  | zero => rfl
  | succ n ih =>
    rw [kept_add, kept_add, ih (fun i hi => h i (by omega))]
    unfold kept
    simp [h n (by omega)]

theorem kept_none {z : Nat → Int} {mk : Nat → Bool} {lo n : Nat} (h : ∀ i, i < n → mk (lo + i) = false) : kept z mk lo n = win z lo n := by
  induction n with
  | zero => rfl
  | succ n ih =>
    rw [kept_add, ih (fun i hi => h i (by omega))]
    unfold kept win
    simp [h n (by omega), List.range_succ]

theorem kept_all {z : Nat → Int} {mk : Nat → Bool} {lo n : Nat} (h : ∀ i, i < n → mk (lo + i) = true) : kept z mk lo n = [] := by
  induction n with
  | zero => rfl
  | succ n ih =>
    rw [kept_add, ih (fun i hi => h i (by omega))]
    unfold kept
    simp [h n (by omega)]

theorem win_add (z : Nat → Int) (lo n k : Nat) : win z lo (n + k) = win z lo n ++ win z (lo + n) k := by
  unfold win
  rw [List.range_add, List.map_append, List.map_map]
  simp [Nat.add_assoc, Function.comp_def]

theorem win_congr {z z' : Nat → Int} {lo lo' n : Nat} (h : ∀ i, i < n → z (lo + i) = z' (lo' + i)) : win z lo n = win z' lo' n := by
  unfold win
  exact List.map_congr_left (fun i hi => h i (List.mem_range.1 hi))

theorem win_take (z : Nat → Int) (lo n x : Nat) (h : x ≤ n) : (win z lo n).take x = win z lo x := by
  obtain ⟨k, rfl⟩ : ∃ k, n = x + k := ⟨n - x, by omega⟩
  rw [win_add, List.take_append_of_le_length (by rw [win_length]; exact Nat.le_refl _), List.take_of_length_le (by rw [win_length]; exact Nat.le_refl _)]

theorem win_drop (z : Nat → Int) (lo n x : Nat) (h : x ≤ n) : (win z lo n).drop x = win z (lo + x) (n - x) := by
  obtain ⟨k, rfl⟩ : ∃ k, n = x + k := ⟨n - x, by omega⟩
  rw [win_add, List.drop_append_of_le_length (by rw [win_length]; exact Nat.le_refl _), List.drop_eq_nil_of_le (by rw [win_length]; exact Nat.le_refl _), List.nil_append, show x + k - x = k from by omega]

theorem lcs_prefix (p l r : List Int) : lcs (p ++ l) (p ++ r) = p.length + lcs l r := by
  induction p with
  | nil => simp
  | cons a p ih =>
    rw [List.cons_append, List.cons_append, lcs_cons_eq, ih]
    simp; omega

theorem lcs_suffix (s l r : List Int) : lcs (l ++ s) (r ++ s) = lcs l r + s.length := by
  rw [← lcs_rev, List.reverse_append, List.reverse_append, lcs_prefix, lcs_rev, List.length_reverse]; omega

/-- What a comparison of the windows (aLo, n) and (bLo, m) does to the marks. -/
structure CmpOk (za zb : Nat → Int) (rounds : Int) (aLo n bLo m : Nat) (del ins del' ins' : Nat → Bool) : Prop where
  outA : ∀ i, i < aLo ∨ aLo + n ≤ i → del' i = del i
  outB : ∀ j, j < bLo ∨ bLo + m ≤ j → ins' j = ins j
  agree : kept za del' aLo n = kept zb ins' bLo m
  best : (((n + m + 1) / 2 : Nat) : Int) ≤ rounds → (kept za del' aLo n).length = lcs (win za aLo n) (win zb bLo m)

section
variable {za zb : Nat → Int} {rounds : Int} {aLo n bLo m : Nat} {del ins del' ins' : Nat → Bool}

/-- A common beginning and a common end are kept. -/
theorem CmpOk.trim {p q : Nat} (hp : p + q ≤ n) (hq : p + q ≤ m) (h1 : ∀ i, i < p → za (aLo + i) = zb (bLo + i)) (h2 : ∀ i, i < q → za (aLo + n - 1 - i) = zb (bLo + m - 1 - i))
    (fa : ∀ i, aLo ≤ i → i < aLo + n → del i = false) (fb : ∀ j, bLo ≤ j → j < bLo + m → ins j = false)
    (h : CmpOk za zb rounds (aLo + p) (n - p - q) (bLo + p) (m - p - q) del ins del' ins') : CmpOk za zb rounds aLo n bLo m del ins del' ins' := by
  obtain ⟨oa, ob, ag, be⟩ := h
  have eA : n = p + ((n - p - q) + q) := by omega
  have eB : m = p + ((m - p - q) + q) := by omega
  have kA : ∀ (z : Nat → Int), kept z del' aLo n = win z aLo p ++ (kept z del' (aLo + p) (n - p - q) ++ win z (aLo + p + (n - p - q)) q) := fun z => by
    conv => lhs; rw [eA]
    rw [kept_add, kept_add, kept_none (fun i hi => by rw [oa _ (by omega)]; exact fa _ (by omega) (by omega)), kept_none (n := q) (fun i hi => by rw [oa _ (by omega)]; exact fa _ (by omega) (by omega))]
  have kB : ∀ (z : Nat → Int), kept z ins' bLo m = win z bLo p ++ (kept z ins' (bLo + p) (m - p - q) ++ win z (bLo + p + (m - p - q)) q) := fun z => by
    conv => lhs; rw [eB]
    rw [kept_add, kept_add, kept_none (fun i hi => by rw [ob _ (by omega)]; exact fb _ (by omega) (by omega)), kept_none (n := q) (fun i hi => by rw [ob _ (by omega)]; exact fb _ (by omega) (by omega))]
  have w1 : win za aLo p = win zb bLo p := win_congr h1
  have w2 : win za (aLo + p + (n - p - q)) q = win zb (bLo + p + (m - p - q)) q := win_congr (fun i hi => by
    have := h2 (q - 1 - i) (by omega)
    rw [show aLo + n - 1 - (q - 1 - i) = aLo + p + (n - p - q) + i from by omega, show bLo + m - 1 - (q - 1 - i) = bLo + p + (m - p - q) + i from by omega] at this
    exact this)
  have wA : win za aLo n = win za aLo p ++ (win za (aLo + p) (n - p - q) ++ win za (aLo + p + (n - p - q)) q) := by
    conv => lhs; rw [eA]
    rw [win_add, win_add]
  have wB : win zb bLo m = win zb bLo p ++ (win zb (bLo + p) (m - p - q) ++ win zb (bLo + p + (m - p - q)) q) := by
    conv => lhs; rw [eB]
    rw [win_add, win_add]
  refine ⟨fun i hi => oa i (by omega), fun j hj => ob j (by omega), ?_, fun hr => ?_⟩
  · rw [kA, kB, ag, w1, w2]
  · have hb := be (by omega)
    rw [wA, wB, ← w1, ← w2, lcs_prefix, lcs_suffix, kA]
    simp only [List.length_append, win_length]
    omega

/-- Nothing is left of the first window: all of the second is inserted. -/
theorem CmpOk.insert (hi1 : ∀ j, bLo ≤ j → j < bLo + m → ins' j = true) (hi2 : ∀ j, j < bLo ∨ bLo + m ≤ j → ins' j = ins j) : CmpOk za zb rounds aLo 0 bLo m del ins del ins' := by
  refine ⟨fun _ _ => rfl, hi2, ?_, fun _ => ?_⟩
  · rw [kept_all (fun i hi => hi1 _ (by omega) (by omega))]; rfl
  · have := lcs_len_left (win za aLo 0) (win zb bLo m)
    rw [win_length] at this
    have e : kept za del aLo 0 = [] := rfl
    rw [e]; simp; omega

theorem CmpOk.delete (hi1 : ∀ i, aLo ≤ i → i < aLo + n → del' i = true) (hi2 : ∀ i, i < aLo ∨ aLo + n ≤ i → del' i = del i) : CmpOk za zb rounds aLo n bLo 0 del ins del' ins := by
  refine ⟨hi2, fun _ _ => rfl, ?_, fun _ => ?_⟩
  · rw [kept_all (fun i hi => hi1 _ (by omega) (by omega))]; rfl
  · have := lcs_len_right (win za aLo n) (win zb bLo 0)
    rw [win_length] at this
    rw [kept_all (fun i hi => hi1 _ (by omega) (by omega))]; simp; omega

/-- Two comparisons, split at the middle point. -/
theorem CmpOk.join {X Y : Nat} {d1 i1 : Nat → Bool} (hx : X ≤ n) (hy : Y ≤ m) (hs : (((n + m + 1) / 2 : Nat) : Int) ≤ rounds → L (win za aLo n) (win zb bLo m) X Y + L (win za aLo n).reverse (win zb bLo m).reverse (n - X) (m - Y) = lcs (win za aLo n) (win zb bLo m))
    (h1 : CmpOk za zb rounds aLo X bLo Y del ins d1 i1) (h2 : CmpOk za zb rounds (aLo + X) (n - X) (bLo + Y) (m - Y) d1 i1 del' ins') : CmpOk za zb rounds aLo n bLo m del ins del' ins' := by
  obtain ⟨oa, ob, ag, be⟩ := h1
  obtain ⟨oa2, ob2, ag2, be2⟩ := h2
  have kA : kept za del' aLo n = kept za d1 aLo X ++ kept za del' (aLo + X) (n - X) := by
    conv => lhs; rw [show n = X + (n - X) from by omega]
    rw [kept_add, kept_congr (mk := d1) (fun i hi => oa2 _ (by omega))]
  have kB : kept zb ins' bLo m = kept zb i1 bLo Y ++ kept zb ins' (bLo + Y) (m - Y) := by
    conv => lhs; rw [show m = Y + (m - Y) from by omega]
    rw [kept_add, kept_congr (mk := i1) (fun i hi => ob2 _ (by omega))]
  refine ⟨fun i hi => ?_, fun j hj => ?_, ?_, fun hr => ?_⟩
  · rw [oa2 i (by omega), oa i (by omega)]
  · rw [ob2 j (by omega), ob j (by omega)]
  · rw [kA, kB, ag, ag2]
  · have e := hs hr
    have b1 := be (by omega)
    have b2 := be2 (by omega)
    have e1 : L (win za aLo n) (win zb bLo m) X Y = lcs (win za aLo X) (win zb bLo Y) := by unfold L; rw [win_take _ _ _ _ hx, win_take _ _ _ _ hy]
    have e2 : L (win za aLo n).reverse (win zb bLo m).reverse (n - X) (m - Y) = lcs (win za (aLo + X) (n - X)) (win zb (bLo + Y) (m - Y)) := by
      unfold L
      rw [List.take_reverse, List.take_reverse, lcs_rev, win_length, win_length, show n - (n - X) = X from by omega, show m - (m - Y) = Y from by omega, win_drop _ _ _ _ hx, win_drop _ _ _ _ hy]
    rw [kA, List.length_append]
    omega
end

end Go.Proofs.Qxb6603371a
