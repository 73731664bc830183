import Derived.Test.Qxb6003229aCl
namespace Go.Proofs.Qxb6003229a
open Go.RowKit

def ClPost (n : Nat) (x y : Int) (w : World) (e : Ending) (w' : World) : Prop := e = .returned (.int .i64 (cl n x y)) ∧ w' = w

theorem cl_one {n : Nat} {x y : Int} (h : x < 128) : cl n x y = 1 := by unfold cl; rw [if_pos h]
theorem cl_nolead {n : Nat} {x y : Int} (h1 : 128 ≤ x) (h : x = 128 ∨ x = 255 ∨ n < 2) : cl n x y = 0 := by unfold cl; rw [if_neg (by omega), if_pos h]
theorem cl_two {n : Nat} {x y : Int} (h1 : 129 ≤ x) (h2 : x ≤ 254) (hn : 2 ≤ n) (h3 : 64 ≤ y) (h4 : y ≤ 254) (h5 : y ≠ 127) : cl n x y = 2 := by
  unfold cl; rw [if_neg (by omega), if_neg (by omega), if_pos ⟨h3, h4, h5⟩]
theorem cl_four {n : Nat} {x y : Int} (h1 : 129 ≤ x) (h2 : x ≤ 254) (hn : 4 ≤ n) (h3 : 48 ≤ y) (h4 : y ≤ 57) : cl n x y = 4 := by
  unfold cl; rw [if_neg (by omega), if_neg (by omega), if_neg (by omega), if_pos ⟨hn, h3, h4⟩]
theorem cl_none {n : Nat} {x y : Int} (h1 : 129 ≤ x) (h3 : ¬ (64 ≤ y ∧ y ≤ 254 ∧ y ≠ 127)) (h4 : ¬ (4 ≤ n ∧ 48 ≤ y ∧ y ≤ 57)) : cl n x y = 0 := by
  unfold cl
  rw [if_neg (by omega)]
  by_cases h5 : x = 128 ∨ x = 255 ∨ n < 2
  · rw [if_pos h5]
  · rw [if_neg h5, if_neg h3, if_neg h4]

set_option maxHeartbeats 1000000 in
theorem cl_any (b n c : Nat) (x y : Int) (w : World) (hn : 1 ≤ n) (hn2 : n ≤ 1048576) (hx : w.cell? ⟨b, 0, none⟩ = some (.int .u8 x)) (hy : 2 ≤ n → w.cell? ⟨b, 1, none⟩ = some (.int .u8 y)) (x0 : 0 ≤ x) (x1 : x ≤ 255) (y0 : 2 ≤ n → 0 ≤ y ∧ y ≤ 255) :
    Calls Try.prog 16 #[.slice (some ⟨b, 0, none⟩) n c] w (ClPost n x y w) := by
  rcases ways n x y hn x0 x1 y0 with a1 | a1 | a1 | ⟨a1, a2, a3⟩ | ⟨a1, a2, a3, a4, a5⟩ | ⟨a1, a2, a3, a4, a5⟩ | ⟨a1, a2, a3, a4, a5⟩ | ⟨a1, a2, a3, a4, a5, a6⟩ | ⟨a1, a2, a3, a4, a5 | a5, a6⟩ | ⟨a1, a2, a3, a4⟩ | ⟨a1, a2, a3, a4, a5⟩ | ⟨a1, a2, a3, a4⟩ | ⟨a1, a2, a3, a4⟩
  · clear y0
    go_enter Try.func16, Try.ntmps16
    go_wp2
    go_ret
    exact ⟨ret_int (cl_one a1).symm, rfl⟩
  · clear y0
    subst a1
    go_enter Try.func16, Try.ntmps16
    go_wp2
    go_ret
    exact ⟨ret_int (cl_nolead (by omega) (by omega)).symm, rfl⟩
  · clear y0
    subst a1
    go_enter Try.func16, Try.ntmps16
    go_wp2
    go_ret
    exact ⟨ret_int (cl_nolead (by omega) (by omega)).symm, rfl⟩
  · clear y0
    subst a3
    go_enter Try.func16, Try.ntmps16
    go_wp2
    go_ret
    exact ⟨ret_int (cl_nolead (by omega) (by omega)).symm, rfl⟩
  all_goals
    have hy' := hy (by omega)
    have y1 := y0 (by omega)
    clear y0 hy
    try (have a4a := Int.le_of_eq a4; have a4b := Int.le_of_eq a4.symm; clear a4)
    obtain ⟨Blt, qlt⟩ : ∃ B, decide (x < 128) = B := ⟨_, rfl⟩
    first | (have hh : Blt = true := (by rw [← qlt]; apply decide_eq_true; omega); subst hh) | (have hh : Blt = false := (by rw [← qlt]; apply decide_eq_false; omega); subst hh)
    obtain ⟨Bn2, qn2⟩ : ∃ B, decide ((n : Int) < 2) = B := ⟨_, rfl⟩
    first | (have hh : Bn2 = true := (by rw [← qn2]; apply decide_eq_true; omega); subst hh) | (have hh : Bn2 = false := (by rw [← qn2]; apply decide_eq_false; omega); subst hh)
    obtain ⟨By64, qy64⟩ : ∃ B, decide ((64 : Int) ≤ y) = B := ⟨_, rfl⟩
    first | (have hh : By64 = true := (by rw [← qy64]; apply decide_eq_true; omega); subst hh) | (have hh : By64 = false := (by rw [← qy64]; apply decide_eq_false; omega); subst hh)
    obtain ⟨By254, qy254⟩ : ∃ B, decide (y ≤ 254) = B := ⟨_, rfl⟩
    first | (have hh : By254 = true := (by rw [← qy254]; apply decide_eq_true; omega); subst hh) | (have hh : By254 = false := (by rw [← qy254]; apply decide_eq_false; omega); subst hh)
    obtain ⟨Bn4, qn4⟩ : ∃ B, decide ((4 : Int) ≤ (n : Int)) = B := ⟨_, rfl⟩
    first | (have hh : Bn4 = true := (by rw [← qn4]; apply decide_eq_true; omega); subst hh) | (have hh : Bn4 = false := (by rw [← qn4]; apply decide_eq_false; omega); subst hh) | clear qn4 Bn4
    obtain ⟨By48, qy48⟩ : ∃ B, decide ((48 : Int) ≤ y) = B := ⟨_, rfl⟩
    first | (have hh : By48 = true := (by rw [← qy48]; apply decide_eq_true; omega); subst hh) | (have hh : By48 = false := (by rw [← qy48]; apply decide_eq_false; omega); subst hh)
    obtain ⟨By57, qy57⟩ : ∃ B, decide (y ≤ 57) = B := ⟨_, rfl⟩
    first | (have hh : By57 = true := (by rw [← qy57]; apply decide_eq_true; omega); subst hh) | (have hh : By57 = false := (by rw [← qy57]; apply decide_eq_false; omega); subst hh)
    have qa : (x == 128) = false := by simp; omega
    have qb : (x == 255) = false := by simp; omega
    obtain ⟨By, qy⟩ : ∃ B, (y != 127) = B := ⟨_, rfl⟩
    first | (have hh : By = true := (by rw [← qy]; simp; omega); subst hh) | (have hh : By = false := (by rw [← qy]; simp; omega); subst hh)
    go_enter Try.func16, Try.ntmps16
    go_wp2
    all_goals go_ret
    all_goals first
      | exact ⟨ret_int (cl_two (by omega) (by omega) (by omega) (by omega) (by omega) (by omega)).symm, rfl⟩
      | exact ⟨ret_int (cl_four (by omega) (by omega) (by omega) (by omega) (by omega)).symm, rfl⟩
      | exact ⟨ret_int (cl_none (by omega) (by omega) (by omega)).symm, rfl⟩

set_option maxHeartbeats 400000 in
theorem zzcl_any (b n c : Nat) (x y : Int) (w : World) (hn : 1 ≤ n) (hn2 : n ≤ 1048576) (hx : w.cell? ⟨b, 0, none⟩ = some (.int .u8 x)) (hy : 2 ≤ n → w.cell? ⟨b, 1, none⟩ = some (.int .u8 y)) (x0 : 0 ≤ x) (x1 : x ≤ 255) (y0 : 2 ≤ n → 0 ≤ y ∧ y ≤ 255) :
    Calls Try.prog 8 #[.slice (some ⟨b, 0, none⟩) n c] w (ClPost n x y w) := by
  have H := hide (cl_any b n c x y w hn hn2 hx hy x0 x1 y0)
  clear hx hy y0
  go_enter Try.func8, Try.ntmps8
  go_wp2_with fail
  refine H.out.mono ?_
  rintro e w' ⟨rfl, rfl⟩
  go_wp2_with fail
  go_ret
  exact ⟨rfl, rfl⟩

set_option maxHeartbeats 1000000 in
theorem model_any (b n c : Nat) (x y : Int) (w : World) (hn : 1 ≤ n) (hn2 : n ≤ 1048576) (hx : w.cell? ⟨b, 0, none⟩ = some (.int .u8 x)) (hy : 2 ≤ n → w.cell? ⟨b, 1, none⟩ = some (.int .u8 y)) (x0 : 0 ≤ x) (x1 : x ≤ 255) (y0 : 2 ≤ n → 0 ≤ y ∧ y ≤ 255) :
    Calls Try.prog 9 #[.slice (some ⟨b, 0, none⟩) n c] w (ClPost n x y w) := by
  by_cases c1 : x < 128
  · clear y0
    go_enter Try.func9, Try.ntmps9
    go_wp2_with fail
    go_ret
    exact ⟨ret_int (cl_one c1).symm, rfl⟩
  cases hl : leadB x with
  | false =>
    have hl' := of_decide_eq_false hl
    have hcl : cl n x y = 0 := cl_nolead (by omega) (by omega)
    have HC := hide hcl
    clear y0 hcl hl'
    go_enter Try.func9, Try.ntmps9
    go_wp2_with fail
    refine (lead_any x _).mono ?_
    rw [hl]
    rintro e w' ⟨rfl, rfl⟩
    go_wp2_with fail
    go_ret
    exact ⟨ret_int HC.out.symm, rfl⟩
  | true =>
    have hl' := of_decide_eq_true hl
    by_cases c2 : n < 2
    · have HC := hide (cl_nolead (n := n) (x := x) (y := y) (by omega) (by omega))
      clear y0 hl'
      go_enter Try.func9, Try.ntmps9
      go_wp2_with fail
      refine (lead_any x _).mono ?_
      rw [hl]
      rintro e w' ⟨rfl, rfl⟩
      go_wp2_with fail
      go_ret
      exact ⟨ret_int HC.out.symm, rfl⟩
    have hy' := hy (by omega)
    have y1 := y0 (by omega)
    clear hy y0
    cases ht : trailB y with
    | true =>
      have ht' := of_decide_eq_true ht
      have HC := hide (cl_two (n := n) (x := x) (y := y) (by omega) (by omega) (by omega) (by omega) (by omega) (by omega))
      clear hl' ht'
      go_enter Try.func9, Try.ntmps9
      go_wp2_with fail
      refine (lead_any x _).mono ?_
      rw [hl]
      rintro e w' ⟨rfl, rfl⟩
      go_wp2_with fail
      refine (trail_any y _).mono ?_
      rw [ht]
      rintro e w' ⟨rfl, rfl⟩
      go_wp2_with fail
      go_ret
      exact ⟨ret_int HC.out.symm, rfl⟩
    | false =>
      have ht' := of_decide_eq_false ht
      cases hd : digitB y with
      | false =>
        have hd' := of_decide_eq_false hd
        have HC := hide (cl_none (n := n) (x := x) (y := y) (by omega) ht' (by omega))
        clear hl' ht' hd'
        go_enter Try.func9, Try.ntmps9
        go_wp2_with fail
        refine (lead_any x _).mono ?_
        rw [hl]
        rintro e w' ⟨rfl, rfl⟩
        go_wp2_with fail
        refine (trail_any y _).mono ?_
        rw [ht]
        rintro e w' ⟨rfl, rfl⟩
        go_wp2_with fail
        refine (digit_any y _).mono ?_
        rw [hd]
        rintro e w' ⟨rfl, rfl⟩
        go_wp2_with fail
        go_ret
        exact ⟨ret_int HC.out.symm, rfl⟩
      | true =>
        have hd' := of_decide_eq_true hd
        by_cases c4 : 4 ≤ n
        · have HC := hide (cl_four (n := n) (x := x) (y := y) (by omega) (by omega) (by omega) (by omega) (by omega))
          clear hl' ht' hd'
          go_enter Try.func9, Try.ntmps9
          go_wp2_with fail
          refine (lead_any x _).mono ?_
          rw [hl]
          rintro e w' ⟨rfl, rfl⟩
          go_wp2_with fail
          refine (trail_any y _).mono ?_
          rw [ht]
          rintro e w' ⟨rfl, rfl⟩
          go_wp2_with fail
          refine (digit_any y _).mono ?_
          rw [hd]
          rintro e w' ⟨rfl, rfl⟩
          go_wp2_with fail
          go_ret
          exact ⟨ret_int HC.out.symm, rfl⟩
        · have HC := hide (cl_none (n := n) (x := x) (y := y) (by omega) ht' (by omega))
          clear hl' ht' hd'
          go_enter Try.func9, Try.ntmps9
          go_wp2_with fail
          refine (lead_any x _).mono ?_
          rw [hl]
          rintro e w' ⟨rfl, rfl⟩
          go_wp2_with fail
          refine (trail_any y _).mono ?_
          rw [ht]
          rintro e w' ⟨rfl, rfl⟩
          go_wp2_with fail
          refine (digit_any y _).mono ?_
          rw [hd]
          rintro e w' ⟨rfl, rfl⟩
          go_wp2_with fail
          go_ret
          exact ⟨ret_int HC.out.symm, rfl⟩

end Go.Proofs.Qxb6003229a
