import Derived.Test.Qxb6003229aClB
namespace Go.Proofs.Qxb6003229a
open Go.RowKit

/-- The four answers, and what the two shorter cuts answer. -/
theorem cl_cases (n : Nat) (x y : Int) :
    cl n x y = 0 ∨ (cl n x y = 1 ∧ cl 1 x y = 1) ∨ (cl n x y = 2 ∧ 2 ≤ n ∧ cl 2 x y = 2 ∧ cl 1 x y = 0) ∨ (cl n x y = 4 ∧ 4 ≤ n ∧ cl 4 x y = 4 ∧ cl 3 x y = 0) := by
  by_cases h1 : x < 128
  · exact .inr (.inl ⟨cl_one h1, cl_one h1⟩)
  by_cases h2 : x = 128 ∨ x = 255 ∨ n < 2
  · exact .inl (cl_nolead (by omega) h2)
  by_cases h3 : 64 ≤ y ∧ y ≤ 254 ∧ y ≠ 127
  · refine .inr (.inr (.inl ⟨?_, by omega, ?_, cl_nolead (by omega) (by omega)⟩))
    · unfold cl; rw [if_neg h1, if_neg h2, if_pos h3]
    · unfold cl; rw [if_neg h1, if_neg (by omega), if_pos h3]
  by_cases h4 : 4 ≤ n ∧ 48 ≤ y ∧ y ≤ 57
  · refine .inr (.inr (.inr ⟨?_, h4.1, ?_, ?_⟩))
    · unfold cl; rw [if_neg h1, if_neg h2, if_neg h3, if_pos h4]
    · unfold cl; rw [if_neg h1, if_neg (by omega), if_neg h3, if_pos (by omega)]
    · unfold cl; rw [if_neg h1, if_neg (by omega), if_neg h3, if_neg (by omega)]
  · refine .inl ?_
    unfold cl; rw [if_neg h1, if_neg h2, if_neg h3, if_neg h4]

set_option maxHeartbeats 1000000 in
theorem alone_main (ao : Option Addr) (b off n c : Nat) (hao : 0 < n → ao = some ⟨b, off, none⟩) (z : Nat → Int) (w : World) (hn : n ≤ maxLen) (h : BytesAt w b off n z) :
    Calls Try.prog 3 #[.slice ao n c] w fun e w' => e = .returned (.bool true) ∧ Below w.heap.size w w' := by
  have hn' := hn
  unfold maxLen at hn'
  go_enter Try.func3, Try.ntmps3
  go_wp2_with fail
  refine (zzBytes6 ao n c _ hn).mono ?_
  rintro e w' ⟨r, rfl, rfl⟩
  cases r with
  | false =>
    go_wp2_with fail
    go_ret
    exact ⟨rfl, Below.refl _ _⟩
  | true =>
  by_cases hbig : (1048576 : Int) < (n : Int)
  · go_wp2_with fail
    go_ret
    exact ⟨rfl, Below.refl _ _⟩
  by_cases h0 : n = 0
  · have t0 : ((n : Int) == 0) = true := by simp; exact h0
    clear h0
    go_wp2_with fail
    go_ret
    exact ⟨rfl, Below.refl _ _⟩
  have t0 : ((n : Int) == 0) = false := by simp; exact h0
  have hpos : 1 ≤ n := by omega
  have hn3 : n ≤ 1048576 := by omega
  have HZ := hide (And.intro (h 0 (by omega)).2 (fun h2 : 2 ≤ n => (h 1 (by omega)).2))
  clear h0
  go_wp2_with fail
  refine (cloneBytes ao b off n c hao z _ (by omega) h).mono ?_
  rintro e w1 ⟨ac, rfl, hac, hrow, hb1⟩
  obtain rfl := hac (by omega)
  have r := hrow (by omega)
  have d0 := r.cell (i := 0) (by omega)
  have d1 : 2 ≤ n → w1.cell? ⟨w'.heap.size, 1, none⟩ = some (.int .u8 (z 1)) := fun h2 => r.cell (i := 1) (by omega)
  obtain ⟨x, hx⟩ : ∃ x, x = z 0 := ⟨_, rfl⟩
  obtain ⟨y, hy⟩ : ∃ y, y = z 1 := ⟨_, rfl⟩
  obtain ⟨⟨x0, x1⟩, yb⟩ := HZ.out
  rw [← hx] at d0 x0 x1
  rw [← hy] at d1 yb
  have HD := hide (And.intro d0 (And.intro d1 yb))
  have hall : ∀ k cc, 1 ≤ k → k ≤ n → Calls Try.prog 8 #[.slice (some ⟨w'.heap.size, 0, none⟩) k cc] w1 (ClPost k x y w1) := fun k cc k1 k2 =>
    zzcl_any _ k cc x y w1 k1 (by omega) HD.out.1 (fun h2 => HD.out.2.1 (by omega)) x0 x1 (fun h2 => HD.out.2.2 (by omega))
  have hmod : Calls Try.prog 9 #[.slice (some ⟨w'.heap.size, 0, none⟩) n n] w1 (ClPost n x y w1) := model_any _ n n x y w1 hpos (by omega) HD.out.1 HD.out.2.1 x0 x1 HD.out.2.2
  have hcs := cl_cases n x y
  have HA := hide (And.intro hall hmod)
  clear hall hmod HD HZ d0 d1 yb hx hy r hrow hac hao h hbig x0 x1 hn hn'
  rcases hcs with e1 | ⟨e1, e2⟩ | ⟨e1, e0, e2, e3⟩ | ⟨e1, e0, e2, e3⟩
  · have H1 := hide e1
    clear e1
    go_wp2_with fail
    refine (HA.out.1 n n hpos (Nat.le_refl _)).mono ?_
    unfold ClPost
    rw [H1.out]
    rintro e w2 ⟨rfl, rfl⟩
    go_wp2_with fail
    refine HA.out.2.mono ?_
    unfold ClPost
    rw [H1.out]
    rintro e w2 ⟨rfl, rfl⟩
    go_wp2_with fail
    go_ret
    exact ⟨rfl, hb1⟩
  · have H1 := hide e1
    have H2 := hide e2
    clear e1 e2
    go_wp2_with fail
    refine (HA.out.1 n n hpos (Nat.le_refl _)).mono ?_
    unfold ClPost
    rw [H1.out]
    rintro e w2 ⟨rfl, rfl⟩
    go_wp2_with fail
    refine HA.out.2.mono ?_
    unfold ClPost
    rw [H1.out]
    rintro e w2 ⟨rfl, rfl⟩
    go_wp2_with fail
    refine (HA.out.1 1 n (by omega) (by omega)).mono ?_
    unfold ClPost
    rw [H2.out]
    rintro e w2 ⟨rfl, rfl⟩
    go_wp2_with fail
    go_ret
    exact ⟨rfl, hb1⟩
  · have H1 := hide e1
    have H2 := hide e2
    have H3 := hide e3
    clear e1 e2 e3
    go_wp2_with fail
    refine (HA.out.1 n n hpos (Nat.le_refl _)).mono ?_
    unfold ClPost
    rw [H1.out]
    rintro e w2 ⟨rfl, rfl⟩
    go_wp2_with fail
    refine HA.out.2.mono ?_
    unfold ClPost
    rw [H1.out]
    rintro e w2 ⟨rfl, rfl⟩
    go_wp2_with fail
    refine (HA.out.1 2 n (by omega) (by omega)).mono ?_
    unfold ClPost
    rw [H2.out]
    rintro e w2 ⟨rfl, rfl⟩
    go_wp2_with fail
    refine (HA.out.1 1 n (by omega) (by omega)).mono ?_
    unfold ClPost
    rw [H3.out]
    rintro e w2 ⟨rfl, rfl⟩
    go_wp2_with fail
    go_ret
    exact ⟨rfl, hb1⟩
  · have H1 := hide e1
    have H2 := hide e2
    have H3 := hide e3
    clear e1 e2 e3
    go_wp2_with fail
    refine (HA.out.1 n n hpos (Nat.le_refl _)).mono ?_
    unfold ClPost
    rw [H1.out]
    rintro e w2 ⟨rfl, rfl⟩
    go_wp2_with fail
    refine HA.out.2.mono ?_
    unfold ClPost
    rw [H1.out]
    rintro e w2 ⟨rfl, rfl⟩
    go_wp2_with fail
    refine (HA.out.1 4 n (by omega) (by omega)).mono ?_
    unfold ClPost
    rw [H2.out]
    rintro e w2 ⟨rfl, rfl⟩
    go_wp2_with fail
    refine (HA.out.1 3 n (by omega) (by omega)).mono ?_
    unfold ClPost
    rw [H3.out]
    rintro e w2 ⟨rfl, rfl⟩
    go_wp2_with fail
    go_ret
    exact ⟨rfl, hb1⟩

end Go.Proofs.Qxb6003229a
