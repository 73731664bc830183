import Derived.Test.Qxb6003229aMa
namespace Go.Proofs.Qxb6003229a
open Go.RowKit

theorem below_drewN {B : Nat} {a w : World} (k : Nat) (h : Below B a w) : Below B a (w.drewN k) := by
  induction k with
  | zero => exact h
  | succ k ih => exact ih.drew

theorem lead_false {c : Int} (h : leadB c = false) : ¬ (129 ≤ c ∧ c ≤ 254) := of_decide_eq_false h
theorem lead_true {c : Int} (h : leadB c = true) : 129 ≤ c ∧ c ≤ 254 := of_decide_eq_true h
theorem trail_true {c : Int} (h : trailB c = true) : 64 ≤ c ∧ c ≤ 254 ∧ c ≠ 127 := of_decide_eq_true h

set_option maxHeartbeats 1000000 in
theorem matches_main (ao : Option Addr) (b off n c : Nat) (hao : 0 < n → ao = some ⟨b, off, none⟩) (z : Nat → Int) (w : World) (hn : n ≤ maxLen) (h : BytesAt w b off n z) :
    Calls Try.prog 4 #[.slice ao n c] w fun e w' => e = .returned (.bool true) ∧ Below w.heap.size w w' := by
  have hn' := hn
  unfold maxLen at hn'
  go_enter Try.func4, Try.ntmps4
  go_wp2_with fail
  refine (zzBytes10 ao n c _ hn).mono ?_
  rintro e w' ⟨r, rfl, rfl⟩
  cases r with
  | false =>
    go_wp2_with fail
    go_ret
    exact ⟨rfl, Below.refl _ _⟩
  | true =>
  by_cases hbig : (1048576 : Int) < (n : Int)
  · go_wp2_with fail
    go_ret
    exact ⟨rfl, Below.refl _ _⟩
  by_cases h2 : n = 2
  · subst h2
    obtain ⟨c0, z0, z0'⟩ := h 0 (by omega)
    obtain ⟨c1, z1, z1'⟩ := h 1 (by omega)
    rw [Nat.add_zero] at c0
    obtain rfl := hao (by omega)
    cases hl : leadB (z 0) with
    | false =>
      go_wp2_with fail
      refine (lead_any (z 0) _).mono ?_
      rw [hl]
      rintro e w' ⟨rfl, rfl⟩
      go_wp2_with fail
      go_ret
      exact ⟨rfl, Below.refl _ _⟩
    | true =>
    cases ht : trailB (z 1) with
    | false =>
      go_wp2_with fail
      refine (lead_any (z 0) _).mono ?_
      rw [hl]
      rintro e w' ⟨rfl, rfl⟩
      go_wp2_with fail
      refine (trail_any (z 1) _).mono ?_
      rw [ht]
      rintro e w' ⟨rfl, rfl⟩
      go_wp2_with fail
      go_ret
      exact ⟨rfl, Below.refl _ _⟩
    | true =>
      go_wp2_with fail
      refine (lead_any (z 0) _).mono ?_
      rw [hl]
      rintro e w' ⟨rfl, rfl⟩
      go_wp2_with fail
      refine (trail_any (z 1) _).mono ?_
      rw [ht]
      rintro e w' ⟨rfl, rfl⟩
      go_wp2_with fail
      refine (cloneBytes _ b off 2 c (fun _ => rfl) z _ (by omega) h).mono ?_
      rintro e w1 ⟨ac, rfl, hac, hrow, hb1⟩
      obtain rfl := hac (by omega)
      have r := hrow (by omega)
      have d0 := r.cell (i := 0) (by omega)
      have d1 := r.cell (i := 1) (by omega)
      obtain ⟨l1, l2⟩ := lead_true hl
      obtain ⟨t1, t2, t3⟩ := trail_true ht
      have HT := hide t3
      clear t3 r hrow hl ht c0 c1 hac hao h hbig
      go_wp2_with fail
      refine (zzpu_two _ 2 (z 0) (z 1) _ d0 d1 (by omega) (by omega) (by omega) (by omega)).mono ?_
      rintro e w2 ⟨rfl, k, rfl⟩
      go_wp2_with fail
      refine (model_two _ 2 (z 0) (z 1) _ (by simpa using d0) (by simpa using d1) (by omega) (by omega) (by omega) HT.out).mono ?_
      rintro e w2 ⟨rfl, rfl⟩
      go_wp2_with fail
      go_ret
      exact ⟨rfl, below_drewN _ hb1⟩
  · have hne : ((n : Int) != 2) = true := by simp; omega
    have heq : ((n : Int) == 2) = false := by simp; omega
    have H2 := hide h2
    clear h2
    go_wp2_with fail
    refine (cloneBytes ao b off n c hao z _ (by omega) h).mono ?_
    rintro e w1 ⟨ac, rfl, hac, hrow, hb1⟩
    go_wp2_with fail
    refine (pu_other ac n n _ hne).mono ?_
    rintro e w2 ⟨rfl, rfl⟩
    go_wp2_with fail
    refine (model_other ac n n _ hne).mono ?_
    rintro e w2 ⟨rfl, rfl⟩
    go_wp2_with fail
    go_ret
    exact ⟨rfl, hb1⟩

end Go.Proofs.Qxb6003229a
