import Derived.Test.Qxb6003229aPuB
namespace Go.Proofs.Qxb6003229a
open Go.RowKit

theorem en_bounds (r : Int) (h1 : 57344 ≤ r) (h2 : r ≤ 59237) : 129 ≤ enF r ∧ enF r ≤ 254 ∧ 64 ≤ enS r ∧ enS r ≤ 254 ∧ enS r ≠ 127 := by
  unfold enF enS
  split
  · omega
  · split
    · omega
    · split <;> omega

theorem lead_en (r : Int) (h1 : 57344 ≤ r) (h2 : r ≤ 59237) : leadB (enF r) = true := by
  have := en_bounds r h1 h2
  exact decide_eq_true (by omega)
theorem trail_en (r : Int) (h1 : 57344 ≤ r) (h2 : r ≤ 59237) : trailB (enS r) = true := by
  have := en_bounds r h1 h2
  exact decide_eq_true (by omega)

/-- The three areas, as equations: which code point a code stands for. -/
theorem en_areas (r : Int) (h1 : 57344 ≤ r) (h2 : r ≤ 59237) :
    (170 ≤ enF r ∧ enF r ≤ 175 ∧ 161 ≤ enS r ∧ 57344 + (enF r - 170) * 94 + enS r - 161 = r) ∨ (248 ≤ enF r ∧ enF r ≤ 254 ∧ 161 ≤ enS r ∧ 57908 + (enF r - 248) * 94 + enS r - 161 = r) ∨
    (161 ≤ enF r ∧ enF r ≤ 167 ∧ enS r ≤ 160 ∧ 64 ≤ enS r ∧ ((127 < enS r ∧ 58566 + (enF r - 161) * 96 + (enS r - 64 - 1) = r) ∨ (enS r < 127 ∧ 58566 + (enF r - 161) * 96 + (enS r - 64) = r))) := by
  unfold enF enS
  split
  · omega
  · split
    · omega
    · split <;> omega

theorem pu_en (r : Int) (h1 : 57344 ≤ r) (h2 : r ≤ 59237) : puR (enF r) (enS r) = r ∧ puB (enF r) (enS r) = true := by
  have h := en_areas r h1 h2
  refine ⟨?_, decide_eq_true (by omega)⟩
  unfold puR
  rcases h with ⟨a1, a2, a3, a4⟩ | ⟨a1, a2, a3, a4⟩ | ⟨a1, a2, a3, a4, ⟨a5, a6⟩ | ⟨a5, a6⟩⟩
  · rw [if_pos (by omega)]; exact a4
  · rw [if_neg (by omega), if_pos (by omega)]; exact a4
  · rw [if_neg (by omega), if_neg (by omega), if_pos (by omega), if_pos (by omega)]; exact a6
  · rw [if_neg (by omega), if_neg (by omega), if_pos (by omega), if_neg (by omega)]; exact a6

theorem grown_drewN {w w' : World} (k : Nat) (h : Grown w w') : Grown w (w'.drewN k) := by
  induction k with
  | zero => exact h
  | succ k ih => exact ih.drew

theorem hide {p : Prop} (h : p) : Hid p := h

set_option maxHeartbeats 400000 in
theorem zzpu_two (b c : Nat) (f s : Int) (w : World) (hf : w.cell? ⟨b, 0, none⟩ = some (.int .u8 f)) (hs : w.cell? ⟨b, 1, none⟩ = some (.int .u8 s)) (f0 : 0 ≤ f) (f1 : f ≤ 255) (s0 : 64 ≤ s) (s1 : s ≤ 255) :
    Calls Try.prog 13 #[.slice (some ⟨b, 0, none⟩) 2 c] w (puPost f s w) := by
  go_enter Try.func13, Try.ntmps13
  go_wp2_with fail
  refine (pu_two b c f s _ hf hs f0 f1 s0 s1).mono ?_
  rintro e w' ⟨rfl, k, rfl⟩
  go_wp2
  go_ret2
  exact ⟨rfl, ⟨_, rfl⟩⟩

set_option maxHeartbeats 400000 in
theorem inverts (r : Int) (w : World) : Calls Try.prog 5 #[.int .i32 r] w fun e w' => e = .returned (.bool true) ∧ Grown w w' := by
  rcases (show r < 57344 ∨ 59237 < r ∨ (57344 ≤ r ∧ r ≤ 59237) by omega) with h | h | ⟨h1, h2⟩
  · go_enter Try.func5, Try.ntmps5
    go_wp2_with fail
    go_ret
    exact ⟨rfl, Grown.refl _⟩
  · go_enter Try.func5, Try.ntmps5
    go_wp2_with fail
    go_ret
    exact ⟨rfl, Grown.refl _⟩
  · have hb := en_bounds r h1 h2
    have hl := lead_en r h1 h2
    have ht := trail_en r h1 h2
    obtain ⟨e1, e2⟩ := pu_en r h1 h2
    obtain ⟨b1, b2, b3, b4, b5⟩ := hb
    obtain ⟨F, hF⟩ : ∃ F, F = enF r := ⟨_, rfl⟩
    obtain ⟨S, hS⟩ : ∃ S, S = enS r := ⟨_, rfl⟩
    have henc := enc_any r w h1 h2
    rw [← hF, ← hS] at henc
    rw [← hF] at hl b1 b2 e1 e2
    rw [← hS] at ht b3 b4 b5 e1 e2
    have HE := hide henc
    have H1 := hide e1
    have H2 := hide e2
    clear hF hS henc e1 e2
    go_enter Try.func5, Try.ntmps5
    go_wp2_with fail
    refine HE.out.mono ?_
    rintro e w' ⟨rfl, rfl⟩
    go_wp2_with fail
    refine (lead_any F _).mono ?_
    rw [hl]
    rintro e w' ⟨rfl, rfl⟩
    go_wp2_with fail
    refine (trail_any S _).mono ?_
    rw [ht]
    rintro e w' ⟨rfl, rfl⟩
    go_wp2_with fail
    refine (zzpu_two _ 2 F S _ (by simp) (by simp) (by omega) (by omega) (by omega) (by omega)).mono ?_
    unfold puPost
    rw [H1.out, H2.out]
    rintro e w' ⟨rfl, k, rfl⟩
    go_wp2_with fail
    go_ret
    exact ⟨rfl, grown_drewN _ ((Grown.refl _).alloc _ _)⟩
end Go.Proofs.Qxb6003229a
