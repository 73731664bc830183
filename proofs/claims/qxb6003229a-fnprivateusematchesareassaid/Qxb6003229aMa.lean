import Derived.Test.Qxb6003229aBy
namespace Go.Proofs.Qxb6003229a
open Go.RowKit

theorem en_pu (f s : Int) (f1 : f ≤ 254) (s0 : 64 ≤ s) (s1 : s ≤ 254) (s2 : s ≠ 127) (h : puB f s = true) :
    57344 ≤ puR f s ∧ puR f s ≤ 59237 ∧ enF (puR f s) = f ∧ enS (puR f s) = s := by
  have h' := of_decide_eq_true h
  rcases (show (170 ≤ f ∧ f ≤ 175 ∧ 161 ≤ s) ∨ (248 ≤ f ∧ 161 ≤ s) ∨ (161 ≤ f ∧ f ≤ 167 ∧ s ≤ 160 ∧ 127 < s) ∨ (161 ≤ f ∧ f ≤ 167 ∧ s < 127) by omega) with ⟨a1, a2, a3⟩ | ⟨a1, a2⟩ | ⟨a1, a2, a3, a4⟩ | ⟨a1, a2, a3⟩
  · have e : puR f s = 57344 + (f - 170) * 94 + s - 161 := by unfold puR; rw [if_pos (by omega)]
    rw [e]
    refine ⟨by omega, by omega, ?_, ?_⟩
    · unfold enF; rw [if_pos (by omega)]; omega
    · unfold enS; rw [if_pos (by omega)]; omega
  · have e : puR f s = 57908 + (f - 248) * 94 + s - 161 := by unfold puR; rw [if_neg (by omega), if_pos (by omega)]
    rw [e]
    refine ⟨by omega, by omega, ?_, ?_⟩
    · unfold enF; rw [if_neg (by omega), if_pos (by omega)]; omega
    · unfold enS; rw [if_neg (by omega), if_pos (by omega)]; omega
  · have e : puR f s = 58566 + (f - 161) * 96 + (s - 64 - 1) := by unfold puR; rw [if_neg (by omega), if_neg (by omega), if_pos (by omega), if_pos (by omega)]
    rw [e]
    refine ⟨by omega, by omega, ?_, ?_⟩
    · unfold enF; rw [if_neg (by omega), if_neg (by omega)]; omega
    · unfold enS; rw [if_neg (by omega), if_neg (by omega), if_pos (by omega)]; omega
  · have e : puR f s = 58566 + (f - 161) * 96 + (s - 64) := by unfold puR; rw [if_neg (by omega), if_neg (by omega), if_pos (by omega), if_neg (by omega)]
    rw [e]
    refine ⟨by omega, by omega, ?_, ?_⟩
    · unfold enF; rw [if_neg (by omega), if_neg (by omega)]; omega
    · unfold enS; rw [if_neg (by omega), if_neg (by omega), if_neg (by omega)]; omega

theorem pu_none (f s : Int) (h : puB f s = false) : puR f s = 0 := by
  have h' := of_decide_eq_false h
  unfold puR
  rw [if_neg (by omega), if_neg (by omega), if_neg (by omega)]

/-- Of the code points ahead of R none has the code (f, s). -/
def NotBefore (f s R : Int) : Prop := ∀ x, 57344 ≤ x → x < R → ¬ (enF x = f ∧ enS x = s)

theorem not_start (f s : Int) : NotBefore f s 57344 := fun x h1 h2 => by omega
theorem not_next {f s R : Int} (h : NotBefore f s R) (e : ¬ (enF R = f ∧ enS R = s)) : NotBefore f s (R + 1) := by
  intro x h1 h2 h3
  by_cases hx : x = R
  · subst hx; exact e h3
  · exact h x h1 (by omega) h3
theorem found {f s R : Int} (h1 : 57344 ≤ R) (h2 : R ≤ 59237) (e1 : enF R = f) (e2 : enS R = s) : puR f s = R ∧ puB f s = true := by
  subst e1; subst e2; exact pu_en R h1 h2
theorem not_found {f s : Int} (f1 : f ≤ 254) (s0 : 64 ≤ s) (s1 : s ≤ 254) (s2 : s ≠ 127) (h : NotBefore f s 59238) : puR f s = 0 ∧ puB f s = false := by
  cases hb : puB f s with
  | false => exact ⟨pu_none f s hb, rfl⟩
  | true =>
    obtain ⟨a1, a2, a3, a4⟩ := en_pu f s f1 s0 s1 s2 hb
    exact absurd ⟨a3, a4⟩ (h _ a1 (by omega))

set_option maxHeartbeats 1000000 in
theorem model_two (b c : Nat) (f s : Int) (w : World) (hf : w.cell? ⟨b, 0, none⟩ = some (.int .u8 f)) (hs : w.cell? ⟨b, 1, none⟩ = some (.int .u8 s)) (f1 : f ≤ 254) (s0 : 64 ≤ s) (s1 : s ≤ 254) (s2 : s ≠ 127) :
    Calls Try.prog 14 #[.slice (some ⟨b, 0, none⟩) 2 c] w fun e w' => e = .returned (.tuple #[.int .i32 (puR f s), .bool (puB f s)]) ∧ w' = w := by
  have HS := hide s2
  clear s2
  go_enter Try.func14, Try.ntmps14
  go_wp2_with fail
  go_loop [4] (fun r => ∃ R : Int, 57344 ≤ R ∧ R ≤ 59238 ∧ r = .int .i32 R ∧ NotBefore f s R) (fun r => (59238 - intOf r).toNat)
  case atStart => exact ⟨57344, by omega, by omega, rfl, not_start _ _⟩
  case round =>
    obtain ⟨R, r1, r2, rfl, hnb⟩ := hrel
    have HN := hide hnb
    clear hnb
    by_cases hlt : R ≤ 59237
    · obtain ⟨F, hF⟩ : ∃ F, F = enF R := ⟨_, rfl⟩
      obtain ⟨S, hS⟩ : ∃ S, S = enS R := ⟨_, rfl⟩
      have henc := enc_any R w r1 hlt
      rw [← hF, ← hS] at henc
      have HE := hide (And.intro hF hS)
      have HC := hide henc
      clear hF hS henc
      by_cases hef : F = f
      · have HF := hide hef
        have t1 : (F == f) = true := by rw [HF.out]; simp
        clear hef
        by_cases hes : S = s
        · have HT := hide hes
          have t2 : (S == s) = true := by rw [HT.out]; simp
          clear hes
          go_wp2_with fail
          refine HC.out.mono ?_
          rintro e w' ⟨rfl, rfl⟩
          go_wp2_with fail
          go_ret2
          obtain ⟨q1, q2⟩ := found r1 hlt (HE.out.1.symm.trans HF.out) (HE.out.2.symm.trans HT.out)
          exact ⟨ret_two (int_eq q1.symm) (bool_eq q2.symm), rfl⟩
        · have HT := hide hes
          have t2 : (S == s) = false := by simpa using hes
          clear hes
          go_wp2_with fail
          refine HC.out.mono ?_
          rintro e w' ⟨rfl, rfl⟩
          go_wp2_with fail
          go_round
          case rel => exact ⟨R + 1, by omega, by omega, by go_num, not_next HN.out (fun h => HT.out (HE.out.2.trans h.2))⟩
          case measure => simp [intOf]; omega
      · have HF := hide hef
        have t1 : (F == f) = false := by simpa using hef
        clear hef
        go_wp2_with fail
        refine HC.out.mono ?_
        rintro e w' ⟨rfl, rfl⟩
        go_wp2_with fail
        go_round
        case rel => exact ⟨R + 1, by omega, by omega, by go_num, not_next HN.out (fun h => HF.out (HE.out.1.trans h.1))⟩
        case measure => simp [intOf]; omega
    · obtain rfl : R = 59238 := by omega
      obtain ⟨q1, q2⟩ := not_found f1 s0 s1 HS.out HN.out
      have H1 := hide q1
      have H2 := hide q2
      clear q1 q2
      go_wp2_with fail
      go_ret2
      exact ⟨ret_two (int_eq H1.out.symm) (bool_eq H2.out.symm), rfl⟩

set_option maxHeartbeats 400000 in
theorem model_other (ao : Option Addr) (n c : Nat) (w : World) (h : ((n : Int) != 2) = true) :
    Calls Try.prog 14 #[.slice ao n c] w fun e w' => e = .returned (.tuple #[.int .i32 0, .bool false]) ∧ w' = w := by
  go_enter Try.func14, Try.ntmps14
  go_wp2_with fail
  go_ret2
  exact ⟨rfl, rfl⟩

set_option maxHeartbeats 400000 in
theorem pu_other (ao : Option Addr) (n c : Nat) (w : World) (h : ((n : Int) != 2) = true) :
    Calls Try.prog 13 #[.slice ao n c] w fun e w' => e = .returned (.tuple #[.int .i32 0, .bool false]) ∧ w' = w := by
  go_enter Try.func13, Try.ntmps13
  go_wp2
  go_ret2
  exact ⟨rfl, rfl⟩

end Go.Proofs.Qxb6003229a
