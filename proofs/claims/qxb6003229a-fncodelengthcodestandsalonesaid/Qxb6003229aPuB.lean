import Derived.Test.Qxb6003229aPuA
namespace Go.Proofs.Qxb6003229a
open Go.RowKit

set_option maxHeartbeats 400000 in
theorem trail_any (c : Int) (w : World) : Calls Try.prog 12 #[.int .u8 c] w fun e w' => e = .returned (.bool (trailB c)) ∧ w' = w := by
  rcases (show (64 ≤ c ∧ c ≤ 254 ∧ c ≠ 127) ∨ c < 64 ∨ 254 < c ∨ c = 127 by omega) with ⟨c1, c2, c3⟩ | c1 | c1 | c1
  · have hb : (c != 127) = true := by simpa using c3
    go_enter Try.func12, Try.ntmps12
    go_wp2
    go_ret
    exact ⟨congrArg _ (bool_eq (decide_eq_true (show 64 ≤ c ∧ c ≤ 254 ∧ c ≠ 127 by omega)).symm), rfl⟩
  · go_enter Try.func12, Try.ntmps12
    go_wp2
    go_ret
    exact ⟨congrArg _ (bool_eq (decide_eq_false (show ¬ (64 ≤ c ∧ c ≤ 254 ∧ c ≠ 127) by omega)).symm), rfl⟩
  · go_enter Try.func12, Try.ntmps12
    go_wp2
    go_ret
    exact ⟨congrArg _ (bool_eq (decide_eq_false (show ¬ (64 ≤ c ∧ c ≤ 254 ∧ c ≠ 127) by omega)).symm), rfl⟩
  · subst c1
    go_enter Try.func12, Try.ntmps12
    go_wp2
    go_ret
    exact ⟨rfl, rfl⟩

/-- The code point and whether there is one, of the two bytes f, s. -/
def puPost (f s : Int) (w : World) (e : Ending) (w' : World) : Prop := e = .returned (.tuple #[.int .i32 (puR f s), .bool (puB f s)]) ∧ ∃ k, w' = w.drewN k

set_option maxHeartbeats 1000000 in
theorem pu_two (b c : Nat) (f s : Int) (w : World) (hf : w.cell? ⟨b, 0, none⟩ = some (.int .u8 f)) (hs : w.cell? ⟨b, 1, none⟩ = some (.int .u8 s)) (f0 : 0 ≤ f) (f1 : f ≤ 255) (s0 : 64 ≤ s) (s1 : s ≤ 255) :
    Calls Try.prog 18 #[.slice (some ⟨b, 0, none⟩) 2 c] w (puPost f s w) := by
  rcases (show (170 ≤ f ∧ f ≤ 175 ∧ 161 ≤ s) ∨ (248 ≤ f ∧ 161 ≤ s) ∨ (161 ≤ f ∧ f ≤ 167 ∧ s ≤ 160 ∧ 127 < s) ∨ (161 ≤ f ∧ f ≤ 167 ∧ s ≤ 127) ∨ (f < 161 ∧ s ≤ 160) ∨ (167 < f ∧ f < 170 ∧ s ≤ 160) ∨ (170 ≤ f ∧ f ≤ 175 ∧ s ≤ 160) ∨ (175 < f ∧ f < 248 ∧ s ≤ 160) ∨ (248 ≤ f ∧ s ≤ 160) ∨ (f < 161 ∧ 161 ≤ s) ∨ (161 ≤ f ∧ f ≤ 167 ∧ 161 ≤ s) ∨ (167 < f ∧ f < 170 ∧ 161 ≤ s) ∨ (175 < f ∧ f < 248 ∧ 161 ≤ s) by omega)
    with ⟨a1, a2, a3⟩ | ⟨a1, a2⟩ | ⟨a1, a2, a3, a4⟩ | ⟨a1, a2, a3⟩ | ⟨a1, a2⟩ | ⟨a1, a2, a3⟩ | ⟨a1, a2, a3⟩ | ⟨a1, a2, a3⟩ | ⟨a1, a2⟩ | ⟨a1, a2⟩ | ⟨a1, a2, a3⟩ | ⟨a1, a2, a3⟩ | ⟨a1, a2, a3⟩
  all_goals
    go_enter Try.func18, Try.ntmps18
    go_wp2
    go_quiet (fail)
    go_wp2
    go_ret2
    refine ⟨ret_two (int_eq ?_) (bool_eq ?_), ⟨_, rfl⟩⟩
    · simp only [puR]
      first
        | (rw [if_pos (by omega)])
        | (rw [if_neg (by omega), if_pos (by omega)])
        | (rw [if_neg (by omega), if_neg (by omega), if_pos (by omega), if_pos (by omega)]; done)
        | (rw [if_neg (by omega), if_neg (by omega), if_pos (by omega), if_neg (by omega)])
        | (rw [if_neg (by omega), if_neg (by omega), if_neg (by omega)])
    · first
        | exact (decide_eq_true (by omega)).symm
        | exact (decide_eq_false (by omega)).symm

end Go.Proofs.Qxb6003229a
