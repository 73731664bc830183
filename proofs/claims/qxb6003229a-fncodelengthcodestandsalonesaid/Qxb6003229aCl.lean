import Derived.Test.Qxb6003229aBy
namespace Go.Proofs.Qxb6003229a
open Go.RowKit

/-- The length of the code that starts with the bytes x, y (of n bytes). -/
def cl (n : Nat) (x y : Int) : Int :=
  if x < 128 then 1 else if x = 128 ∨ x = 255 ∨ n < 2 then 0 else if 64 ≤ y ∧ y ≤ 254 ∧ y ≠ 127 then 2 else if 4 ≤ n ∧ 48 ≤ y ∧ y ≤ 57 then 4 else 0

def digitB (c : Int) : Bool := decide (48 ≤ c ∧ c ≤ 57)

theorem ret_int {k : IntKind} {a b : Int} (h : a = b) : Ending.returned (.int k a) = .returned (.int k b) := by rw [h]

set_option maxHeartbeats 400000 in
theorem digit_any (c : Int) (w : World) : Calls Try.prog 17 #[.int .u8 c] w fun e w' => e = .returned (.bool (digitB c)) ∧ w' = w := by
  rcases (show (48 ≤ c ∧ c ≤ 57) ∨ c < 48 ∨ 57 < c by omega) with ⟨c1, c2⟩ | c1 | c1
  · go_enter Try.func17, Try.ntmps17
    go_wp2
    go_ret
    exact ⟨congrArg _ (bool_eq (decide_eq_true (show 48 ≤ c ∧ c ≤ 57 by omega)).symm), rfl⟩
  all_goals
    go_enter Try.func17, Try.ntmps17
    go_wp2
    go_ret
    first
      | exact ⟨congrArg _ (bool_eq (decide_eq_false (show ¬ (48 ≤ c ∧ c ≤ 57) by omega)).symm), rfl⟩
      | exact ⟨congrArg _ (bool_eq ((decide_eq_false (show ¬ (c ≤ 57) by omega)).trans (decide_eq_false (show ¬ (48 ≤ c ∧ c ≤ 57) by omega)).symm)), rfl⟩

theorem ways (n : Nat) (x y : Int) (hn : 1 ≤ n) (x0 : 0 ≤ x) (x1 : x ≤ 255) (hy : 2 ≤ n → 0 ≤ y ∧ y ≤ 255) :
    (x < 128) ∨ (x = 128) ∨ (x = 255) ∨ (129 ≤ x ∧ x ≤ 254 ∧ n = 1) ∨ (129 ≤ x ∧ x ≤ 254 ∧ 2 ≤ n ∧ 64 ≤ y ∧ y < 127) ∨ (129 ≤ x ∧ x ≤ 254 ∧ 2 ≤ n ∧ 127 < y ∧ y ≤ 254) ∨
    (129 ≤ x ∧ x ≤ 254 ∧ 4 ≤ n ∧ 48 ≤ y ∧ y ≤ 57) ∨ (129 ≤ x ∧ x ≤ 254 ∧ 2 ≤ n ∧ n < 4 ∧ 48 ≤ y ∧ y ≤ 57) ∨ (129 ≤ x ∧ x ≤ 254 ∧ 2 ≤ n ∧ n < 4 ∧ (y < 48 ∨ 57 < y) ∧ y < 64) ∨ (129 ≤ x ∧ x ≤ 254 ∧ 4 ≤ n ∧ y < 48) ∨ (129 ≤ x ∧ x ≤ 254 ∧ 4 ≤ n ∧ 57 < y ∧ y < 64) ∨
    (129 ≤ x ∧ x ≤ 254 ∧ 2 ≤ n ∧ y = 127) ∨ (129 ≤ x ∧ x ≤ 254 ∧ 2 ≤ n ∧ y = 255) := by
  by_cases h1 : x < 128
  · exact .inl h1
  by_cases h2 : x = 128
  · exact .inr (.inl h2)
  by_cases h3 : x = 255
  · exact .inr (.inr (.inl h3))
  have ha : 129 ≤ x := by omega
  have hb : x ≤ 254 := by omega
  by_cases h4 : n = 1
  · exact .inr (.inr (.inr (.inl ⟨ha, hb, h4⟩)))
  have hc : 2 ≤ n := by omega
  have hd := hy hc
  by_cases h5 : 64 ≤ y ∧ y < 127
  · exact .inr (.inr (.inr (.inr (.inl ⟨ha, hb, hc, h5⟩))))
  by_cases h6 : 127 < y ∧ y ≤ 254
  · exact .inr (.inr (.inr (.inr (.inr (.inl ⟨ha, hb, hc, h6⟩)))))
  by_cases h7 : y = 127
  · exact .inr (.inr (.inr (.inr (.inr (.inr (.inr (.inr (.inr (.inr (.inr (.inl ⟨ha, hb, hc, h7⟩)))))))))))
  by_cases h8 : y = 255
  · exact .inr (.inr (.inr (.inr (.inr (.inr (.inr (.inr (.inr (.inr (.inr (.inr ⟨ha, hb, hc, h8⟩)))))))))))
  have he : y < 64 := by omega
  by_cases h9 : 4 ≤ n
  · by_cases h10 : 48 ≤ y
    · by_cases h11 : y ≤ 57
      · exact .inr (.inr (.inr (.inr (.inr (.inr (.inl ⟨ha, hb, h9, h10, h11⟩))))))
      · exact .inr (.inr (.inr (.inr (.inr (.inr (.inr (.inr (.inr (.inr (.inl ⟨ha, hb, h9, by omega, he⟩))))))))))
    · exact .inr (.inr (.inr (.inr (.inr (.inr (.inr (.inr (.inr (.inl ⟨ha, hb, h9, by omega⟩)))))))))
  · by_cases h10 : 48 ≤ y ∧ y ≤ 57
    · exact .inr (.inr (.inr (.inr (.inr (.inr (.inr (.inl ⟨ha, hb, hc, by omega, h10⟩)))))))
    · exact .inr (.inr (.inr (.inr (.inr (.inr (.inr (.inr (.inl ⟨ha, hb, hc, by omega, by omega, he⟩))))))))

end Go.Proofs.Qxb6003229a
