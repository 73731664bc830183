import Derived.Test.Qxb6003229aRows
import Derived.WalkKit
import Derived.WalkSpells
import Derived.WalkLawsBesides
import Derived.Deep.OwnRows
import Derived.Deep.LoopGhost
import Derived.Deep.QuietTactic
import Derived.BigQuiet
namespace Go.Proofs.Qxb6003229a
open Go.RowKit

/-! The plain functions: the code of a code point; the code point of a code. -/
def enF (r : Int) : Int := if r ≤ 57907 then 170 + (r - 57344) / 94 else if r ≤ 58565 then 248 + (r - 57908) / 94 else 161 + (r - 58566) / 96
def enS (r : Int) : Int :=
  if r ≤ 57907 then 161 + (r - 57344) % 94 else if r ≤ 58565 then 161 + (r - 57908) % 94 else
  if 127 ≤ 64 + (r - 58566) % 96 then 64 + (r - 58566) % 96 + 1 else 64 + (r - 58566) % 96
def puB (f s : Int) : Bool := decide ((170 ≤ f ∧ f ≤ 175 ∧ 161 ≤ s) ∨ (248 ≤ f ∧ 161 ≤ s) ∨ (161 ≤ f ∧ f ≤ 167 ∧ s ≤ 160))
def puR (f s : Int) : Int :=
  if 170 ≤ f ∧ f ≤ 175 ∧ 161 ≤ s then 57344 + (f - 170) * 94 + s - 161 else if 248 ≤ f ∧ 161 ≤ s then 57908 + (f - 248) * 94 + s - 161 else
  if 161 ≤ f ∧ f ≤ 167 ∧ s ≤ 160 then 58566 + (f - 161) * 96 + (if 127 < s then s - 64 - 1 else s - 64) else 0
def leadB (c : Int) : Bool := decide (129 ≤ c ∧ c ≤ 254)
def trailB (c : Int) : Bool := decide (64 ≤ c ∧ c ≤ 254 ∧ c ≠ 127)

theorem ret_two {a b c d : Value} (h1 : a = c) (h2 : b = d) : Ending.returned (.tuple #[a, b]) = .returned (.tuple #[c, d]) := by rw [h1, h2]
theorem int_eq {k : IntKind} {a b : Int} (h : a = b) : Value.int k a = .int k b := by rw [h]
theorem bool_eq {a b : Bool} (h : a = b) : Value.bool a = .bool b := by rw [h]

set_option maxHeartbeats 400000 in
theorem enc_any (r : Int) (w : World) (h1 : 57344 ≤ r) (h2 : r ≤ 59237) :
    Calls Try.prog 15 #[.int .i32 r] w fun e w' => e = .returned (.tuple #[.int .u8 (enF r), .int .u8 (enS r)]) ∧ w' = w := by
  by_cases c1 : r ≤ 57907
  · go_enter Try.func15, Try.ntmps15
    go_wp2
    go_ret2
    exact ⟨ret_two (int_eq (by simp only [enF]; rw [if_pos c1])) (int_eq (by simp only [enS]; rw [if_pos c1])), rfl⟩
  by_cases c2 : r ≤ 58565
  · go_enter Try.func15, Try.ntmps15
    go_wp2
    go_ret2
    exact ⟨ret_two (int_eq (by simp only [enF]; rw [if_neg (by omega), if_pos c2])) (int_eq (by simp only [enS]; rw [if_neg (by omega), if_pos c2])), rfl⟩
  by_cases c3 : 127 ≤ 64 + (r - 58566) % 96
  · go_enter Try.func15, Try.ntmps15
    go_wp2
    go_ret2
    exact ⟨ret_two (int_eq (by simp only [enF]; rw [if_neg (by omega), if_neg (by omega)])) (int_eq (by simp only [enS]; rw [if_neg (by omega), if_neg (by omega), if_pos c3])), rfl⟩
  · go_enter Try.func15, Try.ntmps15
    go_wp2
    go_ret2
    exact ⟨ret_two (int_eq (by simp only [enF]; rw [if_neg (by omega), if_neg (by omega)])) (int_eq (by simp only [enS]; rw [if_neg (by omega), if_neg (by omega), if_neg (by omega)])), rfl⟩

set_option maxHeartbeats 400000 in
theorem lead_any (c : Int) (w : World) : Calls Try.prog 11 #[.int .u8 c] w fun e w' => e = .returned (.bool (leadB c)) ∧ w' = w := by
  by_cases c1 : 129 ≤ c
  · by_cases c2 : c ≤ 254
    · go_enter Try.func11, Try.ntmps11
      go_wp2
      go_ret
      exact ⟨congrArg _ (bool_eq (decide_eq_true (show 129 ≤ c ∧ c ≤ 254 by omega)).symm), rfl⟩
    · go_enter Try.func11, Try.ntmps11
      go_wp2
      go_ret
      exact ⟨congrArg _ (bool_eq (decide_eq_false (show ¬ (129 ≤ c ∧ c ≤ 254) by omega)).symm), rfl⟩
  · go_enter Try.func11, Try.ntmps11
    go_wp2
    go_ret
    exact ⟨congrArg _ (bool_eq (decide_eq_false (show ¬ (129 ≤ c ∧ c ≤ 254) by omega)).symm), rfl⟩

end Go.Proofs.Qxb6003229a
