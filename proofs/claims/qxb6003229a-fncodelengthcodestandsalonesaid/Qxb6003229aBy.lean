import Derived.Test.Qxb6003229aPuC
namespace Go.Proofs.Qxb6003229a
open Go.RowKit

/-- The bytes that came in. -/
def BytesAt (w : World) (b off n : Nat) (z : Nat → Int) : Prop :=
  ∀ i, i < n → w.cell? ⟨b, off + i, none⟩ = some (.int .u8 (z i)) ∧ 0 ≤ z i ∧ z i ≤ 255

/-- The call returns some bool and leaves the world as it was. -/
def SomeBool (w : World) (e : Ending) (w' : World) : Prop := ∃ r, e = .returned (.bool r) ∧ w' = w

set_option maxHeartbeats 400000 in
theorem zzBytes6 (ao : Option Addr) (n c : Nat) (w : World) (hn : n ≤ maxLen) : Calls Try.prog 6 #[.slice ao n c] w (SomeBool w) := by
  unfold maxLen at hn
  by_cases hb : (1048576 : Int) < (n : Int)
  all_goals
    go_enter Try.func6, Try.ntmps6
    go_wp2
    go_ret
    exact ⟨_, rfl, rfl⟩

set_option maxHeartbeats 400000 in
theorem zzBytes10 (ao : Option Addr) (n c : Nat) (w : World) (hn : n ≤ maxLen) : Calls Try.prog 10 #[.slice ao n c] w (SomeBool w) := by
  unfold maxLen at hn
  by_cases hb : (1048576 : Int) < (n : Int)
  all_goals
    go_enter Try.func10, Try.ntmps10
    go_wp2
    go_ret
    exact ⟨_, rfl, rfl⟩

theorem Try.info5 : (Try.prog.info? 5).map (fun i => (i.zero, i.size, i.bytes)) = some (some (.int .u8 0), 1, 1) := by kernel_rfl

theorem snoc_step {k : Nat} {f g : Nat → Value} (h : ∀ j, j < k → f j = g j) : ∀ j, j < k + 1 → (if j = k then g k else f j) = g j := by
  intro j hj
  by_cases e : j = k
  · subst e; simp
  · simp [e]; exact h j (by omega)

set_option maxHeartbeats 400000 in
theorem cloneBytes (ao : Option Addr) (b off n c : Nat) (hao : 0 < n → ao = some ⟨b, off, none⟩) (z : Nat → Int) (w : World) (hn : n ≤ 1048576) (h : BytesAt w b off n z) :
    Calls Try.prog 7 #[.slice ao n c] w fun e w' => ∃ ao', e = .returned (.slice ao' n n) ∧ (0 < n → ao' = some ⟨w.heap.size, 0, none⟩) ∧ (0 < n → w'.rowIs w.heap.size 5 n (fun i => .int .u8 (z i))) ∧ Below w.heap.size w w' := by
  have q22 : ∀ (w : World) (a : Option Addr) (n c n' c' : Nat), (binOp .eql 22 (.slice a n c) (.slice none n' c')).run Try.prog w = .ok (.bool a.isNone) w := fun w a n c n' c' => Lib.run_eql_slice_nil w _ _ a n c n' c' Try.underlying22
  have hmk := run_make_row' (P := Try.prog) 22 5 _ 1 Try.underlying22 Try.info5 rfl .i64 .i64 n (by omega) (by omega)
  cases ao with
  | none =>
    have h0 : n = 0 := by
      rcases Nat.eq_zero_or_pos n with h0 | h0
      · exact h0
      · exact absurd (hao h0) (by simp)
    subst h0
    go_enter Try.func7, Try.ntmps7
    go_wp2
    go_ret
    exact ⟨_, rfl, fun h => absurd h (by omega), fun h => absurd h (by omega), Below.refl _ _⟩
  | some a =>
  go_enter Try.func7, Try.ntmps7
  go_wp2
  go_loopw [4] (fun i wr => ∃ (k : Nat) (f : Nat → Value), k ≤ n ∧ i = .int .i64 k ∧ Below w.heap.size w wr ∧ wr.rowIs w.heap.size 5 n f ∧ ∀ j, j < k → f j = .int .u8 (z j)) (fun i _ => n - (intOf i).toNat)
  case atStart => exact ⟨0, _, Nat.zero_le _, rfl, (Below.refl _ _).alloc (Nat.le_refl _) _, World.rowIs_made _ _ _ _, fun j hj => absurd hj (by omega)⟩
  case round =>
    obtain ⟨k, f, hk, rfl, hbel, hrow, hf⟩ := hrel
    by_cases hlt : k < n
    · obtain ⟨h1, h2, h3⟩ := h k hlt
      have hbs : b < w.heap.size := block_lt_of_cell h1
      obtain rfl : a = ⟨b, off, none⟩ := by simpa using hao (by omega)
      have g1 := (hbel.cell (p := ⟨b, off + k, none⟩) hbs).trans h1
      have f1 := hrow.frozen k
      have c1 := hrow.cell hlt
      have HF := hide hf
      clear h h1 hf
      go_wp2
      go_roundw
      case rel => exact ⟨k + 1, _, by omega, by go_num, hbel.setCell (Nat.le_refl _) _, hrow.set _ _, snoc_step (g := fun j => .int .u8 (z j)) HF.out⟩
      case measure => simp [intOf]; omega
    · go_wp2
      go_ret
      exact ⟨_, rfl, fun _ => rfl, fun _ => hrow.congr (fun i hi => hf i (by omega)), hbel⟩

end Go.Proofs.Qxb6003229a
