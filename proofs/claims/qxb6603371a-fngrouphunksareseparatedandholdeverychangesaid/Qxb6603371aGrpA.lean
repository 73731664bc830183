import Derived.Test.Qxb6603371aRows
import Derived.WalkKit
import Derived.WalkSpells
import Derived.WalkLawsBesides
import Derived.Deep.OwnRows
import Derived.Deep.LoopGhost
namespace Go.Proofs.Qxb6603371a
open Go.RowKit

/-- The lines that came in: element i lies at cells 'off + i * 2' (its op) and the next (its text). -/
def LinesAt (w : World) (b off n : Nat) (ops : Nat → Int) (tx : Nat → ByteArray) : Prop :=
  ∀ i, i < n → w.cell? ⟨b, off + i * 2, none⟩ = some (.int .u8 (ops i)) ∧ w.cell? ⟨b, off + i * 2 + 1, none⟩ = some (.string (tx i)) ∧ (tx i).size ≤ maxLen

/-- The call returns some bool and leaves the world as it was. -/
def SomeBool (w : World) (e : Ending) (w' : World) : Prop := ∃ r, e = .returned (.bool r) ∧ w' = w

set_option maxHeartbeats 400000 in
theorem zzBytes9 (ao : Option Addr) (b off n c : Nat) (hao : 0 < n → ao = some ⟨b, off, none⟩) (ops : Nat → Int) (tx : Nat → ByteArray) (w : World) (hn : n ≤ maxLen) (h : LinesAt w b off n ops tx) :
    Calls Try.prog 9 #[.slice ao n c] w (SomeBool w) := by
  unfold maxLen at hn
  by_cases hbig : (1048576 : Int) < (n : Int)
  · go_enter Try.func9, Try.ntmps9
    go_wp2
    go_ret
    exact ⟨_, rfl, rfl⟩
  go_enter Try.func9, Try.ntmps9
  go_wp2
  go_loop [3, 4] (fun z i => ∃ (k : Nat) (t : Int), k ≤ n ∧ i = .int .i64 k ∧ z = .int .i64 t ∧ 0 ≤ t ∧ t ≤ 1048576) (fun _ i => n - (intOf i).toNat)
  case atStart => exact ⟨0, n, Nat.zero_le _, rfl, rfl, by omega, by omega⟩
  case round =>
    obtain ⟨k, t, hk, rfl, rfl, ht0, ht1⟩ := hrel
    by_cases hlt : k < n
    · obtain ⟨h1, h2, h3⟩ := h k hlt
      obtain rfl := hao (by omega)
      unfold maxLen at h3
      go_wp2
      · go_ret; exact ⟨_, rfl, rfl⟩
      · go_ret; exact ⟨_, rfl, rfl⟩
      · go_round
        case rel => exact ⟨k + 1, _, by omega, by go_num, rfl, by omega, by omega⟩
        case measure => simp [intOf]; omega
    · go_wp2
      go_ret
      exact ⟨_, rfl, rfl⟩
set_option maxHeartbeats 400000 in
theorem zzBytes13 (ao : Option Addr) (b off n c : Nat) (hao : 0 < n → ao = some ⟨b, off, none⟩) (ops : Nat → Int) (tx : Nat → ByteArray) (w : World) (hn : n ≤ maxLen) (h : LinesAt w b off n ops tx) :
    Calls Try.prog 13 #[.slice ao n c] w (SomeBool w) := by
  unfold maxLen at hn
  by_cases hbig : (1048576 : Int) < (n : Int)
  · go_enter Try.func13, Try.ntmps13
    go_wp2
    go_ret
    exact ⟨_, rfl, rfl⟩
  go_enter Try.func13, Try.ntmps13
  go_wp2
  go_loop [3, 4] (fun z i => ∃ (k : Nat) (t : Int), k ≤ n ∧ i = .int .i64 k ∧ z = .int .i64 t ∧ 0 ≤ t ∧ t ≤ 1048576) (fun _ i => n - (intOf i).toNat)
  case atStart => exact ⟨0, n, Nat.zero_le _, rfl, rfl, by omega, by omega⟩
  case round =>
    obtain ⟨k, t, hk, rfl, rfl, ht0, ht1⟩ := hrel
    by_cases hlt : k < n
    · obtain ⟨h1, h2, h3⟩ := h k hlt
      obtain rfl := hao (by omega)
      unfold maxLen at h3
      go_wp2
      · go_ret; exact ⟨_, rfl, rfl⟩
      · go_ret; exact ⟨_, rfl, rfl⟩
      · go_round
        case rel => exact ⟨k + 1, _, by omega, by go_num, rfl, by omega, by omega⟩
        case measure => simp [intOf]; omega
    · go_wp2
      go_ret
      exact ⟨_, rfl, rfl⟩
set_option maxHeartbeats 400000 in
theorem linesFit (ao : Option Addr) (b off n c : Nat) (hao : 0 < n → ao = some ⟨b, off, none⟩) (ops : Nat → Int) (tx : Nat → ByteArray) (w : World) (hn : n ≤ 43690) (h : LinesAt w b off n ops tx) :
    Calls Try.prog 10 #[.slice ao n c] w (SomeBool w) := by
  go_enter Try.func10, Try.ntmps10
  go_wp2
  go_loop [3, 4] (fun z i => ∃ (k : Nat) (t : Int), k ≤ n ∧ i = .int .i64 k ∧ z = .int .i64 t) (fun _ i => n - (intOf i).toNat)
  case atStart => exact ⟨0, _, Nat.zero_le _, rfl, rfl⟩
  case round =>
    obtain ⟨k, t, hk, rfl, rfl⟩ := hrel
    by_cases hlt : k < n
    · obtain ⟨h1, h2, h3⟩ := h k hlt
      obtain rfl := hao (by omega)
      unfold maxLen at h3
      go_wp2
      · go_ret; exact ⟨_, rfl, rfl⟩
      · go_round
        case rel => exact ⟨k + 1, _, by omega, by go_num, rfl⟩
        case measure => simp [intOf]; omega
    · go_wp2
      go_ret
      exact ⟨_, rfl, rfl⟩
end Go.Proofs.Qxb6603371a
