import Derived.Test.Qxb6603341aRows
import Derived.WalkKit
import Derived.WalkSpells
import Derived.WalkLawsBesides
import Derived.Deep.OwnRows
import Derived.Deep.LoopGhost
namespace Go.Proofs.Qxb6603341a
open Go.RowKit

/-- The strings that came in. -/
def StrsAt (w : World) (b off n : Nat) (s : Nat → ByteArray) : Prop :=
  ∀ i, i < n → w.cell? ⟨b, off + i, none⟩ = some (.string (s i)) ∧ (s i).size ≤ maxLen

/-- The records that came in: where each lies, its length and its capacity. -/
def RecsAt (w : World) (b off n : Nat) (A : Nat → Option Addr) (L C : Nat → Nat) : Prop :=
  ∀ i, i < n → w.cell? ⟨b, off + i, none⟩ = some (.slice (A i) (L i) (C i)) ∧ L i ≤ maxLen

/-- The bytes of one record. -/
def BytesAt (w : World) (a : Option Addr) (n : Nat) : Prop :=
  ∃ (b off : Nat) (z : Nat → Int), (0 < n → a = some ⟨b, off, none⟩) ∧ ∀ j, j < n → w.cell? ⟨b, off + j, none⟩ = some (.int .u8 (z j))

/-- The call returns some bool and leaves the world as it was. -/
def SomeBool (w : World) (e : Ending) (w' : World) : Prop := ∃ r, e = .returned (.bool r) ∧ w' = w

theorem hide {p : Prop} (h : p) : Hid p := h

set_option maxRecDepth 100000 in
set_option maxHeartbeats 2000000 in
theorem zzBytes11 (a0 a1 a2 a3 : Option Addr) (b0 o0 n0 c0 b1 o1 n1 c1 b2 o2 n2 c2 b3 o3 n3 c3 : Nat) (s0 s1 s2 : Nat → ByteArray) (A : Nat → Option Addr) (L C : Nat → Nat) (w : World)
    (h0 : 0 < n0 → a0 = some ⟨b0, o0, none⟩) (h1 : 0 < n1 → a1 = some ⟨b1, o1, none⟩) (h2 : 0 < n2 → a2 = some ⟨b2, o2, none⟩) (h3 : 0 < n3 → a3 = some ⟨b3, o3, none⟩)
    (m0 : n0 ≤ maxLen) (m1 : n1 ≤ maxLen) (m2 : n2 ≤ maxLen) (m3 : n3 ≤ maxLen) (k0 : StrsAt w b0 o0 n0 s0) (k1 : StrsAt w b1 o1 n1 s1) (k2 : StrsAt w b2 o2 n2 s2) (k3 : RecsAt w b3 o3 n3 A L C) :
    Calls Try.prog 11 #[.slice a0 n0 c0, .slice a1 n1 c1, .slice a2 n2 c2, .slice a3 n3 c3] w (SomeBool w) := by
  unfold maxLen at m0 m1 m2 m3
  by_cases g0 : (1048576 : Int) < (n0 : Int)
  · go_enter Try.func11, Try.ntmps11
    go_wp2
    go_ret
    exact ⟨_, rfl, rfl⟩
  go_enter Try.func11, Try.ntmps11
  go_wp2
  go_loop [9, 10] (fun z i => ∃ (k : Nat) (t : Int), k ≤ n0 ∧ i = .int .i64 k ∧ z = .int .i64 t ∧ 0 ≤ t ∧ t ≤ 1048576) (fun _ i => n0 - (intOf i).toNat)
  case atStart => exact ⟨0, n0, Nat.zero_le _, rfl, rfl, by omega, by omega⟩
  case round =>
    obtain ⟨k, t0, hk, rfl, rfl, ht0, ht1⟩ := hrel
    by_cases hlt : k < n0
    · obtain ⟨x1, x2⟩ := k0 k hlt
      obtain rfl := h0 (by omega)
      unfold maxLen at x2
      clear k0 k1 k2 k3
      go_wp2
      · go_ret; exact ⟨_, rfl, rfl⟩
      · go_ret; exact ⟨_, rfl, rfl⟩
      · go_round
        case rel => exact ⟨k + 1, _, by omega, by go_num, rfl, by omega, by omega⟩
        case measure => simp [intOf]; omega
    · clear k0
      by_cases g1 : (1048576 : Int) < (n1 : Int)
      · go_wp2
        go_ret
        exact ⟨_, rfl, rfl⟩
      by_cases g2 : (1048576 : Int) < t0 + (n1 : Int)
      · go_wp2
        go_ret
        exact ⟨_, rfl, rfl⟩
      go_wp2
      go_loop [9, 11] (fun z i => ∃ (k : Nat) (t : Int), k ≤ n1 ∧ i = .int .i64 k ∧ z = .int .i64 t ∧ 0 ≤ t ∧ t ≤ 1048576) (fun _ i => n1 - (intOf i).toNat)
      case atStart => exact ⟨0, t0 + n1, Nat.zero_le _, rfl, rfl, by omega, by omega⟩
      case round =>
        obtain ⟨k, t1, hk, rfl, rfl, ht0, ht1⟩ := hrel
        by_cases hlt : k < n1
        · obtain ⟨x1, x2⟩ := k1 k hlt
          obtain rfl := h1 (by omega)
          unfold maxLen at x2
          clear k1 k2 k3
          go_wp2
          · go_ret; exact ⟨_, rfl, rfl⟩
          · go_ret; exact ⟨_, rfl, rfl⟩
          · go_round
            case rel => exact ⟨k + 1, _, by omega, by go_num, rfl, by omega, by omega⟩
            case measure => simp [intOf]; omega
        · clear k1
          by_cases g1 : (1048576 : Int) < (n2 : Int)
          · go_wp2
            go_ret
            exact ⟨_, rfl, rfl⟩
          by_cases g2 : (1048576 : Int) < t1 + (n2 : Int)
          · go_wp2
            go_ret
            exact ⟨_, rfl, rfl⟩
          go_wp2
          go_loop [9, 12] (fun z i => ∃ (k : Nat) (t : Int), k ≤ n2 ∧ i = .int .i64 k ∧ z = .int .i64 t ∧ 0 ≤ t ∧ t ≤ 1048576) (fun _ i => n2 - (intOf i).toNat)
          case atStart => exact ⟨0, t1 + n2, Nat.zero_le _, rfl, rfl, by omega, by omega⟩
          case round =>
            obtain ⟨k, t2, hk, rfl, rfl, ht0, ht1⟩ := hrel
            by_cases hlt : k < n2
            · obtain ⟨x1, x2⟩ := k2 k hlt
              obtain rfl := h2 (by omega)
              unfold maxLen at x2
              clear k2 k3
              go_wp2
              · go_ret; exact ⟨_, rfl, rfl⟩
              · go_ret; exact ⟨_, rfl, rfl⟩
              · go_round
                case rel => exact ⟨k + 1, _, by omega, by go_num, rfl, by omega, by omega⟩
                case measure => simp [intOf]; omega
            · clear k2
              by_cases g1 : (1048576 : Int) < (n3 : Int)
              · go_wp2
                go_ret
                exact ⟨_, rfl, rfl⟩
              by_cases g2 : (1048576 : Int) < t2 + (n3 : Int)
              · go_wp2
                go_ret
                exact ⟨_, rfl, rfl⟩
              go_wp2
              go_loop [9, 13] (fun z i => ∃ (k : Nat) (t : Int), k ≤ n3 ∧ i = .int .i64 k ∧ z = .int .i64 t ∧ 0 ≤ t ∧ t ≤ 1048576) (fun _ i => n3 - (intOf i).toNat)
              case atStart => exact ⟨0, t2 + n3, Nat.zero_le _, rfl, rfl, by omega, by omega⟩
              case round =>
                obtain ⟨k, t3, hk, rfl, rfl, ht0, ht1⟩ := hrel
                by_cases hlt : k < n3
                · obtain ⟨x1, x2⟩ := k3 k hlt
                  obtain rfl := h3 (by omega)
                  unfold maxLen at x2
                  clear k3
                  go_wp2
                  · go_ret; exact ⟨_, rfl, rfl⟩
                  · go_ret; exact ⟨_, rfl, rfl⟩
                  · go_round
                    case rel => exact ⟨k + 1, _, by omega, by go_num, rfl, by omega, by omega⟩
                    case measure => simp [intOf]; omega
                · clear k3
                  go_wp2
                  go_ret
                  exact ⟨_, rfl, rfl⟩
end Go.Proofs.Qxb6603341a
