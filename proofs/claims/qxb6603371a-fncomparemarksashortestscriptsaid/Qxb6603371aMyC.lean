import Derived.Test.Qxb6603371aRows
import Derived.Test.Qxb6603371aMyD
import Derived.WalkKit
import Derived.WalkSpells
import Derived.WalkLawsBesides
import Derived.Deep.OwnRows
import Derived.Deep.LoopGhost
import Derived.Deep.QuietTactic
import Derived.BigQuiet
namespace Go.Proofs.Qxb6603371a
open Go.RowKit

theorem hideM {p : Prop} (h : p) : Hid p := h

/-- A row of numbers. -/
def Ints (w : World) (b len : Nat) (f : Nat → Int) : Prop := w.rowIs b 3 len (fun j => .int .i64 (f j))

def ReachPost (f : Nat → Int) (P Q : Nat) (k : Int) (d : Nat) (w : World) (e : Ending) (w' : World) : Prop := ∃ s q, e = .returned (.int .i64 s) ∧ w' = w.drewN q ∧ Start f P Q k d s

set_option maxHeartbeats 1000000 in
theorem reach_any (b len off : Nat) (f : Nat → Int) (k : Int) (d P Q : Nat) (w : World) (hrow : Ints w b len f) (hk1 : -(d : Int) ≤ k) (hk2 : k ≤ d) (hP : (off : Int) + k + 1 = P) (hPl : P < len) (hQ : k ≠ -(d : Int) → (off : Int) + k - 1 = Q) (hlen : len ≤ 1000000) (hd : d ≤ 1000000)
    (fb : k ≠ -(d : Int) → 0 ≤ f Q ∧ f Q ≤ 1000000) :
    Calls Try.prog 35 #[.slice (some ⟨b, 0, none⟩) len len, .int .i64 off, .int .i64 k, .int .i64 d] w (ReachPost f P Q k d w) := by
  have cP := hrow.cell hPl
  have hoff : off ≤ 1000001 + d := by omega
  by_cases h1 : k = -(d : Int)
  · subst h1
    have t1 : (-(d : Int) == -(d : Int)) = true := by simp
    have eP : ((off : Int) + -(d : Int) + 1).toNat = P := by omega
    have bP1 : 0 ≤ (off : Int) + -(d : Int) + 1 := by omega
    have bP2 : (off : Int) + -(d : Int) + 1 < len := by omega
    have HP := hideM hP
    clear hP hQ fb
    go_enter Try.func35, Try.ntmps35
    go_wp2
    go_quiet (fail)
    go_wp2
    go_ret
    exact ⟨_, _, rfl, rfl, fun _ => Int.le_refl _, fun h => absurd rfl h, .inl ⟨rfl, .inl rfl⟩⟩
  have t1 : (k == -(d : Int)) = false := by simpa using h1
  have hQ' := hQ h1
  have fb' := fb h1
  obtain ⟨fb1, fb2⟩ := fb'
  have cQ := hrow.cell (i := Q) (by omega)
  have eP : ((off : Int) + k + 1).toNat = P := by omega
  have bP1 : 0 ≤ (off : Int) + k + 1 := by omega
  have bP2 : (off : Int) + k + 1 < len := by omega
  have eQ : ((off : Int) + k - 1).toNat = Q := by omega
  have bQ1 : 0 ≤ (off : Int) + k - 1 := by omega
  have bQ2 : (off : Int) + k - 1 < len := by omega
  have H1 := hideM h1
  clear hP hQ hQ' h1 fb
  by_cases h2 : k = d
  · have H2 := hideM h2
    have t2 : (k != (d : Int)) = false := by simpa using h2
    clear h2
    go_enter Try.func35, Try.ntmps35
    go_wp2
    go_quiet (fail)
    go_wp2
    go_ret
    exact ⟨_, _, rfl, rfl, fun h => absurd H2.out h, fun _ => Int.le_refl _, .inr ⟨rfl, H1.out⟩⟩
  · have H2 := hideM h2
    have t2 : (k != (d : Int)) = true := by simpa using h2
    clear h2
    by_cases h3 : f Q < f P
    · go_enter Try.func35, Try.ntmps35
      go_wp2
      go_quiet (fail)
      go_wp2
      go_ret
      exact ⟨_, _, rfl, rfl, fun _ => Int.le_refl _, fun _ => by omega, .inl ⟨rfl, .inr H2.out⟩⟩
    · have t3 : decide (f Q < f P) = false := decide_eq_false h3
      go_enter Try.func35, Try.ntmps35
      go_wp2
      go_quiet (fail)
      go_wp2
      go_ret
      exact ⟨_, _, rfl, rfl, fun _ => by omega, fun _ => Int.le_refl _, .inr ⟨rfl, H1.out⟩⟩
end Go.Proofs.Qxb6603371a
