import Derived.Test.Qxb6603371aGrpA
import Derived.ProofKit
import Derived.OpenShut
import Derived.ChangeOld
import Derived.Below
import Derived.Deep.SlicePairs
namespace Go.Proofs.Qxb6603371a
open Go.ChangeShapes Go.WideShapes Go.ChangeAt Go.RowKit Go.Deep

theorem own : ownKnob Try.prog.godebug = none := by kernel_rfl
theorem laidOut : laidOutB Try.prog = true := by kernel_rfl

/-- A '[]Line' that came in, opened: its elements at their cells. -/
theorem open_lines {H : Type} {enc : TypeId × Value → H} {W : World} {a0 : Option Addr} {len cap : Nat} {x : DataW H × List MemPlace} {fuel : Nat}
    (hf : DataW.trod enc Try.prog W 0 (fun _ => true) true fuel 22 [.slice a0 len cap] = some x) :
    ∃ (b off : Nat) (ops : Nat → Int) (tx : Nat → ByteArray), len ≤ maxLen ∧ (0 < len → a0 = some ⟨b, off, none⟩) ∧ LinesAt W b off len ops tx := by
  rcases open_slice_pairs Try.underlying22 Try.underlying30 (by kernel_rfl) rfl rfl (by kernel_rfl) (by kernel_rfl) hf with ⟨hcs, _⟩ | ⟨a, l, c, m, n, V0, V1, D0, D1, P0, P1, hcs, _, hl, hm, hmm, _, hx⟩
  · simp at hcs
    obtain ⟨rfl, rfl, rfl⟩ := hcs
    exact ⟨0, 0, fun _ => 0, fun _ => ByteArray.empty, Nat.zero_le _, fun h => absurd h (by omega), fun i hi => absurd hi (by omega)⟩
  · simp at hcs
    obtain ⟨rfl, rfl, rfl⟩ := hcs
    simp at hmm
    subst hmm
    obtain ⟨b, off, spot⟩ := a
    have hs : 0 < len → spot = none := fun h0 => by
      obtain ⟨h1, _⟩ := hx 0 (by omega)
      simpa [Addr.add] using World.cell?_spot h1
    have hw : ∀ i, i < len → ∃ q : Int × ByteArray, W.cell? ⟨b, off + i * 2, none⟩ = some (.int .u8 q.1) ∧ W.cell? ⟨b, off + i * 2 + 1, none⟩ = some (.string q.2) ∧ q.2.size ≤ maxLen := by
      intro i hi
      obtain ⟨h1, h2, h3, h4⟩ := hx i (by omega)
      have hs := hs (by omega)
      subst hs
      obtain ⟨o, e1, _, _⟩ := DataW.trod_int Try.underlying5 h3
      obtain ⟨s, e2, _, hs⟩ := DataW.trod_string Try.underlying9 h4
      simp at e1 e2
      rw [add_plain, e1] at h1
      rw [add_plain, e2] at h2
      exact ⟨(o, s), h1, h2, hs⟩
    obtain ⟨q, hq⟩ := choose_lt hw
    refine ⟨b, off, fun i => (q i).1, fun i => (q i).2, by omega, fun h => ?_, hq⟩
    rw [hs h]
end Go.Proofs.Qxb6603371a
