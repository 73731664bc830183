import Derived.Test.Qxb6603371aGrpD
namespace Go.Proofs.Qxb6603371a
open Go.RowKit

/-- What the two laws are told of group's answer: four rows of m numbers each, the fields of the hunks hs. -/
def Hunks (w : World) (hs : List Hk) (g : Nat) : Prop :=
  RowInts w g hs.length (hkAt hs 0) ∧ RowInts w (g + 1) hs.length (hkAt hs 1) ∧ RowInts w (g + 1 + 1) hs.length (hkAt hs 2) ∧ RowInts w (g + 1 + 1 + 1) hs.length (hkAt hs 3)

def hunkVal (hs : List Hk) (g : Nat) : Value :=
  .tuple #[.slice (some ⟨g, 0, none⟩) hs.length hs.length, .slice (some ⟨g + 1, 0, none⟩) hs.length hs.length, .slice (some ⟨g + 1 + 1, 0, none⟩) hs.length hs.length, .slice (some ⟨g + 1 + 1 + 1, 0, none⟩) hs.length hs.length]

theorem snoc_step {k : Nat} {f g : Nat → Value} (h : ∀ j, j < k → f j = g j) : ∀ j, j < k + 1 → (if j = k then g k else f j) = g j := by
  intro j hj
  by_cases e : j = k
  · subst e; simp
  · simp [e]; exact h j (by omega)

set_option maxHeartbeats 1000000 in
theorem runGroup (ao : Option Addr) (b n : Nat) (hao : 0 < n → ao = some ⟨b, 0, none⟩) (ops : Nat → Int) (tx : Nat → ByteArray) (w : World) (hn : n ≤ 43690) (h : RowLines w b n ops tx) :
    Calls Try.prog 12 #[.slice ao n n] w fun e w' => ∃ g, w.heap.size ≤ g ∧ e = .returned (hunkVal (grp ops n n) g) ∧ Hunks w' (grp ops n n) g ∧ Below w.heap.size w w' := by
  have hmk5 := run_make_any (P := Try.prog) 43 5 _ 1 1 Try.underlying43 Try.info5 n (by omega) (by omega)
  have hmk9 := run_make_any (P := Try.prog) 44 9 _ 1 16 Try.underlying44 Try.info9 n (by omega) (by omega)
  go_enter Try.func12, Try.ntmps12
  go_wp2
  go_loopw [8] (fun i wr => ∃ (k : Nat) (f0 f1 : Nat → Value), k ≤ n ∧ i = .int .i64 k ∧ Below w.heap.size w wr ∧ wr.rowIs w.heap.size 5 n f0 ∧ wr.rowIs (w.heap.size + 1) 9 n f1 ∧ (∀ j, j < k → f0 j = .int .u8 (ops j)) ∧ (∀ j, j < k → f1 j = .string (tx j))) (fun i _ => n - (intOf i).toNat)
  case atStart => exact ⟨0, _, _, Nat.zero_le _, rfl, ((Below.refl _ _).alloc (Nat.le_refl _) _).alloc (by simp) _, (rowIs_made_any _ _ _ _).alloc _, (by simpa using rowIs_made_any (w.alloc _) _ _ _), fun j hj => absurd hj (by omega), fun j hj => absurd hj (by omega)⟩
  case round =>
    obtain ⟨k, f0, f1, hk, rfl, hbel, hr0, hr1, hf0, hf1⟩ := hrel
    by_cases hlt : k < n
    · obtain ⟨h1, h2⟩ := h k hlt
      have hbs : b < w.heap.size := block_lt_of_cell h1
      obtain rfl := hao (by omega)
      have g1 := (hbel.cell (p := ⟨b, k * 2, none⟩) hbs).trans h1
      have g2 := (hbel.cell (p := ⟨b, k * 2 + 1, none⟩) hbs).trans h2
      have z1 := hr0.frozen k
      have z2 := hr1.frozen k
      have c1 := hr0.cell hlt
      have c2 := hr1.cell hlt
      have HF0 := hide hf0
      have HF1 := hide hf1
      clear h h1 h2 hf0 hf1
      go_wp2
      go_roundw
      case rel => exact ⟨k + 1, _, _, by omega, by go_num, (hbel.setCell (Nat.le_refl _) _).setCell (Nat.le_add_right _ _) _, (hr0.set _ _).setOther (by simp) _, (hr1.setOther (by simp) _).set _ _, snoc_step HF0.out, snoc_step HF1.out⟩
      case measure => simp [intOf]; omega
    · have r0 : wr.rowIs w.heap.size 5 n (fun i => .int .u8 (ops i)) := hr0.congr (fun i hi => hf0 i (by omega))
      have r1 : wr.rowIs (w.heap.size + 1) 9 n (fun i => .string (tx i)) := hr1.congr (fun i hi => hf1 i (by omega))
      clear hr0 hr1 hf0 hf1 h hmk5 hmk9
      go_wp2_with fail
      refine (zzGroup _ _ n ops tx _ hn r0 r1).mono ?_
      rintro e w1 ⟨g, hg, rfl, q0, q1, q2, q3, hb1⟩
      go_wp2
      refine bodyPost_ret (results_tmp4 rfl _ _ _) rfl ?_
      have hs := hbel.size
      exact ⟨g, by omega, rfl, ⟨q0, q1, q2, q3⟩, hbel.trans (hb1.mono (by omega))⟩
end Go.Proofs.Qxb6603371a
