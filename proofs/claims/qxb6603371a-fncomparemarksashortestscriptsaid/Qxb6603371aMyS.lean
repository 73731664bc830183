import Derived.Test.Qxb6603371aMyC
import Derived.Test.Qxb6603371aMyG
namespace Go.Proofs.Qxb6603371a
open Go.RowKit

theorem Try.infoM3 : (Try.prog.info? 3).map (fun i => (i.zero, i.size, i.bytes)) = some (some (.int .i64 0), 1, 8) := by kernel_rfl

/-- The numbers that came in. -/
def IntsAt (w : World) (b off n : Nat) (z : Nat → Int) : Prop := ∀ i, i < n → w.cell? ⟨b, off + i, none⟩ = some (.int .i64 (z i))

def AnyBool (w : World) (e : Ending) (w' : World) : Prop := ∃ r, e = .returned (.bool r) ∧ w' = w

set_option maxHeartbeats 1000000 in
theorem zzBytes22 (a0 a1 : Option Addr) (n0 c0 n1 c1 : Nat) (x2 x3 x4 x5 x6 : Int) (w : World) (m0 : n0 ≤ maxLen) (m1 : n1 ≤ maxLen) :
    Calls Try.prog 22 #[.slice a0 n0 c0, .slice a1 n1 c1, .int .i64 x2, .int .i64 x3, .int .i64 x4, .int .i64 x5, .int .i64 x6] w (AnyBool w) := by
  unfold maxLen at m0 m1
  by_cases g0 : (1048576 : Int) < (n0 : Int)
  · go_enter Try.func22, Try.ntmps22
    go_wp2
    go_ret
    exact ⟨_, rfl, rfl⟩
  by_cases g1 : (1048576 : Int) < (n1 : Int)
  · go_enter Try.func22, Try.ntmps22
    go_wp2
    go_ret
    exact ⟨_, rfl, rfl⟩
  by_cases g2 : (1048576 : Int) < (n0 : Int) + n1
  all_goals
    go_enter Try.func22, Try.ntmps22
    go_wp2
    go_ret
    exact ⟨_, rfl, rfl⟩

set_option maxHeartbeats 1000000 in
theorem zzBytes14 (a0 a1 : Option Addr) (n0 c0 n1 c1 : Nat) (x2 x3 x4 x5 x6 : Int) (w : World) (m0 : n0 ≤ maxLen) (m1 : n1 ≤ maxLen) :
    Calls Try.prog 14 #[.slice a0 n0 c0, .slice a1 n1 c1, .int .i64 x2, .int .i64 x3, .int .i64 x4, .int .i64 x5, .int .i64 x6] w (AnyBool w) := by
  unfold maxLen at m0 m1
  by_cases g0 : (1048576 : Int) < (n0 : Int)
  · go_enter Try.func14, Try.ntmps14
    go_wp2
    go_ret
    exact ⟨_, rfl, rfl⟩
  by_cases g1 : (1048576 : Int) < (n1 : Int)
  · go_enter Try.func14, Try.ntmps14
    go_wp2
    go_ret
    exact ⟨_, rfl, rfl⟩
  by_cases g2 : (1048576 : Int) < (n0 : Int) + n1
  all_goals
    go_enter Try.func14, Try.ntmps14
    go_wp2
    go_ret
    exact ⟨_, rfl, rfl⟩

/-- Whether the window lies in the text. -/
def FitsPost (len lo hi : Int) (w : World) (e : Ending) (w' : World) : Prop := ∃ r : Bool, e = .returned (.bool r) ∧ w' = w ∧ (r = true → 0 ≤ lo ∧ lo ≤ hi ∧ hi ≤ len)

set_option maxHeartbeats 1000000 in
theorem windowFits (len lo hi : Int) (w : World) : Calls Try.prog 15 #[.int .i64 len, .int .i64 lo, .int .i64 hi] w (FitsPost len lo hi w) := by
  rcases (show (0 ≤ lo ∧ lo ≤ hi ∧ hi ≤ len) ∨ lo < 0 ∨ (0 ≤ lo ∧ hi < lo) ∨ (0 ≤ lo ∧ lo ≤ hi ∧ len < hi) by omega) with ⟨h1, h2, h3⟩ | h1 | ⟨h1, h2⟩ | ⟨h1, h2, h3⟩
  · go_enter Try.func15, Try.ntmps15
    go_wp2
    go_ret
    exact ⟨_, rfl, rfl, fun _ => ⟨h1, h2, h3⟩⟩
  · have t : decide (0 ≤ lo) = false := decide_eq_false (by omega)
    go_enter Try.func15, Try.ntmps15
    go_wp2
    go_ret
    exact ⟨false, rfl, rfl, fun h => by cases h⟩
  · have t : decide (lo ≤ hi) = false := decide_eq_false (by omega)
    go_enter Try.func15, Try.ntmps15
    go_wp2
    go_ret
    exact ⟨false, rfl, rfl, fun h => by cases h⟩
  · have t : decide (hi ≤ len) = false := decide_eq_false (by omega)
    go_enter Try.func15, Try.ntmps15
    go_wp2
    go_ret
    exact ⟨false, rfl, rfl, fun h => by cases h⟩

theorem snocM {k : Nat} {f g : Nat → Value} (h : ∀ j, j < k → f j = g j) : ∀ j, j < k + 1 → (if j = k then g k else f j) = g j := by
  intro j hj
  by_cases e : j = k
  · subst e; simp
  · simp [e]; exact h j (by omega)

set_option maxHeartbeats 1000000 in
theorem cloneInts (ao : Option Addr) (b off n c : Nat) (hao : 0 < n → ao = some ⟨b, off, none⟩) (z : Nat → Int) (w : World) (hn : n ≤ 4096) (h : IntsAt w b off n z) :
    Calls Try.prog 16 #[.slice ao n c] w fun e w' => ∃ ao', e = .returned (.slice ao' n n) ∧ (0 < n → ao' = some ⟨w.heap.size, 0, none⟩) ∧ (0 < n → Ints w' w.heap.size n z) ∧ Below w.heap.size w w' := by
  have q22 : ∀ (w : World) (a : Option Addr) (n c n' c' : Nat), (binOp .eql 25 (.slice a n c) (.slice none n' c')).run Try.prog w = .ok (.bool a.isNone) w := fun w a n c n' c' => Lib.run_eql_slice_nil w _ _ a n c n' c' Try.underlying25
  have hmk := run_make_row' (P := Try.prog) 25 3 _ 8 Try.underlying25 Try.infoM3 rfl .i64 .i64 n (by omega) (by omega)
  cases ao with
  | none =>
    have h0 : n = 0 := by
      rcases Nat.eq_zero_or_pos n with h0 | h0
      · exact h0
      · exact absurd (hao h0) (by simp)
    subst h0
    go_enter Try.func16, Try.ntmps16
    go_wp2
    go_ret
    exact ⟨_, rfl, fun h => absurd h (by omega), fun h => absurd h (by omega), Below.refl _ _⟩
  | some a =>
  go_enter Try.func16, Try.ntmps16
  go_wp2
  go_loopw [4] (fun i wr => ∃ (k : Nat) (f : Nat → Value), k ≤ n ∧ i = .int .i64 k ∧ Below w.heap.size w wr ∧ wr.rowIs w.heap.size 3 n f ∧ ∀ j, j < k → f j = .int .i64 (z j)) (fun i _ => n - (intOf i).toNat)
  case atStart => exact ⟨0, _, Nat.zero_le _, rfl, (Below.refl _ _).alloc (Nat.le_refl _) _, World.rowIs_made _ _ _ _, fun j hj => absurd hj (by omega)⟩
  case round =>
    obtain ⟨k, f, hk, rfl, hbel, hrow, hf⟩ := hrel
    by_cases hlt : k < n
    · have h1 := h k hlt
      have hbs : b < w.heap.size := block_lt_of_cell h1
      obtain rfl : a = ⟨b, off, none⟩ := by simpa using hao (by omega)
      have g1 := (hbel.cell (p := ⟨b, off + k, none⟩) hbs).trans h1
      have f1 := hrow.frozen k
      have c1 := hrow.cell hlt
      have HF := hideM hf
      clear h h1 hf
      go_wp2
      go_roundw
      case rel => exact ⟨k + 1, _, by omega, by go_num, hbel.setCell (Nat.le_refl _) _, hrow.set _ _, snocM (g := fun j => .int .i64 (z j)) HF.out⟩
      case measure => simp [intOf]; omega
    · go_wp2
      go_ret
      exact ⟨_, rfl, fun _ => rfl, fun _ => hrow.congr (fun i hi => hf i (by omega)), hbel⟩

set_option maxHeartbeats 1000000 in
theorem identity (n : Nat) (w : World) (hn : n ≤ 4096) :
    Calls Try.prog 29 #[.int .i64 n] w fun e w' => e = .returned (.slice (some ⟨w.heap.size, 0, none⟩) n n) ∧ w'.heap.size = w.heap.size + 1 ∧ Ints w' w.heap.size n (fun i => (i : Int)) ∧ Below w.heap.size w w' := by
  have hmk := run_make_row' (P := Try.prog) 25 3 _ 8 Try.underlying25 Try.infoM3 rfl .i64 .i64 n (by omega) (by omega)
  go_enter Try.func29, Try.ntmps29
  go_wp2
  go_loopw [4] (fun i wr => ∃ (k : Nat) (f : Nat → Value), k ≤ n ∧ i = .int .i64 k ∧ Below w.heap.size w wr ∧ wr.heap.size = w.heap.size + 1 ∧ wr.rowIs w.heap.size 3 n f ∧ ∀ j, j < k → f j = .int .i64 (j : Int)) (fun i _ => n - (intOf i).toNat)
  case atStart => exact ⟨0, _, Nat.zero_le _, rfl, (Below.refl _ _).alloc (Nat.le_refl _) _, Deep.nblk_alloc _ _, World.rowIs_made _ _ _ _, fun j hj => absurd hj (by omega)⟩
  case round =>
    obtain ⟨k, f, hk, rfl, hbel, hsz, hrow, hf⟩ := hrel
    by_cases hlt : k < n
    · have f1 := hrow.frozen k
      have c1 := hrow.cell hlt
      have HF := hideM hf
      have HZ := hideM hsz
      clear hf hsz
      go_wp2
      go_roundw
      case rel => exact ⟨k + 1, _, by omega, by go_num, hbel.setCell (Nat.le_refl _) _, (Deep.nblk_setCell _ _ _).trans HZ.out, hrow.set _ _, snocM (g := fun j => .int .i64 (j : Int)) HF.out⟩
      case measure => simp [intOf]; omega
    · have HZ := hideM hsz
      clear hsz
      go_wp2
      go_ret
      exact ⟨rfl, HZ.out, hrow.congr (fun i hi => hf i (by omega)), hbel⟩

end Go.Proofs.Qxb6603371a
