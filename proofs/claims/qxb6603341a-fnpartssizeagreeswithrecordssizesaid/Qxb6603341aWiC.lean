import Derived.Test.Qxb6603341aWiB
namespace Go.Proofs.Qxb6603341a
open Go.RowKit

theorem Try.info5 : (Try.prog.info? 5).map (fun i => (i.zero, i.size, i.bytes)) = some (some (.int .u8 0), 1, 1) := by kernel_rfl
theorem Try.info9 : (Try.prog.info? 9).map (fun i => (i.zero, i.size, i.bytes)) = some (some (.string ByteArray.empty), 1, 16) := by kernel_rfl
theorem Try.info30 : (Try.prog.info? 30).map (fun i => (i.zero, i.size, i.bytes)) = some (some (.slice none 0 0), 1, 24) := by kernel_rfl
theorem Try.info42 : (Try.prog.info? 42).map (fun i => (i.zero, i.size, i.bytes)) = some (some (.agg #[.string ByteArray.empty, .string ByteArray.empty, .string ByteArray.empty, .slice none 0 0]), 4, 72) := by kernel_rfl

theorem snoc_step {k : Nat} {f g : Nat → Value} (h : ∀ j, j < k → f j = g j) : ∀ j, j < k + 1 → (if j = k then g k else f j) = g j := by
  intro j hj
  by_cases e : j = k
  · subst e; simp
  · simp [e]; exact h j (by omega)

set_option maxHeartbeats 400000 in
theorem cloneStrs (ao : Option Addr) (b off n c : Nat) (hao : 0 < n → ao = some ⟨b, off, none⟩) (s : Nat → ByteArray) (w : World) (hn : n ≤ 65536) (h : StrsAt w b off n s) :
    Calls Try.prog 13 #[.slice ao n c] w fun e w' => ∃ ao', e = .returned (.slice ao' n n) ∧ (0 < n → ao' = some ⟨w.heap.size, 0, none⟩) ∧ (0 < n → w'.rowIs w.heap.size 9 n (fun i => .string (s i))) ∧ Below w.heap.size w w' := by
  have q22 : ∀ (w : World) (a : Option Addr) (n c n' c' : Nat), (binOp .eql 32 (.slice a n c) (.slice none n' c')).run Try.prog w = .ok (.bool a.isNone) w := fun w a n c n' c' => Lib.run_eql_slice_nil w _ _ a n c n' c' Try.underlying32
  have hmk := run_make_row' (P := Try.prog) 32 9 _ 16 Try.underlying32 Try.info9 rfl .i64 .i64 n (by omega) (by omega)
  cases ao with
  | none =>
    have h0 : n = 0 := by
      rcases Nat.eq_zero_or_pos n with h0 | h0
      · exact h0
      · exact absurd (hao h0) (by simp)
    subst h0
    go_enter Try.func13, Try.ntmps13
    go_wp2
    go_ret
    exact ⟨_, rfl, fun h => absurd h (by omega), fun h => absurd h (by omega), Below.refl _ _⟩
  | some a =>
  go_enter Try.func13, Try.ntmps13
  go_wp2
  go_loopw [4] (fun i wr => ∃ (k : Nat) (f : Nat → Value), k ≤ n ∧ i = .int .i64 k ∧ Below w.heap.size w wr ∧ wr.rowIs w.heap.size 9 n f ∧ ∀ j, j < k → f j = .string (s j)) (fun i _ => n - (intOf i).toNat)
  case atStart => exact ⟨0, _, Nat.zero_le _, rfl, (Below.refl _ _).alloc (Nat.le_refl _) _, World.rowIs_made _ _ _ _, fun j hj => absurd hj (by omega)⟩
  case round =>
    obtain ⟨k, f, hk, rfl, hbel, hrow, hf⟩ := hrel
    by_cases hlt : k < n
    · obtain ⟨h1, h2⟩ := h k hlt
      have hbs : b < w.heap.size := block_lt_of_cell h1
      obtain rfl : a = ⟨b, off, none⟩ := by simpa using hao (by omega)
      have g1 := (hbel.cell (p := ⟨b, off + k, none⟩) hbs).trans h1
      have f1 := hrow.frozen k
      have c1 := hrow.cell hlt
      have HF := hide hf
      clear h h1 hf
      go_wp2
      go_roundw
      case rel => exact ⟨k + 1, _, by omega, by go_num, hbel.setCell (Nat.le_refl _) _, hrow.set _ _, snoc_step (g := fun j => .string (s j)) HF.out⟩
      case measure => simp [intOf]; omega
    · go_wp2
      go_ret
      exact ⟨_, rfl, fun _ => rfl, fun _ => hrow.congr (fun i hi => hf i (by omega)), hbel⟩

set_option maxHeartbeats 400000 in
theorem cloneBytes (ao : Option Addr) (n c : Nat) (w : World) (hn : n ≤ 1048576) (hb : BytesAt w ao n) :
    Calls Try.prog 18 #[.slice ao n c] w fun e w' => ∃ ao', e = .returned (.slice ao' n n) ∧ Below w.heap.size w w' := by
  obtain ⟨b, off, z, hao, h⟩ := hb
  have q22 : ∀ (w : World) (a : Option Addr) (n c n' c' : Nat), (binOp .eql 30 (.slice a n c) (.slice none n' c')).run Try.prog w = .ok (.bool a.isNone) w := fun w a n c n' c' => Lib.run_eql_slice_nil w _ _ a n c n' c' Try.underlying30
  have hmk := run_make_row' (P := Try.prog) 30 5 _ 1 Try.underlying30 Try.info5 rfl .i64 .i64 n (by omega) (by omega)
  cases ao with
  | none =>
    have h0 : n = 0 := by
      rcases Nat.eq_zero_or_pos n with h0 | h0
      · exact h0
      · exact absurd (hao h0) (by simp)
    subst h0
    go_enter Try.func18, Try.ntmps18
    go_wp2
    go_ret
    exact ⟨_, rfl, Below.refl _ _⟩
  | some a =>
  go_enter Try.func18, Try.ntmps18
  go_wp2
  go_loopw [4] (fun i wr => ∃ (k : Nat) (f : Nat → Value), k ≤ n ∧ i = .int .i64 k ∧ Below w.heap.size w wr ∧ wr.rowIs w.heap.size 5 n f) (fun i _ => n - (intOf i).toNat)
  case atStart => exact ⟨0, _, Nat.zero_le _, rfl, (Below.refl _ _).alloc (Nat.le_refl _) _, World.rowIs_made _ _ _ _⟩
  case round =>
    obtain ⟨k, f, hk, rfl, hbel, hrow⟩ := hrel
    by_cases hlt : k < n
    · have h1 := h k hlt
      have hbs : b < w.heap.size := block_lt_of_cell h1
      obtain rfl : a = ⟨b, off, none⟩ := by simpa using hao (by omega)
      have g1 := (hbel.cell (p := ⟨b, off + k, none⟩) hbs).trans h1
      have f1 := hrow.frozen k
      have c1 := hrow.cell hlt
      clear h h1
      go_wp2
      go_roundw
      case rel => exact ⟨k + 1, _, by omega, by go_num, hbel.setCell (Nat.le_refl _) _, hrow.set _ _⟩
      case measure => simp [intOf]; omega
    · go_wp2
      go_ret
      exact ⟨_, rfl, hbel⟩

/-- A reading carried to a later world. -/
theorem BytesAt.later {w w' : World} {a : Option Addr} {n B : Nat} (h : BytesAt w a n) (hb : Below B w w') (hB : w.heap.size ≤ B) : BytesAt w' a n := by
  obtain ⟨b, off, z, h1, h2⟩ := h
  refine ⟨b, off, z, h1, fun j hj => ?_⟩
  have := block_lt_of_cell (h2 j hj)
  exact (hb.cell (p := ⟨b, off + j, none⟩) (by simp at this ⊢; omega)).trans (h2 j hj)

/-- Cell j of a row of records: a slice of length L j. -/
def RecCell (L : Nat → Nat) (v : Value) (j : Nat) : Prop := ∃ a, v = .slice a (L j) (L j)

theorem rec_step {L : Nat → Nat} {k : Nat} {f : Nat → Value} {ak : Option Addr} (h : ∀ j, j < k → RecCell L (f j) j) : ∀ j, j < k + 1 → RecCell L (if j = k then .slice ak (L k) (L k) else f j) j := by
  intro j hj
  by_cases e : j = k
  · subst e; exact ⟨ak, by simp⟩
  · simp [e]; exact h j (by omega)

set_option maxHeartbeats 1000000 in
theorem cloneRecs (ao : Option Addr) (b off n c : Nat) (hao : 0 < n → ao = some ⟨b, off, none⟩) (A : Nat → Option Addr) (L C : Nat → Nat) (w : World) (hn : n ≤ 65536) (hL : ∀ i, i < n → L i ≤ 1048576)
    (h : RecsAt w b off n A L C) (hby : ∀ i, i < n → BytesAt w (A i) (L i)) :
    Calls Try.prog 9 #[.slice ao n c] w fun e w' => ∃ ao' f, e = .returned (.slice ao' n n) ∧ (0 < n → ao' = some ⟨w.heap.size, 0, none⟩) ∧ (0 < n → w'.rowIs w.heap.size 30 n f) ∧ (∀ j, j < n → RecCell L (f j) j) ∧ Below w.heap.size w w' := by
  have q22 : ∀ (w : World) (a : Option Addr) (n c n' c' : Nat), (binOp .eql 25 (.slice a n c) (.slice none n' c')).run Try.prog w = .ok (.bool a.isNone) w := fun w a n c n' c' => Lib.run_eql_slice_nil w _ _ a n c n' c' Try.underlying25
  have hmk := run_make_row' (P := Try.prog) 25 30 _ 24 Try.underlying25 Try.info30 rfl .i64 .i64 n (by omega) (by omega)
  cases ao with
  | none =>
    have h0 : n = 0 := by
      rcases Nat.eq_zero_or_pos n with h0 | h0
      · exact h0
      · exact absurd (hao h0) (by simp)
    subst h0
    go_enter Try.func9, Try.ntmps9
    go_wp2_with fail
    go_ret
    exact ⟨_, fun _ => .bool false, rfl, fun h => absurd h (by omega), fun h => absurd h (by omega), fun j hj => absurd hj (by omega), Below.refl _ _⟩
  | some a =>
  go_enter Try.func9, Try.ntmps9
  go_wp2_with fail
  go_loopw [4] (fun i wr => ∃ (k : Nat) (f : Nat → Value), k ≤ n ∧ i = .int .i64 k ∧ Below w.heap.size w wr ∧ wr.rowIs w.heap.size 30 n f ∧ ∀ j, j < k → RecCell L (f j) j) (fun i _ => n - (intOf i).toNat)
  case atStart => exact ⟨0, _, Nat.zero_le _, rfl, (Below.refl _ _).alloc (Nat.le_refl _) _, World.rowIs_made _ _ _ _, fun j hj => absurd hj (by omega)⟩
  case round =>
    obtain ⟨k, f, hk, rfl, hbel, hrow, hf⟩ := hrel
    by_cases hlt : k < n
    · obtain ⟨h1, h2⟩ := h k hlt
      have hbs : b < w.heap.size := block_lt_of_cell h1
      obtain rfl : a = ⟨b, off, none⟩ := by simpa using hao (by omega)
      have g1 := (hbel.cell (p := ⟨b, off + k, none⟩) hbs).trans h1
      have HF := hide hf
      have HB := hide ((hby k hlt).later hbel (Nat.le_refl _))
      have hLk := hL k hlt
      clear h h1 hf hby hL
      go_wp2_with fail
      refine (cloneBytes (A k) (L k) (C k) _ hLk HB.out).mono ?_
      rintro e w1 ⟨ak, rfl, hb1⟩
      have hs := hbel.size
      have hrow1 : w1.rowIs w.heap.size 30 n f := hrow.of_block (hb1.block _ hrow.lt)
      have f1 := hrow1.frozen k
      have c1 := hrow1.cell hlt
      have hbel1 : Below w.heap.size w w1 := hbel.trans (hb1.mono hs)
      clear hb1 hbel hrow
      go_wp2_with fail
      go_roundw
      case rel => exact ⟨k + 1, _, by omega, by go_num, hbel1.setCell (Nat.le_refl _) _, hrow1.set _ _, rec_step HF.out⟩
      case measure => simp [intOf]; omega
    · go_wp2_with fail
      go_ret
      exact ⟨_, f, rfl, fun _ => rfl, fun _ => hrow, fun j hj => hf j (by omega), hbel⟩

end Go.Proofs.Qxb6603341a
