import Derived.Test.Qxb6603371aGrpA
namespace Go.Proofs.Qxb6603371a
open Go.RowKit

theorem Try.info30 : (Try.prog.info? 30).map (fun i => (i.zero, i.size, i.bytes)) = some (some (.agg #[.int .u8 0, .string ByteArray.empty]), 2, 24) := by kernel_rfl

/-- 'make([]T, n)' for an element of whatever size: for every world. -/
theorem run_make_any {P : Program} (t e : TypeId) (z : Value) (size bytes : Nat) (ht : P.underlying t = some (.slice e)) (hinfo : (P.info? e).map (fun i => (i.zero, i.size, i.bytes)) = some (some z, size, bytes))
    (n : Nat) (hbytes : bytes * n ≤ 281474976710656) (h63 : n ≤ 9223372036854775807) (w : World) :
    (Instr.makeSlice t (.int .i64 (n : Int)) (.int .i64 (n : Int))).run P w = .ok (.slice (some ⟨w.heap.size, 0, none⟩) n n) (w.alloc (.cells (madeCells z.cells (n * size)) e)) := by
  obtain ⟨i, hi, hz, hs, hb⟩ := info_parts hinfo
  have hb' : (i.bytes : Int) * (n : Int) ≤ 281474976710656 := by
    rw [hb]
    have h : ((bytes * n : Nat) : Int) ≤ 281474976710656 := by omega
    rwa [Int.natCast_mul] at h
  have hr := run_make (P := P) (w := w) t e i z ht hi hz .i64 .i64 n n (by omega) (Int.le_refl _) hb' (by omega)
  simp only [Int.toNat_natCast, hs] at hr
  exact hr

/-- The cell j of a row of lines. -/
def lineCell (ops : Nat → Int) (tx : Nat → ByteArray) (j : Nat) : Value := if j % 2 = 0 then .int .u8 (ops (j / 2)) else .string (tx (j / 2))

theorem line_step {ops : Nat → Int} {tx : Nat → ByteArray} {k : Nat} {f : Nat → Value} (h : ∀ j, j < k * 2 → f j = lineCell ops tx j) :
    ∀ j, j < (k + 1) * 2 → (if j = k * 2 + 1 then Value.string (tx k) else if j = k * 2 then Value.int .u8 (ops k) else f j) = lineCell ops tx j := by
  intro j hj
  by_cases h1 : j = k * 2 + 1
  · subst h1
    have e1 : (k * 2 + 1) % 2 = 1 := by omega
    have e2 : (k * 2 + 1) / 2 = k := by omega
    simp [lineCell, e1, e2]
  · rw [if_neg h1]
    by_cases h2 : j = k * 2
    · subst h2
      have e2 : k * 2 / 2 = k := by omega
      simp [lineCell, e2]
    · rw [if_neg h2]
      exact h j (by omega)

theorem rowIs_made_any (w : World) (zs : Array Value) (n : Nat) (t : TypeId) : (w.alloc (.cells (madeCells zs n) t)).rowIs w.heap.size t n (fun i => zs[i % zs.size]!) :=
  ⟨_, Deep.blk_alloc_new _ _, size_madeCells _ _, fun i hi => by simp [madeCells, hi]⟩

set_option maxHeartbeats 400000 in
theorem cloneLines (ao : Option Addr) (b off n c : Nat) (hao : 0 < n → ao = some ⟨b, off, none⟩) (ops : Nat → Int) (tx : Nat → ByteArray) (w : World) (hn : n ≤ 43690) (h : LinesAt w b off n ops tx) :
    Calls Try.prog 11 #[.slice ao n c] w fun e w' => ∃ ao', e = .returned (.slice ao' n n) ∧ (0 < n → ao' = some ⟨w.heap.size, 0, none⟩) ∧ (0 < n → w'.rowIs w.heap.size 30 (n * 2) (lineCell ops tx)) ∧ Below w.heap.size w w' := by
  have q22 : ∀ (w : World) (a : Option Addr) (n c n' c' : Nat), (binOp .eql 22 (.slice a n c) (.slice none n' c')).run Try.prog w = .ok (.bool a.isNone) w := fun w a n c n' c' => Lib.run_eql_slice_nil w _ _ a n c n' c' Try.underlying22
  have hmk := run_make_any (P := Try.prog) 22 30 _ 2 24 Try.underlying22 Try.info30 n (by omega) (by omega)
  cases ao with
  | none =>
    have h0 : n = 0 := by
      rcases Nat.eq_zero_or_pos n with h0 | h0
      · exact h0
      · exact absurd (hao h0) (by simp)
    subst h0
    go_enter Try.func11, Try.ntmps11
    go_wp2
    go_ret
    exact ⟨_, rfl, fun h => absurd h (by omega), fun h => absurd h (by omega), Below.refl _ _⟩
  | some a =>
  go_enter Try.func11, Try.ntmps11
  go_wp2
  go_loopw [4] (fun i wr => ∃ (k : Nat) (f : Nat → Value), k ≤ n ∧ i = .int .i64 k ∧ Below w.heap.size w wr ∧ wr.rowIs w.heap.size 30 (n * 2) f ∧ ∀ j, j < k * 2 → f j = lineCell ops tx j) (fun i _ => n - (intOf i).toNat)
  case atStart => exact ⟨0, _, Nat.zero_le _, rfl, (Below.refl _ _).alloc (Nat.le_refl _) _, rowIs_made_any _ _ _ _, fun j hj => absurd hj (by omega)⟩
  case round =>
    obtain ⟨k, f, hk, rfl, hbel, hrow, hf⟩ := hrel
    by_cases hlt : k < n
    · obtain ⟨h1, h2, h3⟩ := h k hlt
      have hbs : b < w.heap.size := block_lt_of_cell h1
      obtain rfl : a = ⟨b, off, none⟩ := by simpa using hao (by omega)
      have g1 := (hbel.cell (p := ⟨b, off + k * 2, none⟩) hbs).trans h1
      have g2 := (hbel.cell (p := ⟨b, off + k * 2 + 1, none⟩) hbs).trans h2
      have f1 := hrow.frozen (k * 2)
      have f2 := hrow.frozen (k * 2 + 1)
      have c1 := hrow.cell (i := k * 2) (by omega)
      have c2 := hrow.cell (i := k * 2 + 1) (by omega)
      have HF : Hid (∀ j, j < k * 2 → f j = lineCell ops tx j) := hf
      clear h h1 h2 hf
      go_wp2
      go_roundw
      case rel => exact ⟨k + 1, _, by omega, by go_num, (hbel.setCell (Nat.le_refl _) _).setCell (Nat.le_refl _) _, (hrow.set _ _).set _ _, line_step HF.out⟩
      case measure => simp [intOf]; omega
    · go_wp2
      go_ret
      exact ⟨_, rfl, fun _ => rfl, fun _ => hrow.congr (fun i hi => hf i (by omega)), hbel⟩
end Go.Proofs.Qxb6603371a
