import Derived.Test.Qxb6603341aWiC
import Derived.RegionTactic
import Derived.BigRegion
namespace Go.Proofs.Qxb6603341a
open Go.RowKit

/-- 'make([]T, n)' for an element of whatever size: for every world. -/
theorem run_make_any {P : Program} (t e : TypeId) (z : Value) (size bytes : Nat) (ht : P.underlying t = some (.slice e)) (hinfo : (P.info? e).map (fun i => (i.zero, i.size, i.bytes)) = some (some z, size, bytes))
    (n : Nat) (hbytes : bytes * n ≤ 281474976710656) (h63 : n ≤ 9223372036854775807) (w : World) :
    (Instr.makeSlice t (.int .i64 (n : Int)) (.int .i64 (n : Int))).run P w = .ok (.slice (some ⟨w.heap.size, 0, none⟩) n n) (w.alloc (.cells (madeCells z.cells (n * size)) e)) := by
  obtain ⟨i, hi, hz, hs, hb⟩ := info_parts hinfo
  have hb' : (i.bytes : Int) * (n : Int) ≤ 281474976710656 := by
    rw [hb]
    have h : ((bytes * n : Nat) : Int) ≤ 281474976710656 := by omega
    rwa [Int.natCast_mul] at h
  have hr := run_make (P := P) (w := w) t e i z ht hi hz .i64 .i64 n n (by omega) (Int.le_refl _) hb' (by omega)
  simp only [Int.toNat_natCast, hs] at hr
  exact hr

theorem rowIs_made_any (w : World) (zs : Array Value) (n : Nat) (t : TypeId) : (w.alloc (.cells (madeCells zs n) t)).rowIs w.heap.size t n (fun i => zs[i % zs.size]!) :=
  ⟨_, Deep.blk_alloc_new _ _, size_madeCells _ _, fun i hi => by simp [madeCells, hi]⟩

/-- The four cells of part j. -/
def PartAt (s0 s1 s2 : Nat → ByteArray) (fr f : Nat → Value) (j : Nat) : Prop := f (j * 4) = .string (s0 j) ∧ f (j * 4 + 1) = .string (s1 j) ∧ f (j * 4 + 2) = .string (s2 j) ∧ f (j * 4 + 3) = fr j

theorem part_step {s0 s1 s2 : Nat → ByteArray} {fr f : Nat → Value} {k : Nat} (h : ∀ j, j < k → PartAt s0 s1 s2 fr f j) {u : Value} (hu : u = fr k) :
    ∀ j, j < k + 1 → PartAt s0 s1 s2 fr (fun x => if x = k * 4 + 3 then u else if x = k * 4 + 2 then .string (s2 k) else if x = k * 4 + 1 then .string (s1 k) else if x = k * 4 then .string (s0 k) else f x) j := by
  intro j hj
  by_cases e : j = k
  · subst e
    refine ⟨?_, ?_, ?_, ?_⟩
    · simp
    · simp
    · simp
    · simpa using hu
  · obtain ⟨h1, h2, h3, h4⟩ := h j (by omega)
    refine ⟨?_, ?_, ?_, ?_⟩
    · simp only []; rw [if_neg (by omega), if_neg (by omega), if_neg (by omega), if_neg (by omega)]; exact h1
    · simp only []; rw [if_neg (by omega), if_neg (by omega), if_neg (by omega), if_neg (by omega)]; exact h2
    · simp only []; rw [if_neg (by omega), if_neg (by omega), if_neg (by omega), if_neg (by omega)]; exact h3
    · simp only []; rw [if_neg (by omega), if_neg (by omega), if_neg (by omega), if_neg (by omega)]; exact h4

set_option maxHeartbeats 1000000 in
theorem makeParts (ap ac al ar : Option Addr) (bp bc bl br n : Nat) (hp : 0 < n → ap = some ⟨bp, 0, none⟩) (hc : 0 < n → ac = some ⟨bc, 0, none⟩) (hl : 0 < n → al = some ⟨bl, 0, none⟩) (hr : 0 < n → ar = some ⟨br, 0, none⟩)
    (s0 s1 s2 : Nat → ByteArray) (fr : Nat → Value) (L : Nat → Nat) (w : World) (hn : n ≤ 65536)
    (r0 : 0 < n → w.rowIs bp 9 n (fun i => .string (s0 i))) (r1 : 0 < n → w.rowIs bc 9 n (fun i => .string (s1 i))) (r2 : 0 < n → w.rowIs bl 9 n (fun i => .string (s2 i))) (r3 : 0 < n → w.rowIs br 30 n fr) (hfr : ∀ j, j < n → RecCell L (fr j) j) :
    Calls Try.prog 14 #[.slice ap n n, .slice ac n n, .slice al n n, .slice ar n n] w fun e w' => ∃ ao' f, e = .returned (.slice ao' n n) ∧ (0 < n → ao' = some ⟨w.heap.size, 0, none⟩) ∧ (0 < n → w'.rowIs w.heap.size 42 (n * 4) f) ∧ (∀ j, j < n → PartAt s0 s1 s2 fr f j) ∧ Below w.heap.size w w' := by
  have q22 : ∀ (w : World) (a : Option Addr) (n c n' c' : Nat), (binOp .eql 32 (.slice a n c) (.slice none n' c')).run Try.prog w = .ok (.bool a.isNone) w := fun w a n c n' c' => Lib.run_eql_slice_nil w _ _ a n c n' c' Try.underlying32
  have hmk := run_make_any (P := Try.prog) 35 42 _ 4 72 Try.underlying35 Try.info42 n (by omega) (by omega)
  cases ap with
  | none =>
    have h0 : n = 0 := by
      rcases Nat.eq_zero_or_pos n with h0 | h0
      · exact h0
      · exact absurd (hp h0) (by simp)
    subst h0
    go_enter Try.func14, Try.ntmps14
    go_wp2_with fail
    go_ret
    exact ⟨_, fun _ => .bool false, rfl, fun h => absurd h (by omega), fun h => absurd h (by omega), fun j hj => absurd hj (by omega), Below.refl _ _⟩
  | some a =>
  go_enter Try.func14, Try.ntmps14
  go_wp2_with fail
  go_loopw [11] (fun i wr => ∃ (k : Nat) (f : Nat → Value), k ≤ n ∧ i = .int .i64 k ∧ Below w.heap.size w wr ∧ wr.rowIs w.heap.size 42 (n * 4) f ∧ ∀ j, j < k → PartAt s0 s1 s2 fr f j) (fun i _ => n - (intOf i).toNat)
  case atStart => exact ⟨0, _, Nat.zero_le _, rfl, (Below.refl _ _).alloc (Nat.le_refl _) _, rowIs_made_any _ _ _ _, fun j hj => absurd hj (by omega)⟩
  case round =>
    obtain ⟨k, f, hk, rfl, hbel, hrow, hf⟩ := hrel
    by_cases hlt : k < n
    · obtain rfl : a = ⟨bp, 0, none⟩ := by simpa using hp (by omega)
      obtain rfl := hc (by omega)
      obtain rfl := hl (by omega)
      obtain rfl := hr (by omega)
      obtain ⟨ak, hak⟩ := hfr k hlt
      have x0 := (hbel.cell (p := ⟨bp, k, none⟩) (r0 (by omega)).lt).trans ((r0 (by omega)).cell hlt)
      have x1 := (hbel.cell (p := ⟨bc, k, none⟩) (r1 (by omega)).lt).trans ((r1 (by omega)).cell hlt)
      have x2 := (hbel.cell (p := ⟨bl, k, none⟩) (r2 (by omega)).lt).trans ((r2 (by omega)).cell hlt)
      have x3 := (hbel.cell (p := ⟨br, k, none⟩) (r3 (by omega)).lt).trans ((r3 (by omega)).cell hlt)
      rw [hak] at x3
      have HK := hide hak
      have HF := hide hf
      have f0 := hrow.frozen (k * 4)
      have f1 := hrow.frozen (k * 4 + 1)
      have f2 := hrow.frozen (k * 4 + 2)
      have f3 := hrow.frozen (k * 4 + 3)
      have c0 := hrow.cell (i := k * 4) (by omega)
      have c1 := hrow.cell (i := k * 4 + 1) (by omega)
      have c2 := hrow.cell (i := k * 4 + 2) (by omega)
      have c3 := hrow.cell (i := k * 4 + 3) (by omega)
      have hltI : (k : Int) < (n : Int) := by omega
      clear hf hak hfr r0 r1 r2 r3 hp hc hl hr hmk q22
      go_wp2_with fail
      go_region
      all_goals
        go_wp2_with fail
        go_roundw
        case rel => exact ⟨k + 1, _, by omega, by go_num, ((((hbel.setCell (Nat.le_refl _) _).setCell (Nat.le_refl _) _).setCell (Nat.le_refl _) _).setCell (Nat.le_refl _) _).drew, ((((hrow.set _ _).set _ _).set _ _).set _ _).drew, part_step HF.out HK.out.symm⟩
        case measure => simp [intOf]; omega
    · go_wp2_with fail
      go_ret
      exact ⟨_, f, rfl, fun _ => rfl, fun _ => hrow, fun j hj => hf j (by omega), hbel⟩

end Go.Proofs.Qxb6603341a
