import Derived.Test.Qxb6603371aGrpC
import Derived.RegionTactic
namespace Go.Proofs.Qxb6603371a
open Go.RowKit

theorem Try.info52 : (Try.prog.info? 52).map (fun i => (i.zero, i.size, i.bytes)) = some (some (.agg #[.int .u8 0, .string ByteArray.empty]), 2, 24) := by kernel_rfl
theorem Try.info3 : (Try.prog.info? 3).map (fun i => (i.zero, i.size, i.bytes)) = some (some (.int .i64 0), 1, 8) := by kernel_rfl
theorem Try.info5 : (Try.prog.info? 5).map (fun i => (i.zero, i.size, i.bytes)) = some (some (.int .u8 0), 1, 1) := by kernel_rfl
theorem Try.info9 : (Try.prog.info? 9).map (fun i => (i.zero, i.size, i.bytes)) = some (some (.string ByteArray.empty), 1, 16) := by kernel_rfl
theorem Try.info4 : (Try.prog.info? 4).map (fun i => (i.zero, i.size, i.bytes)) = some (some (.bool false), 1, 1) := by kernel_rfl

theorem results_tmp4 {fn : Func} {t u v x : Tmp} (h : fn.results = #[.tmp t, .tmp u, .tmp v, .tmp x]) (tmps : Array Value) (P : Program) (w : World) :
    (results fn tmps).run P w = .ok (.tuple #[tmps.getD t undef, tmps.getD u undef, tmps.getD v undef, tmps.getD x undef]) w := by
  simp [results, h]

theorem hk_cell (hs : List Hk) (i q : Nat) (hi : i < hs.length) (hq : q < 4) : (hkCells hs)[i * 4 + q]? = some (.int .i64 (hkAt hs q i)) := by
  induction hs generalizing i with
  | nil => simp at hi
  | cons h t ih =>
    cases i with
    | zero =>
      rcases (show q = 0 ∨ q = 1 ∨ q = 2 ∨ q = 3 from by omega) with rfl | rfl | rfl | rfl <;> simp [hkCells, hkAt]
    | succ i =>
      have e : hkCells (h :: t) = [.int .i64 h.fs, .int .i64 h.ts, .int .i64 h.first, .int .i64 h.fin] ++ hkCells t := by simp [hkCells]
      rw [e, List.getElem?_append_right (by simp; omega)]
      have e2 : (i + 1) * 4 + q - [Value.int .i64 h.fs, .int .i64 h.ts, .int .i64 h.first, .int .i64 h.fin].length = i * 4 + q := by simp; omega
      rw [e2, ih i (by simpa using hi)]
      simp [hkAt]

/-- Block b holds the numbers f. -/
def RowInts (w : World) (b m : Nat) (f : Nat → Int) : Prop := w.rowIs b 3 m (fun i => .int .i64 (f i))

theorem rowLines_of {w : World} {b n : Nat} {t : TypeId} {f : Nat → Value} {ops : Nat → Int} {tx : Nat → ByteArray} (h : w.rowIs b t (n * 2) f) (hf : ∀ j, j < n * 2 → f j = lineCell ops tx j) : RowLines w b n ops tx := by
  intro i hi
  have e1 := hf (i * 2) (by omega)
  have e2 := hf (i * 2 + 1) (by omega)
  have m1 : (i * 2 + 1) % 2 = 1 := by omega
  have m2 : (i * 2 + 1) / 2 = i := by omega
  have m3 : i * 2 / 2 = i := by omega
  refine ⟨?_, ?_⟩
  · rw [h.cell (i := i * 2) (by omega), e1]
    simp [lineCell, m3]
  · rw [h.cell (i := i * 2 + 1) (by omega), e2]
    simp [lineCell, m1, m2]

/-- Block g holds m numbers, of which the first k are field q of the hunks. -/
def Part (w : World) (hs : List Hk) (q g m k : Nat) : Prop := ∃ f, w.rowIs g 3 m f ∧ ∀ j, j < k → f j = .int .i64 (hkAt hs q j)

theorem Part.cell {w : World} {hs : List Hk} {q g m k : Nat} (h : Part w hs q g m k) {j : Nat} (hj : j < m) : ∃ u, w.cell? ⟨g, j, none⟩ = some u := by
  obtain ⟨f, hr, _⟩ := h
  exact ⟨_, hr.cell hj⟩
theorem Part.frozen {w : World} {hs : List Hk} {q g m k : Nat} (h : Part w hs q g m k) (j : Nat) : w.frozen? ⟨g, j, none⟩ = false := by
  obtain ⟨f, hr, _⟩ := h
  exact hr.frozen j
theorem Part.store {w : World} {hs : List Hk} {q g m k : Nat} (h : Part w hs q g m k) : Part (w.setCell ⟨g, k, none⟩ (.int .i64 (hkAt hs q k))) hs q g m (k + 1) := by
  obtain ⟨f, hr, hf⟩ := h
  refine ⟨_, hr.set _ _, fun j hj => ?_⟩
  by_cases e : j = k
  · subst e; simp
  · simp [e]; exact hf j (by omega)
theorem Part.other {w : World} {hs : List Hk} {q g m k b j : Nat} {u : Value} (h : Part w hs q g m k) (hb : g ≠ b) : Part (w.setCell ⟨b, j, none⟩ u) hs q g m k := by
  obtain ⟨f, hr, hf⟩ := h
  exact ⟨f, hr.setOther hb _, hf⟩
theorem Part.alloc {w : World} {hs : List Hk} {q g m k : Nat} {o : Obj} (h : Part w hs q g m k) : Part (w.alloc o) hs q g m k := by
  obtain ⟨f, hr, hf⟩ := h
  exact ⟨f, hr.alloc _, hf⟩
theorem Part.start (w : World) (hs : List Hk) (q m : Nat) : Part (w.alloc (.cells (madeCells #[.int .i64 0] m) 3)) hs q w.heap.size m 0 :=
  ⟨_, rowIs_made_any _ _ _ _, fun j hj => absurd hj (by omega)⟩
theorem Part.whole {w : World} {hs : List Hk} {q g m : Nat} (h : Part w hs q g m m) : RowInts w g m (hkAt hs q) := by
  obtain ⟨f, hr, hf⟩ := h
  exact hr.congr hf

set_option maxHeartbeats 1000000 in
theorem zzGroup (bo bt n : Nat) (ops : Nat → Int) (tx : Nat → ByteArray) (w : World) (hn : n ≤ 43690) (ho : w.rowIs bo 5 n (fun i => .int .u8 (ops i))) (ht : w.rowIs bt 9 n (fun i => .string (tx i))) :
    Calls Try.prog 27 #[.slice (some ⟨bo, 0, none⟩) n n, .slice (some ⟨bt, 0, none⟩) n n] w fun e w' => ∃ g, w.heap.size ≤ g ∧
      e = .returned (.tuple #[.slice (some ⟨g, 0, none⟩) (grp ops n n).length (grp ops n n).length, .slice (some ⟨g + 1, 0, none⟩) (grp ops n n).length (grp ops n n).length,
        .slice (some ⟨g + 1 + 1, 0, none⟩) (grp ops n n).length (grp ops n n).length, .slice (some ⟨g + 1 + 1 + 1, 0, none⟩) (grp ops n n).length (grp ops n n).length]) ∧
      RowInts w' g (grp ops n n).length (hkAt (grp ops n n) 0) ∧ RowInts w' (g + 1) (grp ops n n).length (hkAt (grp ops n n) 1) ∧ RowInts w' (g + 1 + 1) (grp ops n n).length (hkAt (grp ops n n) 2) ∧ RowInts w' (g + 1 + 1 + 1) (grp ops n n).length (hkAt (grp ops n n) 3) ∧
      Below w.heap.size w w' := by
  have hmk := run_make_any (P := Try.prog) 50 52 _ 2 24 Try.underlying50 Try.info52 n (by omega) (by omega)
  go_enter Try.func27, Try.ntmps27
  go_wp2
  go_loopw [21] (fun i wr => ∃ (k : Nat) (f : Nat → Value), k ≤ n ∧ i = .int .i64 k ∧ Below w.heap.size w wr ∧ wr.rowIs w.heap.size 52 (n * 2) f ∧ ∀ j, j < k * 2 → f j = lineCell ops tx j) (fun i _ => n - (intOf i).toNat)
  case atStart => exact ⟨0, _, Nat.zero_le _, rfl, (Below.refl _ _).alloc (Nat.le_refl _) _, rowIs_made_any _ _ _ _, fun j hj => absurd hj (by omega)⟩
  case round =>
    obtain ⟨k, f, hk, rfl, hbel, hrow, hf⟩ := hrel
    have b1 := ho.lt
    have b2 := ht.lt
    by_cases hlt : k < n
    · have g1 := (hbel.cell (p := ⟨bo, k, none⟩) b1).trans (ho.cell hlt)
      have g2 := (hbel.cell (p := ⟨bt, k, none⟩) b2).trans (ht.cell hlt)
      have f1 := hrow.frozen (k * 2)
      have f2 := hrow.frozen (k * 2 + 1)
      have c1 := hrow.cell (i := k * 2) (by omega)
      have c2 := hrow.cell (i := k * 2 + 1) (by omega)
      have HF : Hid (∀ j, j < k * 2 → f j = lineCell ops tx j) := hf
      have hltI : (k : Int) < (n : Int) := by omega
      clear hf
      go_wp2
      go_region
      all_goals
        go_wp2
        go_roundw
        case rel => exact ⟨k + 1, _, by omega, by go_num, ((hbel.setCell (Nat.le_refl _) _).setCell (Nat.le_refl _) _).drew, ((hrow.set _ _).set _ _).drew, line_step HF.out⟩
        case measure => simp [intOf]; omega
    · have hrl : RowLines wr w.heap.size n ops tx := rowLines_of hrow (fun j hj => hf j (by omega))
      have hm := grp_length ops n n
      have hmk3 := run_make_any (P := Try.prog) 25 3 _ 1 8 Try.underlying25 Try.info3 (grp ops n n).length (by omega) (by omega)
      clear hmk hf hrow
      go_wp2_with fail
      refine (groupAny w.heap.size n ops tx _ hn hrl).mono ?_
      rintro e w1 ⟨v, rfl, hown, hb1⟩
      obtain ⟨ao, cap, hv, hao⟩ := own_shape hown
      subst hv
      have hbw : Below w.heap.size w w1 := hbel.trans (hb1.mono (by have := hbel.size; omega))
      clear hrl hb1 hbel ho ht b1 b2
      go_wp2_with fail
      go_loopw [53] (fun i w2 => ∃ k : Nat, k ≤ (grp ops n n).length ∧ i = .int .i64 k ∧ Below w1.heap.size w1 w2 ∧ Part w2 (grp ops n n) 0 w1.heap.size (grp ops n n).length k ∧ Part w2 (grp ops n n) 1 (w1.heap.size + 1) (grp ops n n).length k ∧
        Part w2 (grp ops n n) 2 (w1.heap.size + 1 + 1) (grp ops n n).length k ∧ Part w2 (grp ops n n) 3 (w1.heap.size + 1 + 1 + 1) (grp ops n n).length k) (fun i _ => (grp ops n n).length - (intOf i).toNat)
      case atStart => exact ⟨0, Nat.zero_le _, rfl, ((((Below.refl _ _).alloc (Nat.le_refl _) _).alloc (by simp) _).alloc (by simp; omega) _).alloc (by simp; omega) _, ((Part.start w1 _ 0 _).alloc.alloc.alloc), (by simpa using (Part.start (w1.alloc _) _ 1 _).alloc.alloc), (by simpa using (Part.start ((w1.alloc _).alloc _) _ 2 _).alloc), (by simpa using (Part.start (((w1.alloc _).alloc _).alloc _) _ 3 _))⟩
      case round =>
        obtain ⟨j, hj, rfl, hb2, p0, p1, p2, p3⟩ := hrel
        by_cases hlt2 : j < (grp ops n n).length
        · obtain ⟨g, rfl⟩ := hao (by omega)
          have hg := (hown.lt g rfl).2
          have q0 := (hb2.cell (p := ⟨g, j * 4, none⟩) hg).trans ((hown.cellAt (j * 4) (by omega)).trans (hk_cell _ j 0 hlt2 (by omega)))
          have q1 := (hb2.cell (p := ⟨g, j * 4 + 1, none⟩) hg).trans ((hown.cellAt (j * 4 + 1) (by omega)).trans (hk_cell _ j 1 hlt2 (by omega)))
          have q2 := (hb2.cell (p := ⟨g, j * 4 + 2, none⟩) hg).trans ((hown.cellAt (j * 4 + 2) (by omega)).trans (hk_cell _ j 2 hlt2 (by omega)))
          have q3 := (hb2.cell (p := ⟨g, j * 4 + 3, none⟩) hg).trans ((hown.cellAt (j * 4 + 3) (by omega)).trans (hk_cell _ j 3 hlt2 (by omega)))
          obtain ⟨u0, c0⟩ := p0.cell hlt2
          obtain ⟨u1, c1⟩ := p1.cell hlt2
          obtain ⟨u2, c2⟩ := p2.cell hlt2
          obtain ⟨u3, c3⟩ := p3.cell hlt2
          have f0 := p0.frozen j
          have f1 := p1.frozen j
          have f2 := p2.frozen j
          have f3 := p3.frozen j
          clear hown hao
          go_wp2
          go_roundw
          case rel => exact ⟨j + 1, by omega, by go_num, (((hb2.setCell (Nat.le_refl _) _).setCell (Nat.le_add_right _ _) _).setCell (by show w1.heap.size ≤ w1.heap.size + 1 + 1; omega) _).setCell (by show w1.heap.size ≤ w1.heap.size + 1 + 1 + 1; omega) _, ((p0.store.other (by omega)).other (by omega)).other (by omega), ((p1.other (by omega)).store.other (by omega)).other (by omega), ((p2.other (by omega)).other (by omega)).store.other (by omega), (((p3.other (by omega)).other (by omega)).other (by omega)).store⟩
          case measure => simp [intOf]; omega
        · have hjm : j = (grp ops n n).length := by omega
          subst hjm
          go_wp2
          refine bodyPost_ret (results_tmp4 rfl _ _ _) rfl ?_
          exact ⟨w1.heap.size, by have := hbw.size; omega, rfl, p0.whole, p1.whole, p2.whole, p3.whole, hbw.trans (hb2.mono (by have := hbw.size; omega))⟩
end Go.Proofs.Qxb6603371a
