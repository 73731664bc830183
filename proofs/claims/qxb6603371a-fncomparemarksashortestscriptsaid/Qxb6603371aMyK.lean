import Derived.Test.Qxb6603371aMyT
namespace Go.Proofs.Qxb6603371a
open Go.RowKit

/-- How many of the first n are marked. -/
def cnt (mk : Nat → Bool) : Nat → Nat
  | 0 => 0
  | n + 1 => cnt mk n + if mk n then 1 else 0

theorem cnt_le (mk : Nat → Bool) (n : Nat) : cnt mk n ≤ n := by
  induction n with
  | zero => exact Nat.le_refl _
  | succ n ih => unfold cnt; split <;> omega
theorem cnt_t {mk : Nat → Bool} {n : Nat} (h : mk n = true) : cnt mk (n + 1) = cnt mk n + 1 := by
  conv => lhs; unfold cnt
  rw [h]; rfl
theorem cnt_f {mk : Nat → Bool} {n : Nat} (h : mk n = false) : cnt mk (n + 1) = cnt mk n := by
  conv => lhs; unfold cnt
  rw [h]; rfl

theorem cnt_same {mk : Nat → Bool} {lo k : Nat} (h : ∀ i, lo ≤ i → i < lo + k → mk i = false) : cnt mk (lo + k) = cnt mk lo := by
  induction k with
  | zero => rfl
  | succ k ih => rw [show lo + (k + 1) = lo + k + 1 from rfl, cnt_f (h _ (by omega) (by omega))]; exact ih (fun i h1 h2 => h i h1 (by omega))

theorem cnt_kept (z : Nat → Int) (mk : Nat → Bool) (lo n : Nat) : (kept z mk lo n).length + cnt mk (lo + n) = n + cnt mk lo := by
  induction n with
  | zero => simp [kept]
  | succ n ih =>
    rw [kept_add, List.length_append, show lo + (n + 1) = lo + n + 1 from rfl]
    cases h : mk (lo + n) with
    | true => rw [cnt_t h]; simp [kept, h]; simp [kept] at ih; omega
    | false => rw [cnt_f h]; simp [kept, h]; simp [kept] at ih; omega

/-- The marks lie in the window alone: what is kept of it is the window less the marks. -/
theorem kept_count {z : Nat → Int} {mk : Nat → Bool} {lo n hi la : Nat} (h : lo + n = hi) (hla : hi ≤ la) (hm : ∀ i, i < la → mk i = true → lo ≤ i ∧ i < hi) : (kept z mk lo n).length + cnt mk la = n := by
  have h1 := cnt_kept z mk lo n
  have h2 : cnt mk (0 + lo) = cnt mk 0 := cnt_same (fun i _ hi => by
    cases e : mk i with
    | false => rfl
    | true => have := hm i (by omega) e; omega)
  have h3 : cnt mk (hi + (la - hi)) = cnt mk hi := cnt_same (fun i hi1 hi2 => by
    cases e : mk i with
    | false => rfl
    | true => have := hm i (by omega) e; omega)
  rw [show hi + (la - hi) = la from by omega] at h3
  rw [Nat.zero_add] at h2
  rw [h] at h1
  have h0 : cnt mk 0 = 0 := rfl
  omega

set_option maxHeartbeats 1000000 in
theorem diffCount (b len : Nat) (mk : Nat → Bool) (w : World) (hlen : len ≤ 4096) (hr : Bools w b len mk) :
    Calls Try.prog 21 #[.slice (some ⟨b, 0, none⟩) len len] w fun e w' => e = .returned (.int .i64 (cnt mk len)) ∧ w' = w := by
  go_enter Try.func21, Try.ntmps21
  go_wp2
  go_loop [3, 4] (fun c i => ∃ k : Nat, k ≤ len ∧ c = .int .i64 (cnt mk k) ∧ i = .int .i64 k) (fun c i => len - (intOf i).toNat)
  case atStart => exact ⟨0, Nat.zero_le _, rfl, rfl⟩
  case round =>
    obtain ⟨k, hk, rfl, rfl⟩ := hrel
    by_cases hlt : k < len
    · have c := hr.cell hlt
      have hle := cnt_le mk k
      cases hm : mk k with
      | false =>
        rw [hm] at c
        have HE := hideM (cnt_f hm)
        clear hm
        go_wp2
        go_round
        case rel => exact ⟨k + 1, by omega, by rw [HE.out], by go_num⟩
        case measure => simp [intOf]; omega
      | true =>
        rw [hm] at c
        have HE := hideM (cnt_t hm)
        clear hm
        go_wp2
        go_round
        case rel => exact ⟨k + 1, by omega, by rw [HE.out]; go_num, by go_num⟩
        case measure => simp [intOf]; omega
    · obtain rfl : k = len := by omega
      go_wp2
      go_ret
      exact ⟨rfl, rfl⟩

/-- The two rows of the table: the one before, and the one that is filled. -/
structure M2 (len p c : Nat) (w w2 : World) (f g : Nat → Int) : Prop where
  rp : Ints w2 p len f
  rc : Ints w2 c len g
  ne : p ≠ c
  hp : w.heap.size ≤ p
  hc : w.heap.size ≤ c
  bel : Below w.heap.size w w2

theorem intsDrewN {w : World} {b len : Nat} {f : Nat → Int} (h : Ints w b len f) (q : Nat) : Ints (w.drewN q) b len f := by
  induction q with
  | zero => exact h
  | succ q ih => exact ih
theorem belowDrewN {B : Nat} {a w : World} (h : Below B a w) (q : Nat) : Below B a (w.drewN q) := by
  induction q with
  | zero => exact h
  | succ q ih => exact ih.drew
theorem M2.drewN {len p c : Nat} {w w2 : World} {f g : Nat → Int} (h : M2 len p c w w2 f g) (q : Nat) : M2 len p c w (w2.drewN q) f g := ⟨intsDrewN h.rp q, intsDrewN h.rc q, h.ne, h.hp, h.hc, belowDrewN h.bel q⟩
theorem M2.set {len p c : Nat} {w w2 : World} {f g : Nat → Int} (h : M2 len p c w w2 f g) (J : Nat) (x : Int) : M2 len p c w (w2.setCell ⟨c, J, none⟩ (.int .i64 x)) f (upd g J x) :=
  ⟨World.rowIs.setOther h.rp h.ne _, (World.rowIs.set h.rc J (.int .i64 x)).congr (fun j _ => by unfold upd; split <;> rfl), h.ne, h.hp, h.hc, h.bel.setCell h.hc _⟩
theorem M2.swap {len p c : Nat} {w w2 : World} {f g : Nat → Int} (h : M2 len p c w w2 f g) : M2 len c p w w2 g f := ⟨h.rc, h.rp, h.ne.symm, h.hc, h.hp, h.bel⟩

/-- The row tells the table's row up to the column j. -/
def LInv (l r : List Int) (i j : Nat) (f : Nat → Int) : Prop := ∀ t, t ≤ j → f t = (L l r i t : Int)

theorem LInv.first (l r : List Int) (i : Nat) (g : Nat → Int) : LInv l r i 0 (upd g 0 0) := fun t ht => by
  obtain rfl : t = 0 := by omega
  rw [L_zero_right]; rfl
theorem LInv.next {l r : List Int} {i j : Nat} {g : Nat → Int} (h : LInv l r i j g) (v : Int) (hv : v = (L l r i (j + 1) : Int)) : LInv l r i (j + 1) (upd g (j + 1) v) := fun t ht => by
  unfold upd
  by_cases e : t = j + 1
  · rw [if_pos e, e]; exact hv
  · rw [if_neg e]; exact h t (by omega)

theorem madeAt {w : World} {z : Value} {n B : Nat} {t : TypeId} (hB : w.heap.size = B) : (w.alloc (.cells (madeCells #[z] n) t)).rowIs B t n (fun _ => z) := by
  subst hB
  exact World.rowIs_made _ _ _ _

theorem m2_made (w : World) (len : Nat) : M2 len w.heap.size (w.heap.size + 1) w ((w.alloc (Obj.cells (madeCells #[Value.int IntKind.i64 0] len) 3)).alloc (Obj.cells (madeCells #[Value.int IntKind.i64 0] len) 3)) (fun _ => 0) (fun _ => 0) :=
  ⟨(madeAt rfl).alloc _, madeAt (Deep.nblk_alloc _ _), by omega, Nat.le_refl _, by omega, ((Below.refl _ _).alloc (Nat.le_refl _) _).alloc (by rw [Deep.nblk_alloc]; omega) _⟩

set_option maxRecDepth 100000 in
set_option maxHeartbeats 4000000 in
theorem diffLCS (ax bx : Option Addr) (ba aoff bb boff n cx m cy : Nat) (hax : 0 < n → ax = some ⟨ba, aoff, none⟩) (hbx : 0 < m → bx = some ⟨bb, boff, none⟩) (za zb : Nat → Int) (w : World) (n4 : n ≤ 4096) (m4 : m ≤ 4096) (ra : IntsAt w ba aoff n za) (rb : IntsAt w bb boff m zb) :
    Calls Try.prog 20 #[.slice ax n cx, .slice bx m cy] w fun e w' => e = .returned (.int .i64 (lcs (win za 0 n) (win zb 0 m))) ∧ Below w.heap.size w w' := by
  obtain ⟨len, hlen⟩ : ∃ len : Nat, len = m + 1 := ⟨_, rfl⟩
  have hlI : (m : Int) + 1 = len := by omega
  have hlen4 : len ≤ 5000 := by omega
  have hmk := run_make_row' (P := Try.prog) 25 3 _ 8 Try.underlying25 Try.infoM3 rfl .i64 .i64 len (by omega) (by omega)
  have HLen := hideM hlen
  have HR := hideM (And.intro ra rb)
  have HX := hideM (And.intro hax hbx)
  clear hlen ra rb hax hbx
  go_enter Try.func20, Try.ntmps20
  go_wp2_with fail
  go_loopg [5, 6, 7] n (fun g p1 p2 p3 wr => ∃ (i p c : Nat) (f f2 : Nat → Int), i ≤ n ∧ g = n - i ∧ p1 = .slice (some ⟨p, 0, none⟩) len len ∧ p2 = .slice (some ⟨c, 0, none⟩) len len ∧ p3 = .int .i64 i ∧ M2 len p c w wr f f2 ∧ LInv (win za 0 n) (win zb 0 m) i m f)
  case atStart => exact ⟨0, _, _, _, _, Nat.zero_le _, rfl, rfl, rfl, rfl, m2_made w len, fun t _ => by rw [L_zero_left]; rfl⟩
  case round => as_aux_lemma =>
    obtain ⟨i, p, c, f, f2, hi, rfl, rfl, rfl, rfl, hm2, hinv⟩ := hrel
    have HM := hideM hm2
    have HI := hideM hinv
    have hl0 : (0 : Int) < len := by omega
    by_cases hlt : i < n
    · have c0 := hm2.rc.cell (i := 0) (by omega)
      have f0 := hm2.rc.frozen 0
      clear hm2 hinv
      go_wp2_with fail
      go_loopg [8] m (fun g p1 wr => ∃ (j : Nat) (g2 : Nat → Int), j ≤ m ∧ g = m - j ∧ p1 = .int .i64 j ∧ M2 len p c w wr f g2 ∧ LInv (win za 0 n) (win zb 0 m) (i + 1) j g2)
      case atStart => exact ⟨0, _, Nat.zero_le _, rfl, rfl, HM.out.set 0 0, LInv.first _ _ _ _⟩
      case round => as_aux_lemma =>
        obtain ⟨j, g2, hj, rfl, rfl, hm3, hinv2⟩ := hrel
        have HM3 := hideM hm3
        have HI2 := hideM hinv2
        by_cases hlj : j < m
        · obtain rfl := HX.out.1 (by omega)
          obtain rfl := HX.out.2 (by omega)
          have a1 := HR.out.1 i hlt
          have a2 := HR.out.2 j hlj
          have e1 := (hm3.bel.cell (p := ⟨ba, aoff + i, none⟩) (block_lt_of_cell a1)).trans a1
          have e2 := (hm3.bel.cell (p := ⟨bb, boff + j, none⟩) (block_lt_of_cell a2)).trans a2
          obtain ⟨v, hv⟩ : ∃ v : Nat, v = L (win za 0 n) (win zb 0 m) i j := ⟨_, rfl⟩
          obtain ⟨u1, hu1⟩ : ∃ v : Nat, v = L (win za 0 n) (win zb 0 m) i (j + 1) := ⟨_, rfl⟩
          obtain ⟨u2, hu2⟩ : ∃ v : Nat, v = L (win za 0 n) (win zb 0 m) (i + 1) j := ⟨_, rfl⟩
          have e3 := hm3.rp.cell (i := j) (by have := HLen.out; omega)
          have e4 := hm3.rp.cell (i := j + 1) (by have := HLen.out; omega)
          have e5 := hm3.rc.cell (i := j) (by have := HLen.out; omega)
          have e6 := hm3.rc.cell (i := j + 1) (by have := HLen.out; omega)
          have f6 := hm3.rc.frozen (j + 1)
          rw [HI.out j (by omega), ← hv] at e3
          rw [HI.out (j + 1) (by omega), ← hu1] at e4
          rw [HI2.out j (by omega), ← hu2] at e5
          have v4 : v ≤ 4096 := by have := L_le_right (win za 0 n) (win zb 0 m) i j; omega
          have i1 : (j : Int) + 1 < len := by omega
          have i2 : (j : Int) < len := by omega
          have i3 : (i : Int) < n := by omega
          have i4 : (j : Int) < m := by omega
          have HV := hideM (And.intro hv (And.intro hu1 hu2))
          clear hm3 hinv2 a1 a2 hv hu1 hu2
          by_cases he : za i = zb j
          · have t3 : (za i == zb j) = true := by simpa using he
            have HE := hideM he
            clear he
            go_wp2_with fail
            go_quiet (fail)
            go_wp2_with fail
            go_roundg (m - (j + 1))
            case rel => exact ⟨j + 1, _, by omega, rfl, by go_num, (HM3.out.drewN _).set _ _, HI2.out.next _ (by
              rw [L_match (mt_win.2 ⟨hlt, hlj, by rw [Nat.zero_add, Nat.zero_add]; exact HE.out⟩), ← HV.out.1]; omega)⟩
            case measure => omega
          · have t3 : (za i == zb j) = false := by simpa using he
            have HE : Hid (L (win za 0 n) (win zb 0 m) (i + 1) (j + 1) = max u1 u2) := by
              rw [HV.out.2.1, HV.out.2.2]
              exact L_nomatch (fun h => he (by have := (mt_win.1 h).2.2; rwa [Nat.zero_add, Nat.zero_add] at this))
            clear he
            by_cases hc : u2 ≤ u1
            · have t4 : decide ((u2 : Int) ≤ (u1 : Int)) = true := decide_eq_true (by omega)
              go_wp2_with fail
              go_quiet (fail)
              go_wp2_with fail
              go_quiet (fail)
              go_wp2_with fail
              go_roundg (m - (j + 1))
              case rel => exact ⟨j + 1, _, by omega, rfl, by go_num, (HM3.out.drewN _).set _ _, HI2.out.next _ (by rw [HE.out]; omega)⟩
              case measure => omega
            · have t4 : decide ((u2 : Int) ≤ (u1 : Int)) = false := decide_eq_false (by omega)
              go_wp2_with fail
              go_quiet (fail)
              go_wp2_with fail
              go_quiet (fail)
              go_wp2_with fail
              go_roundg (m - (j + 1))
              case rel => exact ⟨j + 1, _, by omega, rfl, by go_num, (HM3.out.drewN _).set _ _, HI2.out.next _ (by rw [HE.out]; omega)⟩
              case measure => omega
        · obtain rfl : j = m := by omega
          clear hm3 hinv2
          go_wp2_with fail
          go_roundg (n - (i + 1))
          case rel => exact ⟨i + 1, c, p, g2, f, by omega, rfl, rfl, rfl, by go_num, HM3.out.swap, HI2.out⟩
          case measure => omega
    · obtain rfl : i = n := by omega
      have e1 := hm2.rp.cell (i := m) (by have := HLen.out; omega)
      rw [HI.out m (Nat.le_refl _)] at e1
      have i1 : (m : Int) < len := by omega
      clear hm2 hinv
      go_wp2_with fail
      go_ret
      refine ⟨?_, HM.out.bel⟩
      have hL : L (win za 0 i) (win zb 0 m) i m = lcs (win za 0 i) (win zb 0 m) := by
        have := L_all (l := win za 0 i) (r := win zb 0 m)
        rwa [win_length, win_length] at this
      rw [hL]
      rfl
end Go.Proofs.Qxb6603371a
