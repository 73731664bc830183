import Derived.Test.Qxb6603371aGrpE
import Derived.Test.Qxb6603371aGrpR
namespace Go.Proofs.Qxb6603371a
open Go.RowKit

theorem cov_start (w : World) (n : Nat) (ops : Nat → Int) : (w.alloc (.cells (madeCells #[.bool false] n) 4)).rowIs w.heap.size 4 n (fun x => .bool (covB ops 0 x)) :=
  (World.rowIs_made w (.bool false) n 4).congr (fun x _ => by simp [covB])

theorem cov_set {k J : Nat} {f : Nat → Bool} {n : Nat} (h : (k : Int) - 3 ≤ J) :
    ∀ x, x < n → (if x = J then Value.bool true else Value.bool (f x || decide ((k : Int) - 3 ≤ x ∧ (x : Int) < J))) = Value.bool (f x || decide ((k : Int) - 3 ≤ x ∧ (x : Int) < (J : Int) + 1)) := by
  intro x _
  by_cases e : x = J
  · subst e
    rw [if_pos rfl, decide_eq_true (by omega)]
    simp
  · rw [if_neg e]
    congr 2
    rw [decide_eq_decide]
    omega

theorem cov_skip {k : Nat} {j : Int} {f : Nat → Bool} {n : Nat} (h : j < 0 ∨ (n : Int) ≤ j) :
    ∀ x, x < n → Value.bool (f x || decide ((k : Int) - 3 ≤ x ∧ (x : Int) < j)) = Value.bool (f x || decide ((k : Int) - 3 ≤ x ∧ (x : Int) < j + 1)) := by
  intro x hx
  congr 2
  rw [decide_eq_decide]
  omega

theorem end_cases {f : Nat → Bool} {J n : Nat} (h : J < n) : (J + 1 = n) ∨ (J + 1 < n ∧ f (J + 1) = false) ∨ (J + 1 < n ∧ f (J + 1) = true) := by
  rcases Nat.lt_or_ge (J + 1) n with h1 | h1
  · cases f (J + 1) with
    | false => exact .inr (.inl ⟨h1, rfl⟩)
    | true => exact .inr (.inr ⟨h1, rfl⟩)
  · exact .inl (by omega)

theorem start_cases {f : Nat → Bool} {J : Nat} : J ≤ 0 ∨ (0 < J ∧ f (J - 1) = false) ∨ (0 < J ∧ f (J - 1) = true) := by
  rcases Nat.lt_or_ge 0 J with h1 | h1
  · cases f (J - 1) with
    | false => exact .inr (.inl ⟨h1, rfl⟩)
    | true => exact .inr (.inr ⟨h1, rfl⟩)
  · exact .inl h1

set_option maxRecDepth 100000 in
set_option maxHeartbeats 2000000 in
theorem runs_main (ao : Option Addr) (b off n c : Nat) (hao : 0 < n → ao = some ⟨b, off, none⟩) (ops : Nat → Int) (tx : Nat → ByteArray) (w : World) (hn : n ≤ maxLen) (h : LinesAt w b off n ops tx) :
    Calls Try.prog 3 #[.slice ao n c] w fun e w' => e = .returned (.bool true) ∧ Below w.heap.size w w' := by
  have hn' := hn
  unfold maxLen at hn'
  go_enter Try.func3, Try.ntmps3
  go_wp2_with fail
  refine (zzBytes9 ao b off n c hao ops tx _ hn h).mono ?_
  rintro e w' ⟨r, rfl, rfl⟩
  cases r with
  | false =>
    go_wp2_with fail
    go_ret
    exact ⟨rfl, Below.refl _ _⟩
  | true =>
  by_cases hbig : (43690 : Int) < (n : Int)
  · go_wp2_with fail
    go_ret
    exact ⟨rfl, Below.refl _ _⟩
  go_wp2_with fail
  refine (linesFit ao b off n c hao ops tx _ (by omega) h).mono ?_
  rintro e w' ⟨r, rfl, rfl⟩
  cases r with
  | false =>
    go_wp2_with fail
    go_ret
    exact ⟨rfl, Below.refl _ _⟩
  | true =>
  go_wp2_with fail
  refine (cloneLines ao b off n c hao ops tx _ (by omega) h).mono ?_
  rintro e w1 ⟨ac, rfl, hac, hrow, hb1⟩
  have hrl : RowLines w1 w'.heap.size n ops tx := fun i hi => rowLines_of (hrow (by omega)) (fun j _ => rfl) i hi
  go_wp2_with fail
  refine (runGroup ac _ n hac ops tx _ (by omega) hrl).mono ?_
  rintro e w2 ⟨g, hg, rfl, hh, hb2⟩
  have hmk := run_make_any (P := Try.prog) 28 4 _ 1 1 Try.underlying28 Try.info4 n (by omega) (by omega)
  have hml := grp_length ops n n
  unfold hunkVal
  have hn2 : n ≤ 43690 := by omega
  clear hn hn' h hbig hrow
  go_wp2_with fail
  go_loopg [9] n (fun r i wr => ∃ k : Nat, k ≤ n ∧ r = n - k ∧ i = .int .i64 k ∧ Below w2.heap.size w2 wr ∧ wr.rowIs w2.heap.size 4 n (fun x => .bool (covB ops k x)))
  case atStart => exact ⟨0, Nat.zero_le _, rfl, rfl, (Below.refl _ _).alloc (Nat.le_refl _) _, cov_start _ _ _⟩
  case round =>
    obtain ⟨k, hk, rfl, rfl, hb3, hcv⟩ := hrel
    by_cases hlt : k < n
    · obtain rfl := hac (by omega)
      obtain ⟨l1, l2⟩ := hrl k hlt
      have hbs := block_lt_of_cell l1
      have hs2 := hb2.size
      have q1 := (hb3.cell (p := ⟨w'.heap.size, k * 2, none⟩) (Nat.lt_of_lt_of_le hbs hs2)).trans ((hb2.cell (p := ⟨w'.heap.size, k * 2, none⟩) hbs).trans l1)
      clear l1 l2
      by_cases hsp : ops k = 32
      · have HS := hide hsp
        have s1 : (ops k == 32) = true := by rw [HS.out]; rfl
        clear hsp
        go_wp2_with fail
        go_roundg (n - (k + 1))
        case rel => exact ⟨k + 1, by omega, rfl, by go_num, hb3, hcv.congr (fun x _ => by rw [covB_same HS.out])⟩
        case measure => omega
      · have s1 : (ops k == 32) = false := by simpa using hsp
        have HS := hide hsp
        clear hsp
        go_wp2_with fail
        go_loopg [10] 7 (fun r i w3 => ∃ j : Int, (k : Int) - 3 ≤ j ∧ j ≤ (k : Int) + 4 ∧ (r : Int) = (k : Int) + 4 - j ∧ i = .int .i64 j ∧ Below w2.heap.size w2 w3 ∧ w3.rowIs w2.heap.size 4 n (fun x => .bool (covB ops k x || decide ((k : Int) - 3 ≤ x ∧ (x : Int) < j))))
        case atStart => exact ⟨_, Int.le_refl _, by omega, by omega, rfl, hb3, hcv.congr (fun x _ => by rw [decide_eq_false (by omega), Bool.or_false])⟩
        case round =>
          obtain ⟨j, hj1, hj2, hr, rfl, hb4, hcv4⟩ := hrel
          have HR := hide hr
          clear hr hcv hb3
          by_cases hje : j ≤ (k : Int) + 3
          · by_cases hin : 0 ≤ j ∧ j < n
            · obtain ⟨J, rfl⟩ : ∃ J : Nat, j = J := ⟨j.toNat, by omega⟩
              have hJ : J < n := by omega
              have cJ := hcv4.cell hJ
              have fJ := hcv4.frozen J
              clear hin
              go_wp2_with fail
              go_roundg (k + 3 - J)
              case rel => exact ⟨(J : Int) + 1, by omega, by omega, by omega, by go_num, hb4.setCell (Nat.le_refl _) _, (hcv4.set _ _).congr (cov_set hj1)⟩
              case measure => have := HR.out; omega
            · have HN := hide hin
              have hor : j < 0 ∨ (n : Int) ≤ j := by omega
              clear hin
              rcases hor with h0 | h0
              all_goals
                go_wp2_with fail
                go_roundg (k + 3 - j).toNat
                case rel => exact ⟨j + 1, by omega, by omega, by omega, by go_num, hb4, hcv4.congr (cov_skip (by omega))⟩
                case measure => have := HR.out; omega
          · obtain rfl : j = (k : Int) + 4 := by omega
            go_wp2_with fail
            go_roundg (n - (k + 1))
            case rel => exact ⟨k + 1, by omega, rfl, by go_num, hb4, hcv4.congr (fun x _ => by rw [covB_succ HS.out])⟩
            case measure => omega
    · have hkn : k = n := by omega
      have G := (grp_good ops n n (Nat.le_refl _)).1
      have hcv2 : wr.rowIs w2.heap.size 4 n (fun x => .bool (covB ops n x)) := by rw [hkn] at hcv; exact hcv
      obtain ⟨r0, r1, r2, r3⟩ := hh
      have hs1 := hb1.size
      have hs2 := hb2.size
      have hs3 := hb3.size
      have x0 := r0.lt
      have x1 := r1.lt
      have x2 := r2.lt
      have x3 := r3.lt
      have y0 : ∀ i, i < (grp ops n n).length → wr.cell? ⟨g, i, none⟩ = some (.int .i64 (hkAt (grp ops n n) 0 i)) := fun i hi => (hb3.cell (p := ⟨g, i, none⟩) x0).trans (r0.cell hi)
      have y1 : ∀ i, i < (grp ops n n).length → wr.cell? ⟨g + 1, i, none⟩ = some (.int .i64 (hkAt (grp ops n n) 1 i)) := fun i hi => (hb3.cell (p := ⟨g + 1, i, none⟩) x1).trans (r1.cell hi)
      have y2 : ∀ i, i < (grp ops n n).length → wr.cell? ⟨g + 1 + 1, i, none⟩ = some (.int .i64 (hkAt (grp ops n n) 2 i)) := fun i hi => (hb3.cell (p := ⟨g + 1 + 1, i, none⟩) x2).trans (r2.cell hi)
      have y3 : ∀ i, i < (grp ops n n).length → wr.cell? ⟨g + 1 + 1 + 1, i, none⟩ = some (.int .i64 (hkAt (grp ops n n) 3 i)) := fun i hi => (hb3.cell (p := ⟨g + 1 + 1 + 1, i, none⟩) x3).trans (r3.cell hi)
      have yl : ∀ i, i < n → wr.cell? ⟨w'.heap.size, i * 2, none⟩ = some (.int .u8 (ops i)) := fun i hi => by
        have l1 := (hrl i hi).1
        have hbs := block_lt_of_cell l1
        exact (hb3.cell (p := ⟨w'.heap.size, i * 2, none⟩) (Nat.lt_of_lt_of_le hbs hs2)).trans ((hb2.cell (p := ⟨w'.heap.size, i * 2, none⟩) hbs).trans l1)
      have hbel : Below w'.heap.size w' wr := (hb1.trans (hb2.mono hs1)).trans (hb3.mono (by omega))
      have HY := hide (And.intro y0 (And.intro y1 (And.intro y2 (And.intro y3 yl))))
      clear y0 y1 y2 y3 yl r0 r1 r2 r3 hrl hcv hb1 hb2 hb3 hkn hao hmk
      go_wp2_with fail
      go_loop [11, 12, 13, 14] (fun f t q j => ∃ J Q : Nat, J ≤ n ∧ f = .int .i64 (others ops 43 J) ∧ t = .int .i64 (others ops 45 J) ∧ q = .int .i64 Q ∧ j = .int .i64 J ∧ Passed (grp ops n n) J Q) (fun _ _ _ j => n - (intOf j).toNat)
      case atStart => exact ⟨0, 0, Nat.zero_le _, rfl, rfl, rfl, rfl, passed_start G⟩
      case round =>
        obtain ⟨J, Q, hJ, rfl, rfl, rfl, rfl, hP⟩ := hrel
        have o1 := others_le ops 43 J
        have o2 := others_le ops 45 J
        have hQ := hP.le
        by_cases hJn : J < n
        · obtain rfl := hac (by omega)
          have lJ := HY.out.2.2.2.2 J hJn
          have cJ := hcv2.cell hJn
          have HC := hide hcv2
          clear hcv2
          cases hc : covB ops n J with
          | false =>
            rw [hc] at cJ
            have P2 := run_off G hP hc
            clear hc
            go_wp2_with fail
            all_goals
              go_round
              case rel => exact ⟨J + 1, Q, by omega, by first | exact oth_t (by assumption) | exact oth_f (by assumption), by first | exact oth_t (by assumption) | exact oth_f (by assumption), rfl, by go_num, P2⟩
              case measure => simp [intOf]; omega
          | true =>
            obtain ⟨hq, _, _⟩ := cov_at G hP hJn hc
            have d0 := HY.out.1 Q hq
            have d1 := HY.out.2.1 Q hq
            have d2 := HY.out.2.2.1 Q hq
            have d3 := HY.out.2.2.2.1 Q hq
            rw [hc] at cJ
            rcases (show J ≤ 0 ∨ (0 < J ∧ covB ops n (J - 1) = false) ∨ (0 < J ∧ covB ops n (J - 1) = true) from start_cases) with hs | ⟨hs, hcs⟩ | ⟨hs, hcs⟩
            · obtain ⟨e2, e0, e1⟩ := run_start G hP hJn hc (.inl (by omega))
              have hs0 : ((J : Int) == 0) = true := by simp; omega
              clear hs
              rw [e0] at d0
              rw [e1] at d1
              rw [e2] at d2
              clear e0 e1 e2
              rcases (show (J + 1 = n) ∨ (J + 1 < n ∧ covB ops n (J + 1) = false) ∨ (J + 1 < n ∧ covB ops n (J + 1) = true) from end_cases hJn) with he | ⟨he, hce⟩ | ⟨he, hce⟩
              · obtain ⟨e3, P2⟩ := run_end G hP hJn hc (.inl he)
                rw [e3] at d3
                have he2 : ((J : Int) == (n : Int) - 1) = true := by simp; omega
                clear e3 he hc
                go_wp2_with fail
                all_goals
                  go_round
                  case rel => exact ⟨J + 1, Q + 1, by omega, by first | exact oth_t (by assumption) | exact oth_f (by assumption), by first | exact oth_t (by assumption) | exact oth_f (by assumption), by go_num, by go_num, P2⟩
                  case measure => simp [intOf]; omega
              · have cN := HC.out.cell he
                rw [hce] at cN
                obtain ⟨e3, P2⟩ := run_end G hP hJn hc (.inr hce)
                rw [e3] at d3
                clear e3 hc hce
                go_wp2_with fail
                all_goals
                  go_round
                  case rel => exact ⟨J + 1, Q + 1, by omega, by first | exact oth_t (by assumption) | exact oth_f (by assumption), by first | exact oth_t (by assumption) | exact oth_f (by assumption), by go_num, by go_num, P2⟩
                  case measure => simp [intOf]; omega
              · have cN := HC.out.cell he
                rw [hce] at cN
                have P2 := run_on G hP he hc hce
                clear hc hce
                go_wp2_with fail
                all_goals
                  go_round
                  case rel => exact ⟨J + 1, Q, by omega, by first | exact oth_t (by assumption) | exact oth_f (by assumption), by first | exact oth_t (by assumption) | exact oth_f (by assumption), rfl, by go_num, P2⟩
                  case measure => simp [intOf]; omega
            · obtain ⟨e2, e0, e1⟩ := run_start G hP hJn hc (.inr hcs)
              have cS := HC.out.cell (i := J - 1) (by omega)
              rw [hcs] at cS
              rw [e0] at d0
              rw [e1] at d1
              rw [e2] at d2
              clear e0 e1 e2 hcs
              rcases (show (J + 1 = n) ∨ (J + 1 < n ∧ covB ops n (J + 1) = false) ∨ (J + 1 < n ∧ covB ops n (J + 1) = true) from end_cases hJn) with he | ⟨he, hce⟩ | ⟨he, hce⟩
              · obtain ⟨e3, P2⟩ := run_end G hP hJn hc (.inl he)
                rw [e3] at d3
                have he2 : ((J : Int) == (n : Int) - 1) = true := by simp; omega
                clear e3 he hc
                go_wp2_with fail
                all_goals
                  go_round
                  case rel => exact ⟨J + 1, Q + 1, by omega, by first | exact oth_t (by assumption) | exact oth_f (by assumption), by first | exact oth_t (by assumption) | exact oth_f (by assumption), by go_num, by go_num, P2⟩
                  case measure => simp [intOf]; omega
              · have cN := HC.out.cell he
                rw [hce] at cN
                obtain ⟨e3, P2⟩ := run_end G hP hJn hc (.inr hce)
                rw [e3] at d3
                clear e3 hc hce
                go_wp2_with fail
                all_goals
                  go_round
                  case rel => exact ⟨J + 1, Q + 1, by omega, by first | exact oth_t (by assumption) | exact oth_f (by assumption), by first | exact oth_t (by assumption) | exact oth_f (by assumption), by go_num, by go_num, P2⟩
                  case measure => simp [intOf]; omega
              · have cN := HC.out.cell he
                rw [hce] at cN
                have P2 := run_on G hP he hc hce
                clear hc hce
                go_wp2_with fail
                all_goals
                  go_round
                  case rel => exact ⟨J + 1, Q, by omega, by first | exact oth_t (by assumption) | exact oth_f (by assumption), by first | exact oth_t (by assumption) | exact oth_f (by assumption), rfl, by go_num, P2⟩
                  case measure => simp [intOf]; omega
            · have cS := HC.out.cell (i := J - 1) (by omega)
              rw [hcs] at cS
              clear hcs
              rcases (show (J + 1 = n) ∨ (J + 1 < n ∧ covB ops n (J + 1) = false) ∨ (J + 1 < n ∧ covB ops n (J + 1) = true) from end_cases hJn) with he | ⟨he, hce⟩ | ⟨he, hce⟩
              · obtain ⟨e3, P2⟩ := run_end G hP hJn hc (.inl he)
                rw [e3] at d3
                have he2 : ((J : Int) == (n : Int) - 1) = true := by simp; omega
                clear e3 he hc
                go_wp2_with fail
                all_goals
                  go_round
                  case rel => exact ⟨J + 1, Q + 1, by omega, by first | exact oth_t (by assumption) | exact oth_f (by assumption), by first | exact oth_t (by assumption) | exact oth_f (by assumption), by go_num, by go_num, P2⟩
                  case measure => simp [intOf]; omega
              · have cN := HC.out.cell he
                rw [hce] at cN
                obtain ⟨e3, P2⟩ := run_end G hP hJn hc (.inr hce)
                rw [e3] at d3
                clear e3 hc hce
                go_wp2_with fail
                all_goals
                  go_round
                  case rel => exact ⟨J + 1, Q + 1, by omega, by first | exact oth_t (by assumption) | exact oth_f (by assumption), by first | exact oth_t (by assumption) | exact oth_f (by assumption), by go_num, by go_num, P2⟩
                  case measure => simp [intOf]; omega
              · have cN := HC.out.cell he
                rw [hce] at cN
                have P2 := run_on G hP he hc hce
                clear hc hce
                go_wp2_with fail
                all_goals
                  go_round
                  case rel => exact ⟨J + 1, Q, by omega, by first | exact oth_t (by assumption) | exact oth_f (by assumption), by first | exact oth_t (by assumption) | exact oth_f (by assumption), rfl, by go_num, P2⟩
                  case measure => simp [intOf]; omega
        · obtain rfl : J = n := by omega
          obtain rfl := passed_end G hP
          go_wp2_with fail
          go_ret
          exact ⟨rfl, hbel⟩
end Go.Proofs.Qxb6603371a
