import Derived.Test.Qxb6603371aGrpE
import Derived.Test.Qxb6603371aGrpS
namespace Go.Proofs.Qxb6603371a
open Go.RowKit

set_option maxRecDepth 100000 in
set_option maxHeartbeats 2000000 in
theorem sep_main (ao : Option Addr) (b off n c : Nat) (hao : 0 < n → ao = some ⟨b, off, none⟩) (ops : Nat → Int) (tx : Nat → ByteArray) (w : World) (hn : n ≤ maxLen) (h : LinesAt w b off n ops tx) :
    Calls Try.prog 4 #[.slice ao n c] w fun e w' => e = .returned (.bool true) ∧ Below w.heap.size w w' := by
  have hn' := hn
  unfold maxLen at hn'
  go_enter Try.func4, Try.ntmps4
  go_wp2_with fail
  refine (zzBytes13 ao b off n c hao ops tx _ hn h).mono ?_
  rintro e w' ⟨r, rfl, rfl⟩
  cases r with
  | false =>
    go_wp2_with fail
    go_ret
    exact ⟨rfl, Below.refl _ _⟩
  | true =>
  by_cases hbig : (43690 : Int) < (n : Int)
  · go_wp2_with fail
    go_ret
    exact ⟨rfl, Below.refl _ _⟩
  go_wp2_with fail
  refine (linesFit ao b off n c hao ops tx _ (by omega) h).mono ?_
  rintro e w' ⟨r, rfl, rfl⟩
  cases r with
  | false =>
    go_wp2_with fail
    go_ret
    exact ⟨rfl, Below.refl _ _⟩
  | true =>
  go_wp2_with fail
  refine (cloneLines ao b off n c hao ops tx _ (by omega) h).mono ?_
  rintro e w1 ⟨ac, rfl, hac, hrow, hb1⟩
  have hrl : RowLines w1 w'.heap.size n ops tx := fun i hi => rowLines_of (hrow (by omega)) (fun j _ => rfl) i hi
  go_wp2_with fail
  refine (runGroup ac _ n hac ops tx _ (by omega) hrl).mono ?_
  rintro e w2 ⟨g, hg, rfl, hh, hb2⟩
  have hml := grp_length ops n n
  unfold hunkVal
  have hn2 : n ≤ 43690 := by omega
  have G := (grp_good ops n n (Nat.le_refl _)).1
  obtain ⟨r0, r1, r2, r3⟩ := hh
  have hs1 := hb1.size
  have hs2 := hb2.size
  have yl : ∀ i, i < n → w2.cell? ⟨w'.heap.size, i * 2, none⟩ = some (.int .u8 (ops i)) := fun i hi => by
    have l1 := (hrl i hi).1
    have hbs := block_lt_of_cell l1
    exact (hb2.cell (p := ⟨w'.heap.size, i * 2, none⟩) hbs).trans l1
  have hbel : Below w'.heap.size w' w2 := hb1.trans (hb2.mono hs1)
  have y0 : ∀ i, i < (grp ops n n).length → w2.cell? ⟨g, i, none⟩ = some (.int .i64 (hkAt (grp ops n n) 0 i)) := fun i hi => r0.cell hi
  have y1 : ∀ i, i < (grp ops n n).length → w2.cell? ⟨g + 1, i, none⟩ = some (.int .i64 (hkAt (grp ops n n) 1 i)) := fun i hi => r1.cell hi
  have y2 : ∀ i, i < (grp ops n n).length → w2.cell? ⟨g + 1 + 1, i, none⟩ = some (.int .i64 (hkAt (grp ops n n) 2 i)) := fun i hi => r2.cell hi
  have y3 : ∀ i, i < (grp ops n n).length → w2.cell? ⟨g + 1 + 1 + 1, i, none⟩ = some (.int .i64 (hkAt (grp ops n n) 3 i)) := fun i hi => r3.cell hi
  have HY := hide (And.intro y0 (And.intro y1 (And.intro y2 (And.intro y3 yl))))
  clear y0 y1 y2 y3 yl r0 r1 r2 r3 hn hn' h hbig hrow hrl hb1 hb2 hao
  go_wp2_with fail
  go_loopg [8, 9] (grp ops n n).length (fun r p q wr => wr = w2 ∧ ∃ (Q : Nat) (pe : Int), Q ≤ (grp ops n n).length ∧ r = (grp ops n n).length - Q ∧ q = .int .i64 Q ∧ p = .int .i64 pe ∧ Prev (grp ops n n) Q pe)
  case atStart => exact ⟨rfl, 0, -1, Nat.zero_le _, rfl, rfl, rfl, .inl ⟨rfl, rfl⟩⟩
  case round =>
    obtain ⟨rfl, Q, pe, hQ, rfl, rfl, rfl, hpv⟩ := hrel
    by_cases hlt : Q < (grp ops n n).length
    · have hFE := G.apart.lt Q hlt
      have hnn := G.apart.nonneg Q hlt
      have hEn := G.apart.le Q hlt
      have hpe := prev_lt G hpv hlt
      obtain ⟨F, e2⟩ : ∃ F : Nat, hkAt (grp ops n n) 2 Q = (F : Int) := ⟨_, (Int.toNat_of_nonneg hnn).symm⟩
      obtain ⟨E, e3⟩ : ∃ E : Nat, hkAt (grp ops n n) 3 Q = (E : Int) := ⟨_, (Int.toNat_of_nonneg (by omega)).symm⟩
      obtain ⟨e0, e1⟩ := hunk_starts G hlt e2
      have d0 := HY.out.1 Q hlt
      have d1 := HY.out.2.1 Q hlt
      have d2 := HY.out.2.2.1 Q hlt
      have d3 := HY.out.2.2.2.1 Q hlt
      rw [e0] at d0
      rw [e1] at d1
      rw [e2] at d2
      rw [e3] at d3
      rw [e2, e3] at hFE
      rw [e2] at hpe
      rw [e3] at hEn
      have HE := hide (And.intro e2 e3)
      have HP := hide hpv
      have o1 := others_le ops 43 F
      have o2 := others_le ops 45 F
      have o3 := others_sum ops F
      obtain rfl := hac (by omega)
      clear e0 e1 e2 e3 hnn hac hpv
      go_wp2_with fail
      go_loopg [12, 13, 14] (E - F) (fun r a d i w3 => w3 = wr ∧ ∃ (I : Nat) (fc lc : Int), F ≤ I ∧ I ≤ E ∧ r = E - I ∧ i = .int .i64 I ∧ a = .int .i64 fc ∧ d = .int .i64 lc ∧ Scan ops F I fc lc)
      case atStart => exact ⟨rfl, F, -1, -1, Nat.le_refl _, by omega, rfl, rfl, rfl, rfl, scan_start _ _⟩
      case round =>
        obtain ⟨rfl, I, fc, lc, hFI, hIE, rfl, rfl, rfl, rfl, hsc⟩ := hrel
        obtain ⟨b1, b2, b3, b4⟩ := scan_bounds hsc
        have HB := hide b4
        have HSC := hide hsc
        clear b4 hsc
        by_cases hI : I < E
        · have lI := HY.out.2.2.2.2 I (by omega)
          by_cases hsp : ops I = 32
          · have HS := hide hsp
            have s1 : (ops I == 32) = true := by rw [HS.out]; rfl
            clear hsp
            go_wp2_with fail
            go_roundg (E - (I + 1))
            case rel => exact ⟨rfl, I + 1, fc, lc, by omega, by omega, rfl, by go_num, rfl, rfl, scan_same HSC.out HS.out⟩
            case measure => omega
          · have HS := hide hsp
            have s1 : (ops I == 32) = false := by simpa using hsp
            clear hsp
            by_cases hfc : fc < 0
            · go_wp2_with fail
              go_roundg (E - (I + 1))
              case rel => exact ⟨rfl, I + 1, I, I, by omega, by omega, rfl, by go_num, rfl, rfl, scan_first HSC.out hfc hFI HS.out⟩
              case measure => omega
            · have hfc2 : 0 ≤ fc := by omega
              have hgap := scan_gap G hlt HE.out.1 HE.out.2 HSC.out hfc2 hI
              clear hfc
              go_wp2_with fail
              go_roundg (E - (I + 1))
              case rel => exact ⟨rfl, I + 1, fc, I, by omega, by omega, rfl, by go_num, rfl, rfl, scan_next HSC.out hfc2 HS.out⟩
              case measure => omega
        · obtain rfl : I = E := by omega
          obtain ⟨z1, z2, z3, z4, z5⟩ := scan_end G hlt HE.out.1 HE.out.2 (by omega) HSC.out
          go_wp2_with fail
          go_roundg ((grp ops n n).length - (Q + 1))
          case rel => exact ⟨rfl, Q + 1, I, by omega, rfl, by go_num, rfl, .inr ⟨by omega, HE.out.2.symm⟩⟩
          case measure => omega
    · go_wp2_with fail
      clear hpv hQ hlt
      go_loopg [17, 18] n (fun r q i w3 => w3 = wr ∧ ∃ I Q : Nat, I ≤ n ∧ r = n - I ∧ i = .int .i64 I ∧ q = .int .i64 Q ∧ Q ≤ (grp ops n n).length ∧ ∀ x, x < Q → hkAt (grp ops n n) 3 x ≤ I)
      case atStart => exact ⟨rfl, 0, 0, Nat.zero_le _, rfl, rfl, rfl, Nat.zero_le _, fun x hx => absurd hx (by omega)⟩
      case round =>
        obtain ⟨rfl, I, Q, hI, rfl, rfl, rfl, hQ, hbf⟩ := hrel
        have HB := hide hbf
        clear hbf
        by_cases hIn : I < n
        · have lI := HY.out.2.2.2.2 I hIn
          obtain rfl := hac (by omega)
          by_cases hsp : ops I = 32
          · have HS := hide hsp
            have s1 : (ops I == 32) = true := by rw [HS.out]; rfl
            clear hsp
            go_wp2_with fail
            go_roundg (n - (I + 1))
            case rel => exact ⟨rfl, I + 1, Q, by omega, rfl, by go_num, rfl, hQ, fun x hx => by have := HB.out x hx; omega⟩
            case measure => omega
          · have HS := hide hsp
            have s1 : (ops I == 32) = false := by simpa using hsp
            clear hsp
            go_wp2_with fail
            go_loopg [17] ((grp ops n n).length - Q) (fun r q w4 => w4 = wr ∧ ∃ Q : Nat, r = (grp ops n n).length - Q ∧ q = .int .i64 Q ∧ Q ≤ (grp ops n n).length ∧ ∀ x, x < Q → hkAt (grp ops n n) 3 x ≤ I)
            case atStart => exact ⟨rfl, Q, rfl, rfl, hQ, HB.out⟩
            case round =>
              obtain ⟨rfl, R, rfl, rfl, hR, hbf⟩ := hrel
              have HC := hide hbf
              clear hbf HB hQ
              by_cases hRm : R < (grp ops n n).length
              · have d3 := HY.out.2.2.2.1 R hRm
                have d2 := HY.out.2.2.1 R hRm
                by_cases hfin : hkAt (grp ops n n) 3 R ≤ I
                · have HFn := hide hfin
                  go_wp2_with fail
                  go_roundg ((grp ops n n).length - (R + 1))
                  case rel => exact ⟨rfl, R + 1, rfl, by go_num, by omega, fun x hx => by
                    rcases Nat.lt_succ_iff_lt_or_eq.1 hx with h1 | rfl
                    · exact HC.out x h1
                    · exact HFn.out⟩
                  case measure => omega
                · have hin := change_in G hIn HS.out hR HC.out (fun _ => by omega)
                  obtain ⟨hin1, hin2⟩ := hin
                  have t1 : ((R : Int) == ((grp ops n n).length : Int)) = false := by simp; omega
                  have t2 : decide ((I : Int) < hkAt (grp ops n n) 2 R) = false := decide_eq_false (by omega)
                  go_wp2_with fail
                  go_roundg (n - (I + 1))
                  case rel => exact ⟨rfl, I + 1, R, by omega, rfl, by go_num, rfl, by omega, fun x hx => by have := HC.out x hx; omega⟩
                  case measure => omega
              · have hin := change_in G hIn HS.out hR HC.out (fun h => absurd h hRm)
                omega
        · go_wp2_with fail
          go_ret
          exact ⟨rfl, hbel⟩
end Go.Proofs.Qxb6603371a
