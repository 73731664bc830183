import Derived.Test.Qxb6603371aMyS
namespace Go.Proofs.Qxb6603371a
open Go.RowKit

/-- A row of marks. -/
def Bools (w : World) (b len : Nat) (f : Nat → Bool) : Prop := w.rowIs b 4 len (fun j => .bool (f j))

set_option maxHeartbeats 400000 in
theorem width (rounds : Int) (n m : Nat) (w : World) (hn : n ≤ 4096) (hm : m ≤ 4096) (hr : 0 ≤ rounds) :
    Calls Try.prog 28 #[.int .i64 rounds, .int .i64 n, .int .i64 m] w fun e w' => ∃ W : Nat, e = .returned (.int .i64 W) ∧ w' = w ∧ (rounds ≤ W ∨ n + m + 2 ≤ W) ∧ W ≤ 8194 := by
  by_cases h : rounds < (n : Int) + m + 2
  · go_enter Try.func28, Try.ntmps28
    go_wp2
    go_ret
    exact ⟨rounds.toNat, by rw [Int.toNat_of_nonneg hr]; rfl, rfl, by omega, by omega⟩
  · go_enter Try.func28, Try.ntmps28
    go_wp2
    go_ret
    exact ⟨n + m + 2, rfl, rfl, by omega, by omega⟩

set_option maxHeartbeats 1000000 in
theorem marksInside (b len lo hi : Nat) (mk : Nat → Bool) (w : World) (hlen : len ≤ 4096) (hr : Bools w b len mk) (h : ∀ i, i < len → mk i = true → lo ≤ i ∧ i < hi) :
    Calls Try.prog 18 #[.slice (some ⟨b, 0, none⟩) len len, .int .i64 lo, .int .i64 hi] w fun e w' => e = .returned (.bool true) ∧ w' = w := by
  go_enter Try.func18, Try.ntmps18
  go_wp2
  go_loop [7] (fun i => ∃ k : Nat, k ≤ len ∧ i = .int .i64 k) (fun i => len - (intOf i).toNat)
  case atStart => exact ⟨0, Nat.zero_le _, rfl⟩
  case round =>
    obtain ⟨k, hk, rfl⟩ := hrel
    by_cases hlt : k < len
    · have c := hr.cell hlt
      have hin := h k hlt
      clear h
      cases hm : mk k with
      | false =>
        rw [hm] at c
        clear hin hm
        go_wp2
        go_round
        case rel => exact ⟨k + 1, by omega, by go_num⟩
        case measure => simp [intOf]; omega
      | true =>
        obtain ⟨h1, h2⟩ := hin hm
        rw [hm] at c
        have t1 : decide ((k : Int) < (lo : Int)) = false := decide_eq_false (by omega)
        have t2 : decide ((hi : Int) ≤ (k : Int)) = false := decide_eq_false (by omega)
        clear hin hm
        go_wp2
        go_round
        case rel => exact ⟨k + 1, by omega, by go_num⟩
        case measure => simp [intOf]; omega
    · go_wp2
      go_ret
      exact ⟨rfl, rfl⟩

theorem kept_succ (z : Nat → Int) (mk : Nat → Bool) (lo n : Nat) : kept z mk lo (n + 1) = (if mk lo then [] else [z lo]) ++ kept z mk (lo + 1) n := by
  rw [show n + 1 = 1 + n from by omega, kept_add]
  simp [kept]

set_option maxRecDepth 100000 in
set_option maxHeartbeats 2000000 in
theorem keptAgree (aa ab : Option Addr) (ba bb bd bi la lb aLo aHi bLo bHi : Nat) (za zb : Nat → Int) (del ins : Nat → Bool) (w : World) (la4 : la ≤ 4096) (lb4 : lb ≤ 4096) (h1 : aLo ≤ aHi) (h2 : aHi ≤ la) (h3 : bLo ≤ bHi) (h4 : bHi ≤ lb)
    (ha : 0 < la → aa = some ⟨ba, 0, none⟩) (hb : 0 < lb → ab = some ⟨bb, 0, none⟩) (ra : 0 < la → Ints w ba la za) (rb : 0 < lb → Ints w bb lb zb) (rd : Bools w bd la del) (ri : Bools w bi lb ins)
    (hk : kept za del aLo (aHi - aLo) = kept zb ins bLo (bHi - bLo)) :
    Calls Try.prog 19 #[.slice aa la la, .slice ab lb lb, .slice (some ⟨bd, 0, none⟩) la la, .slice (some ⟨bi, 0, none⟩) lb lb, .int .i64 aLo, .int .i64 aHi, .int .i64 bLo, .int .i64 bHi] w fun e w' => e = .returned (.bool true) ∧ ∃ q, w' = w.drewN q := by
  go_enter Try.func19, Try.ntmps19
  go_wp2
  go_loopg [17, 18] (aHi + bHi - (aLo + bLo)) (fun g p1 p2 wr => ∃ i j q : Nat, i ≤ aHi ∧ j ≤ bHi ∧ g = aHi + bHi - (i + j) ∧ p1 = .int .i64 i ∧ p2 = .int .i64 j ∧ wr = w.drewN q ∧ kept za del i (aHi - i) = kept zb ins j (bHi - j))
  case atStart => exact ⟨aLo, bLo, 0, h1, h3, rfl, rfl, rfl, rfl, hk⟩
  case round =>
    obtain ⟨i, j, q, hi, hj, rfl, rfl, rfl, rfl, hkk⟩ := hrel
    have HK := hideM hkk
    clear hkk hk
    by_cases ci : i < aHi
    · have cd := rd.cell (i := i) (by omega)
      have HA := hideM (And.intro (ha (by omega)) (ra (by omega)))
      cases hd : del i with
      | true =>
        rw [hd] at cd
        have HE : Hid (kept za del (i + 1) (aHi - (i + 1)) = kept zb ins j (bHi - j)) := by
          have := HK.out
          rw [show aHi - i = (aHi - (i + 1)) + 1 from by omega, kept_succ, hd] at this
          exact hideM (by simpa using this)
        clear hd HA
        go_wp2
        go_roundg (aHi + bHi - (i + 1 + j))
        case rel => exact ⟨i + 1, j, q, by omega, hj, rfl, by go_num, rfl, rfl, HE.out⟩
        case measure => omega
      | false =>
        rw [hd] at cd
        by_cases cj : j < bHi
        · have ce := ri.cell (i := j) (by omega)
          cases he : ins j with
          | true =>
            rw [he] at ce
            have HE : Hid (kept za del i (aHi - i) = kept zb ins (j + 1) (bHi - (j + 1))) := by
              have := HK.out
              rw [show bHi - j = (bHi - (j + 1)) + 1 from by omega, kept_succ zb, he] at this
              exact hideM (by simpa using this)
            clear hd he HA
            go_wp2
            go_roundg (aHi + bHi - (i + (j + 1)))
            case rel => exact ⟨i, j + 1, q, hi, by omega, rfl, rfl, by go_num, rfl, HE.out⟩
            case measure => omega
          | false =>
            rw [he] at ce
            have HB := hideM (And.intro (hb (by omega)) (rb (by omega)))
            have HE : Hid (za i = zb j ∧ kept za del (i + 1) (aHi - (i + 1)) = kept zb ins (j + 1) (bHi - (j + 1))) := by
              have := HK.out
              rw [show aHi - i = (aHi - (i + 1)) + 1 from by omega, show bHi - j = (bHi - (j + 1)) + 1 from by omega, kept_succ, kept_succ zb, hd, he] at this
              exact hideM (by simpa using this)
            clear hd he
            obtain rfl := HA.out.1
            obtain rfl := HB.out.1
            have e1 := HA.out.2.cell (i := i) (by omega)
            have e2 := HB.out.2.cell (i := j) (by omega)
            have t1 : (za i != zb j) = false := by simpa using HE.out.1
            have i1 : (i : Int) < la := by omega
            have i2 : (j : Int) < lb := by omega
            have u1 : ((i : Int) == (aHi : Int)) = false := by simp; omega
            have u2 : ((j : Int) == (bHi : Int)) = false := by simp; omega
            go_wp2
            go_quiet (fail)
            go_wp2
            go_roundg (aHi + bHi - (i + 1 + (j + 1)))
            case rel => exact ⟨i + 1, j + 1, _, by omega, by omega, rfl, by go_num, by go_num, rfl, HE.out.2⟩
            case measure => omega
        · exfalso
          have := HK.out
          rw [show aHi - i = (aHi - (i + 1)) + 1 from by omega, show bHi - j = 0 from by omega, kept_succ, hd] at this
          simp [kept] at this
    · by_cases cj : j < bHi
      · have ce := ri.cell (i := j) (by omega)
        cases he : ins j with
        | true =>
          rw [he] at ce
          have HE : Hid (kept za del i (aHi - i) = kept zb ins (j + 1) (bHi - (j + 1))) := by
            have := HK.out
            rw [show bHi - j = (bHi - (j + 1)) + 1 from by omega, kept_succ zb, he] at this
            exact hideM (by simpa using this)
          clear he
          go_wp2
          go_roundg (aHi + bHi - (i + (j + 1)))
          case rel => exact ⟨i, j + 1, q, hi, by omega, rfl, rfl, by go_num, rfl, HE.out⟩
          case measure => omega
        | false =>
          exfalso
          have := HK.out
          rw [show bHi - j = (bHi - (j + 1)) + 1 from by omega, show aHi - i = 0 from by omega, kept_succ zb, he] at this
          simp [kept] at this
      · go_wp2
        go_ret
        exact ⟨rfl, q, rfl⟩

end Go.Proofs.Qxb6603371a
