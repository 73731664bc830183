import Derived.Test.Qxb6603341aWiA
namespace Go.Proofs.Qxb6603341a
open Go.RowKit

/-- The sum of f over the first k numbers. -/
def sumN (f : Nat → Nat) : Nat → Nat
  | 0 => 0
  | k + 1 => sumN f k + f k

theorem sumN_le (f : Nat → Nat) {k n : Nat} (h : k ≤ n) : sumN f k ≤ sumN f n := by
  induction n with
  | zero =>
    obtain rfl : k = 0 := by omega
    exact Nat.le_refl _
  | succ n ih =>
    by_cases e : k = n + 1
    · subst e; exact Nat.le_refl _
    · have := ih (by omega); simp only [sumN]; omega

theorem sumN_at (f : Nat → Nat) {k n : Nat} (h : k < n) : sumN f k + f k ≤ sumN f n := sumN_le f (show k + 1 ≤ n from h)

/-- The bytes of the first k parts. -/
def tot (s0 s1 s2 : Nat → ByteArray) (L : Nat → Nat) : Nat → Nat := sumN (fun i => (s0 i).size + (s1 i).size + (s2 i).size + L i)

/-- What addLen answers: where it says yes, the sum. -/
def AddPost (t l : Int) (w : World) (e : Ending) (w' : World) : Prop := ∃ (t' : Int) (r : Bool), e = .returned (.tuple #[.int .i64 t', .bool r]) ∧ w' = w ∧ (r = true → t' = t + l ∧ t' ≤ 1048576)

set_option maxHeartbeats 400000 in
theorem add_any (t l : Int) (w : World) (ht : 0 ≤ t) (hl : 0 ≤ l) : Calls Try.prog 17 #[.int .i64 t, .int .i64 l] w (AddPost t l w) := by
  by_cases c1 : 1048576 < l
  · go_enter Try.func17, Try.ntmps17
    go_wp2
    go_ret2
    exact ⟨_, _, rfl, rfl, fun h => by cases h⟩
  by_cases c2 : 1048576 < t
  · go_enter Try.func17, Try.ntmps17
    go_wp2
    go_ret2
    exact ⟨_, _, rfl, rfl, fun h => by cases h⟩
  by_cases c3 : t + l ≤ 1048576
  · have hd : decide (t + l ≤ 1048576) = true := decide_eq_true c3
    go_enter Try.func17, Try.ntmps17
    go_wp2
    go_ret2
    exact ⟨_, _, rfl, rfl, fun _ => ⟨rfl, c3⟩⟩
  · have hd : decide (t + l ≤ 1048576) = false := decide_eq_false c3
    go_enter Try.func17, Try.ntmps17
    go_wp2
    go_ret2
    exact ⟨_, _, rfl, rfl, fun h => by cases h⟩

/-- What partsFit answers: where it says yes, one length and a bound on the bytes. -/
def FitPost (n0 n1 n2 n3 : Nat) (s0 s1 s2 : Nat → ByteArray) (L : Nat → Nat) (w : World) (e : Ending) (w' : World) : Prop :=
  ∃ r : Bool, e = .returned (.bool r) ∧ w' = w ∧ (r = true → n0 ≤ 65536 ∧ n1 = n0 ∧ n2 = n0 ∧ n3 = n0 ∧ tot s0 s1 s2 L n0 ≤ 1048576)

theorem tot_step {s0 s1 s2 : Nat → ByteArray} {L : Nat → Nat} {k : Nat} {T c : Int} (h : T = c + tot s0 s1 s2 L k) : T + (s0 k).size + (s1 k).size + (s2 k).size + L k = c + tot s0 s1 s2 L (k + 1) := by
  rw [h]; simp only [tot, sumN]; omega

set_option maxRecDepth 100000 in
set_option maxHeartbeats 2000000 in
theorem fit_any (a0 a1 a2 a3 : Option Addr) (b0 o0 n0 c0 b1 o1 n1 c1 b2 o2 n2 c2 b3 o3 n3 c3 : Nat) (s0 s1 s2 : Nat → ByteArray) (A : Nat → Option Addr) (L C : Nat → Nat) (w : World)
    (h0 : 0 < n0 → a0 = some ⟨b0, o0, none⟩) (h1 : 0 < n1 → a1 = some ⟨b1, o1, none⟩) (h2 : 0 < n2 → a2 = some ⟨b2, o2, none⟩) (h3 : 0 < n3 → a3 = some ⟨b3, o3, none⟩)
    (m0 : n0 ≤ maxLen) (m1 : n1 ≤ maxLen) (m2 : n2 ≤ maxLen) (m3 : n3 ≤ maxLen) (k0 : StrsAt w b0 o0 n0 s0) (k1 : StrsAt w b1 o1 n1 s1) (k2 : StrsAt w b2 o2 n2 s2) (k3 : RecsAt w b3 o3 n3 A L C) :
    Calls Try.prog 12 #[.slice a0 n0 c0, .slice a1 n1 c1, .slice a2 n2 c2, .slice a3 n3 c3] w (FitPost n0 n1 n2 n3 s0 s1 s2 L w) := by
  unfold maxLen at m0 m1 m2 m3
  by_cases g0 : (65536 : Int) < (n0 : Int)
  · go_enter Try.func12, Try.ntmps12
    go_wp2_with fail
    go_ret
    exact ⟨_, rfl, rfl, fun h => by cases h⟩
  by_cases g1 : n1 = n0
  · subst g1
    by_cases g2 : n2 = n1
    · subst g2
      by_cases g3 : n3 = n2
      · subst g3
        go_enter Try.func12, Try.ntmps12
        go_wp2_with fail
        go_loop [10, 11, 12] (fun t r i => ∃ (k : Nat) (T : Int) (R : Bool), k ≤ n3 ∧ i = .int .i64 k ∧ t = .int .i64 T ∧ r = .bool R ∧ (R = true → T = 72 * n3 + tot s0 s1 s2 L k ∧ T ≤ 1048576)) (fun _ _ i => n3 - (intOf i).toNat)
        case atStart => exact ⟨0, _, _, Nat.zero_le _, rfl, rfl, rfl, fun h => ⟨by simp [tot, sumN], of_decide_eq_true h⟩⟩
        case round =>
          obtain ⟨k, T, R, hk, rfl, rfl, rfl, hR⟩ := hrel
          cases R with
          | false =>
            clear hR
            by_cases hlt : k < n3
            all_goals
              go_wp2_with fail
              go_ret
              exact ⟨_, rfl, rfl, fun h => by cases h⟩
          | true =>
            obtain ⟨hT, hT2⟩ := hR rfl
            clear hR
            by_cases hlt : k < n3
            · obtain ⟨x0, y0⟩ := k0 k hlt
              obtain ⟨x1, y1⟩ := k1 k hlt
              obtain ⟨x2, y2⟩ := k2 k hlt
              obtain ⟨x3, y3⟩ := k3 k hlt
              obtain rfl := h0 (by omega)
              obtain rfl := h1 (by omega)
              obtain rfl := h2 (by omega)
              obtain rfl := h3 (by omega)
              unfold maxLen at y0 y1 y2 y3
              have hT0 : 0 ≤ T := by omega
              have HT := hide hT
              clear hT k0 k1 k2 k3
              go_wp2_with fail
              refine (add_any _ _ _ (by omega) (by omega)).mono ?_
              rintro e w' ⟨t0, r0, rfl, rfl, hr⟩
              cases r0 with
              | false =>
                clear hr
                go_wp2_with fail
                go_round
                case rel => exact ⟨k + 1, _, false, by omega, by go_num, rfl, rfl, fun h => by cases h⟩
                case measure => simp [intOf]; omega
              | true =>
              obtain ⟨rfl, q0⟩ := hr rfl
              clear hr
              go_wp2_with fail
              refine (add_any _ _ _ (by omega) (by omega)).mono ?_
              rintro e w' ⟨t1, r1, rfl, rfl, hr⟩
              cases r1 with
              | false =>
                clear hr
                go_wp2_with fail
                go_round
                case rel => exact ⟨k + 1, _, false, by omega, by go_num, rfl, rfl, fun h => by cases h⟩
                case measure => simp [intOf]; omega
              | true =>
              obtain ⟨rfl, q1⟩ := hr rfl
              clear hr
              go_wp2_with fail
              refine (add_any _ _ _ (by omega) (by omega)).mono ?_
              rintro e w' ⟨t2, r2, rfl, rfl, hr⟩
              cases r2 with
              | false =>
                clear hr
                go_wp2_with fail
                go_round
                case rel => exact ⟨k + 1, _, false, by omega, by go_num, rfl, rfl, fun h => by cases h⟩
                case measure => simp [intOf]; omega
              | true =>
              obtain ⟨rfl, q2⟩ := hr rfl
              clear hr
              go_wp2_with fail
              refine (add_any _ _ _ (by omega) (by omega)).mono ?_
              rintro e w' ⟨t3, r3, rfl, rfl, hr⟩
              cases r3 with
              | false =>
                clear hr
                go_wp2_with fail
                go_round
                case rel => exact ⟨k + 1, _, false, by omega, by go_num, rfl, rfl, fun h => by cases h⟩
                case measure => simp [intOf]; omega
              | true =>
              obtain ⟨rfl, q3⟩ := hr rfl
              clear hr
              go_wp2_with fail
              go_round
              case rel => exact ⟨k + 1, _, true, by omega, by go_num, rfl, rfl, fun _ => ⟨tot_step HT.out, by omega⟩⟩
              case measure => simp [intOf]; omega
            · obtain rfl : k = n3 := by omega
              have HT := hide hT
              clear hT
              go_wp2_with fail
              go_ret
              exact ⟨_, rfl, rfl, fun _ => ⟨by omega, rfl, rfl, rfl, by have := HT.out; omega⟩⟩
      · have q : ((n3 : Int) != (n2 : Int)) = true := by simp; omega
        clear g3
        go_enter Try.func12, Try.ntmps12
        go_wp2_with fail
        go_ret
        exact ⟨_, rfl, rfl, fun h => by cases h⟩
    · have q : ((n2 : Int) != (n1 : Int)) = true := by simp; omega
      clear g2
      go_enter Try.func12, Try.ntmps12
      go_wp2_with fail
      go_ret
      exact ⟨_, rfl, rfl, fun h => by cases h⟩
  · have q : ((n1 : Int) != (n0 : Int)) = true := by simp; omega
    clear g1
    go_enter Try.func12, Try.ntmps12
    go_wp2_with fail
    go_ret
    exact ⟨_, rfl, rfl, fun h => by cases h⟩
end Go.Proofs.Qxb6603341a
