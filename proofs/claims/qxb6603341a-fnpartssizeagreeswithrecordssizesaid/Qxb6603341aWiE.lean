import Derived.Test.Qxb6603341aWiD
namespace Go.Proofs.Qxb6603341a
open Go.RowKit

theorem ret_int {k : IntKind} {a b : Int} (h : a = b) : Ending.returned (.int k a) = .returned (.int k b) := by rw [h]
theorem int_eq {k : IntKind} {a b : Int} (h : a = b) : Value.int k a = .int k b := by rw [h]

set_option maxHeartbeats 400000 in
theorem sumLens (ao : Option Addr) (b n : Nat) (hao : 0 < n → ao = some ⟨b, 0, none⟩) (s : Nat → ByteArray) (w : World) (hn : n ≤ 65536) (hs : sumN (fun i => (s i).size) n ≤ 1048576) (h : 0 < n → w.rowIs b 9 n (fun i => .string (s i))) :
    Calls Try.prog 15 #[.slice ao n n] w fun e w' => e = .returned (.int .i64 (sumN (fun i => (s i).size) n)) ∧ w' = w := by
  go_enter Try.func15, Try.ntmps15
  go_wp2_with fail
  go_loop [3, 4] (fun t i => ∃ k : Nat, k ≤ n ∧ i = .int .i64 k ∧ t = .int .i64 (sumN (fun i => (s i).size) k)) (fun _ i => n - (intOf i).toNat)
  case atStart => exact ⟨0, Nat.zero_le _, rfl, rfl⟩
  case round =>
    obtain ⟨k, hk, rfl, rfl⟩ := hrel
    by_cases hlt : k < n
    · obtain rfl := hao (by omega)
      have x := (h (by omega)).cell hlt
      have hb := sumN_at (fun i => (s i).size) hlt
      clear h
      go_wp2_with fail
      go_round
      case rel => exact ⟨k + 1, by omega, by go_num, int_eq (by simp only [sumN]; omega)⟩
      case measure => simp [intOf]; omega
    · obtain rfl : k = n := by omega
      go_wp2_with fail
      go_ret
      exact ⟨rfl, rfl⟩

set_option maxHeartbeats 400000 in
theorem recsSize (ao : Option Addr) (b n : Nat) (hao : 0 < n → ao = some ⟨b, 0, none⟩) (fr : Nat → Value) (L : Nat → Nat) (w : World) (hn : n ≤ 65536) (hs : sumN (fun i => 4 + L i) n ≤ 2097152) (h : 0 < n → w.rowIs b 30 n fr) (hfr : ∀ j, j < n → RecCell L (fr j) j) :
    Calls Try.prog 10 #[.slice ao n n] w fun e w' => e = .returned (.int .i64 (sumN (fun i => 4 + L i) n)) ∧ w' = w := by
  go_enter Try.func10, Try.ntmps10
  go_wp2_with fail
  go_loop [3, 8] (fun t i => ∃ k : Nat, k ≤ n ∧ i = .int .i64 k ∧ t = .int .i64 (sumN (fun i => 4 + L i) k)) (fun _ i => n - (intOf i).toNat)
  case atStart => exact ⟨0, Nat.zero_le _, rfl, rfl⟩
  case round =>
    obtain ⟨k, hk, rfl, rfl⟩ := hrel
    by_cases hlt : k < n
    · obtain rfl := hao (by omega)
      have x := (h (by omega)).cell hlt
      obtain ⟨ak, hak⟩ := hfr k hlt
      rw [hak] at x
      have hb := sumN_at (fun i => 4 + L i) hlt
      clear h hfr hak
      go_wp2_with fail
      go_round
      case rel => exact ⟨k + 1, by omega, by go_num, int_eq (by simp only [sumN]; omega)⟩
      case measure => simp [intOf]; omega
    · obtain rfl : k = n := by omega
      go_wp2_with fail
      go_ret
      exact ⟨rfl, rfl⟩

/-- What one part takes. -/
def partB (s0 s1 s2 : Nat → ByteArray) (L : Nat → Nat) (i : Nat) : Nat := 7 + (s0 i).size + (s1 i).size + (s2 i).size + L i

set_option maxHeartbeats 1000000 in
theorem partsSize (ao : Option Addr) (b n : Nat) (hao : 0 < n → ao = some ⟨b, 0, none⟩) (s0 s1 s2 : Nat → ByteArray) (fr f : Nat → Value) (L : Nat → Nat) (w : World) (hn : n ≤ 65536) (hs : sumN (partB s0 s1 s2 L) n ≤ 2097152)
    (h : 0 < n → w.rowIs b 42 (n * 4) f) (hp : ∀ j, j < n → PartAt s0 s1 s2 fr f j) (hfr : ∀ j, j < n → RecCell L (fr j) j) :
    Calls Try.prog 19 #[.slice ao n n] w fun e w' => e = .returned (.int .i64 (1 + sumN (partB s0 s1 s2 L) n)) ∧ Below w.heap.size w w' := by
  go_enter Try.func19, Try.ntmps19
  go_wp2_with fail
  go_loopw [3, 8] (fun t i wr => ∃ k : Nat, k ≤ n ∧ i = .int .i64 k ∧ t = .int .i64 (1 + sumN (partB s0 s1 s2 L) k) ∧ Below w.heap.size w wr) (fun _ i _ => n - (intOf i).toNat)
  case atStart => exact ⟨0, Nat.zero_le _, rfl, rfl, Below.refl _ _⟩
  case round =>
    obtain ⟨k, hk, rfl, rfl, hbel⟩ := hrel
    by_cases hlt : k < n
    · obtain rfl := hao (by omega)
      obtain ⟨p0, p1, p2, p3⟩ := hp k hlt
      obtain ⟨ak, hak⟩ := hfr k hlt
      rw [hak] at p3
      have r := h (by omega)
      have x0 := (hbel.cell (p := ⟨b, k * 4, none⟩) r.lt).trans (r.cell (i := k * 4) (by omega))
      have x1 := (hbel.cell (p := ⟨b, k * 4 + 1, none⟩) r.lt).trans (r.cell (i := k * 4 + 1) (by omega))
      have x2 := (hbel.cell (p := ⟨b, k * 4 + 2, none⟩) r.lt).trans (r.cell (i := k * 4 + 2) (by omega))
      have x3 := (hbel.cell (p := ⟨b, k * 4 + 3, none⟩) r.lt).trans (r.cell (i := k * 4 + 3) (by omega))
      rw [p0] at x0
      rw [p1] at x1
      rw [p2] at x2
      rw [p3] at x3
      have hb := sumN_at (partB s0 s1 s2 L) hlt
      have hpb : partB s0 s1 s2 L k = 7 + (s0 k).size + (s1 k).size + (s2 k).size + L k := rfl
      rw [hpb] at hb
      have hsz := hbel.size
      clear h hfr hak hp p0 p1 p2 p3 hpb r
      go_wp2_with fail
      go_roundw
      case rel => exact ⟨k + 1, by omega, by go_num, int_eq (by simp only [sumN, partB]; omega), hbel.alloc (by omega) _⟩
      case measure => simp [intOf]; omega
    · obtain rfl : k = n := by omega
      go_wp2_with fail
      go_ret
      exact ⟨rfl, hbel⟩

set_option maxHeartbeats 400000 in
theorem zzPartsSize (ao : Option Addr) (b n : Nat) (hao : 0 < n → ao = some ⟨b, 0, none⟩) (s0 s1 s2 : Nat → ByteArray) (fr f : Nat → Value) (L : Nat → Nat) (w : World) (hn : n ≤ 65536) (hs : sumN (partB s0 s1 s2 L) n ≤ 2097152)
    (h : 0 < n → w.rowIs b 42 (n * 4) f) (hp : ∀ j, j < n → PartAt s0 s1 s2 fr f j) (hfr : ∀ j, j < n → RecCell L (fr j) j) :
    Calls Try.prog 16 #[.slice ao n n] w fun e w' => e = .returned (.int .i64 (1 + sumN (partB s0 s1 s2 L) n)) ∧ Below w.heap.size w w' := by
  have H := hide (partsSize ao b n hao s0 s1 s2 fr f L w hn hs h hp hfr)
  clear h hp hfr
  go_enter Try.func16, Try.ntmps16
  go_wp2_with fail
  refine H.out.mono ?_
  rintro e w1 ⟨rfl, hb⟩
  go_wp2_with fail
  go_ret
  exact ⟨rfl, hb⟩

theorem sums (s0 s1 s2 : Nat → ByteArray) (L : Nat → Nat) (n : Nat) :
    sumN (partB s0 s1 s2 L) n = 3 * n + sumN (fun i => (s0 i).size) n + sumN (fun i => (s1 i).size) n + sumN (fun i => (s2 i).size) n + sumN (fun i => 4 + L i) n ∧
    tot s0 s1 s2 L n = sumN (fun i => (s0 i).size) n + sumN (fun i => (s1 i).size) n + sumN (fun i => (s2 i).size) n + sumN L n ∧ sumN (fun i => 4 + L i) n = 4 * n + sumN L n := by
  induction n with
  | zero => simp [sumN, tot]
  | succ n ih =>
    simp only [sumN, tot, partB] at ih ⊢
    omega

end Go.Proofs.Qxb6603341a
