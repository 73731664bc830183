import Derived.Test.Qxb6603341aWiE
namespace Go.Proofs.Qxb6603341a
open Go.RowKit

theorem row_later {w w' : World} {b t n B : Nat} {f : Nat → Value} (h : w.rowIs b t n f) (hb : Below B w w') (hB : b < B) : w'.rowIs b t n f := h.of_block (hb.block _ hB)

theorem StrsAt.later {w w' : World} {b off n B : Nat} {s : Nat → ByteArray} (h : StrsAt w b off n s) (hb : Below B w w') (hB : w.heap.size ≤ B) : StrsAt w' b off n s := by
  intro i hi
  obtain ⟨h1, h2⟩ := h i hi
  have := block_lt_of_cell h1
  exact ⟨(hb.cell (p := ⟨b, off + i, none⟩) (by simp at this ⊢; omega)).trans h1, h2⟩

theorem RecsAt.later {w w' : World} {b off n B : Nat} {A : Nat → Option Addr} {L C : Nat → Nat} (h : RecsAt w b off n A L C) (hb : Below B w w') (hB : w.heap.size ≤ B) : RecsAt w' b off n A L C := by
  intro i hi
  obtain ⟨h1, h2⟩ := h i hi
  have := block_lt_of_cell h1
  exact ⟨(hb.cell (p := ⟨b, off + i, none⟩) (by simp at this ⊢; omega)).trans h1, h2⟩

set_option maxRecDepth 100000 in
set_option maxHeartbeats 2000000 in
theorem parts_main (a0 a1 a2 a3 : Option Addr) (b0 o0 n0 c0 b1 o1 n1 c1 b2 o2 n2 c2 b3 o3 n3 c3 : Nat) (s0 s1 s2 : Nat → ByteArray) (A : Nat → Option Addr) (L C : Nat → Nat) (w : World)
    (h0 : 0 < n0 → a0 = some ⟨b0, o0, none⟩) (h1 : 0 < n1 → a1 = some ⟨b1, o1, none⟩) (h2 : 0 < n2 → a2 = some ⟨b2, o2, none⟩) (h3 : 0 < n3 → a3 = some ⟨b3, o3, none⟩)
    (m0 : n0 ≤ maxLen) (m1 : n1 ≤ maxLen) (m2 : n2 ≤ maxLen) (m3 : n3 ≤ maxLen) (k0 : StrsAt w b0 o0 n0 s0) (k1 : StrsAt w b1 o1 n1 s1) (k2 : StrsAt w b2 o2 n2 s2) (k3 : RecsAt w b3 o3 n3 A L C)
    (hby : ∀ i, i < n3 → BytesAt w (A i) (L i)) :
    Calls Try.prog 5 #[.slice a0 n0 c0, .slice a1 n1 c1, .slice a2 n2 c2, .slice a3 n3 c3] w fun e w' => e = .returned (.bool true) ∧ Below w.heap.size w w' := by
  have hz := hide (zzBytes11 a0 a1 a2 a3 b0 o0 n0 c0 b1 o1 n1 c1 b2 o2 n2 c2 b3 o3 n3 c3 s0 s1 s2 A L C w h0 h1 h2 h3 m0 m1 m2 m3 k0 k1 k2 k3)
  have hf := hide (fit_any a0 a1 a2 a3 b0 o0 n0 c0 b1 o1 n1 c1 b2 o2 n2 c2 b3 o3 n3 c3 s0 s1 s2 A L C w h0 h1 h2 h3 m0 m1 m2 m3 k0 k1 k2 k3)
  have HK := hide (And.intro k0 (And.intro k1 (And.intro k2 (And.intro k3 hby))))
  have HH := hide (And.intro h0 (And.intro h1 (And.intro h2 h3)))
  clear k0 k1 k2 k3 hby h0 h1 h2 h3
  unfold maxLen at m0 m1 m2 m3
  go_enter Try.func5, Try.ntmps5
  go_wp2_with fail
  refine hz.out.mono ?_
  rintro e w' ⟨r, rfl, rfl⟩
  cases r with
  | false =>
    go_wp2_with fail
    go_ret
    exact ⟨rfl, Below.refl _ _⟩
  | true =>
  by_cases g0 : (65536 : Int) < (n0 : Int)
  · go_wp2_with fail
    go_ret
    exact ⟨rfl, Below.refl _ _⟩
  by_cases g1 : (65536 : Int) < (n1 : Int)
  · go_wp2_with fail
    go_ret
    exact ⟨rfl, Below.refl _ _⟩
  by_cases g2 : (65536 : Int) < (n2 : Int)
  · go_wp2_with fail
    go_ret
    exact ⟨rfl, Below.refl _ _⟩
  by_cases g3 : (65536 : Int) < (n3 : Int)
  · go_wp2_with fail
    go_ret
    exact ⟨rfl, Below.refl _ _⟩
  go_wp2_with fail
  refine hf.out.mono ?_
  rintro e w' ⟨r, rfl, rfl, hr⟩
  cases r with
  | false =>
    clear hr
    go_wp2_with fail
    go_ret
    exact ⟨rfl, Below.refl _ _⟩
  | true =>
  obtain ⟨hn, rfl, rfl, rfl, htot⟩ := hr rfl
  obtain ⟨e1, e2, e3⟩ := sums s0 s1 s2 L n3
  have hL : ∀ i, i < n3 → L i ≤ 1048576 := fun i hi => by
    have := sumN_at L hi
    omega
  have B0 : sumN (fun i => (s0 i).size) n3 ≤ 1048576 := by omega
  have B1 : sumN (fun i => (s1 i).size) n3 ≤ 1048576 := by omega
  have B2 : sumN (fun i => (s2 i).size) n3 ≤ 1048576 := by omega
  have B3 : sumN (fun i => 4 + L i) n3 ≤ 2097152 := by omega
  have B4 : sumN (partB s0 s1 s2 L) n3 ≤ 2097152 := by omega
  have HE := hide e1
  have HL := hide hL
  clear hr hz hf e1 e2 e3 htot hL g0 g1 g2 g3 m0 m1 m2 m3
  go_wp2_with fail
  refine (cloneStrs a0 b0 o0 n3 c0 HH.out.1 s0 _ hn HK.out.1).mono ?_
  rintro e w1 ⟨x0, rfl, hx0, r0, l1⟩
  have z1 := l1.size
  go_wp2_with fail
  refine (cloneStrs a1 b1 o1 n3 c1 HH.out.2.1 s1 _ hn (HK.out.2.1.later l1 (Nat.le_refl _))).mono ?_
  rintro e w2 ⟨x1, rfl, hx1, r1, l2⟩
  have z2 := l2.size
  have L2 : Below w'.heap.size w' w2 := l1.trans (l2.mono z1)
  have r0' : 0 < n3 → w2.rowIs w'.heap.size 9 n3 (fun i => .string (s0 i)) := fun h => row_later (r0 h) l2 ((r0 h).lt)
  go_wp2_with fail
  refine (cloneStrs a2 b2 o2 n3 c2 HH.out.2.2.1 s2 _ hn (HK.out.2.2.1.later L2 (Nat.le_refl _))).mono ?_
  rintro e w3 ⟨x2, rfl, hx2, r2, l3⟩
  have z3 := l3.size
  have L3 : Below w'.heap.size w' w3 := L2.trans (l3.mono (by omega))
  have r0'' : 0 < n3 → w3.rowIs w'.heap.size 9 n3 (fun i => .string (s0 i)) := fun h => row_later (r0' h) l3 ((r0' h).lt)
  have r1' : 0 < n3 → w3.rowIs w1.heap.size 9 n3 (fun i => .string (s1 i)) := fun h => row_later (r1 h) l3 ((r1 h).lt)
  go_wp2_with fail
  refine (cloneRecs a3 b3 o3 n3 c3 HH.out.2.2.2 A L C _ hn HL.out (HK.out.2.2.2.1.later L3 (Nat.le_refl _)) (fun i hi => (HK.out.2.2.2.2 i hi).later L3 (Nat.le_refl _))).mono ?_
  rintro e w4 ⟨x3, fr, rfl, hx3, r3, hfr, l4⟩
  have z4 := l4.size
  have L4 : Below w'.heap.size w' w4 := L3.trans (l4.mono (by omega))
  have q0 : 0 < n3 → w4.rowIs w'.heap.size 9 n3 (fun i => .string (s0 i)) := fun h => row_later (r0'' h) l4 ((r0'' h).lt)
  have q1 : 0 < n3 → w4.rowIs w1.heap.size 9 n3 (fun i => .string (s1 i)) := fun h => row_later (r1' h) l4 ((r1' h).lt)
  have q2 : 0 < n3 → w4.rowIs w2.heap.size 9 n3 (fun i => .string (s2 i)) := fun h => row_later (r2 h) l4 ((r2 h).lt)
  have HQ := hide (And.intro q0 (And.intro q1 (And.intro q2 (And.intro r3 hfr))))
  have HX := hide (And.intro hx0 (And.intro hx1 (And.intro hx2 hx3)))
  clear q0 q1 q2 r0 r0' r0'' r1 r1' r2 r3 hfr hx0 hx1 hx2 hx3 L2 L3 l1 l2 l3 l4 HK HH HL
  go_wp2_with fail
  refine (makeParts x0 x1 x2 x3 _ _ _ _ n3 HX.out.1 HX.out.2.1 HX.out.2.2.1 HX.out.2.2.2 s0 s1 s2 fr L _ hn HQ.out.1 HQ.out.2.1 HQ.out.2.2.1 HQ.out.2.2.2.1 HQ.out.2.2.2.2).mono ?_
  rintro e w5 ⟨x4, fp, rfl, hx4, r4, hp, l5⟩
  have z5 := l5.size
  have L5 : Below w'.heap.size w' w5 := L4.trans (l5.mono (by omega))
  have t0 : 0 < n3 → w5.rowIs w'.heap.size 9 n3 (fun i => .string (s0 i)) := fun h => row_later (HQ.out.1 h) l5 (HQ.out.1 h).lt
  have t1 : 0 < n3 → w5.rowIs w1.heap.size 9 n3 (fun i => .string (s1 i)) := fun h => row_later (HQ.out.2.1 h) l5 (HQ.out.2.1 h).lt
  have t2 : 0 < n3 → w5.rowIs w2.heap.size 9 n3 (fun i => .string (s2 i)) := fun h => row_later (HQ.out.2.2.1 h) l5 (HQ.out.2.2.1 h).lt
  have t3 : 0 < n3 → w5.rowIs w3.heap.size 30 n3 fr := fun h => row_later (HQ.out.2.2.2.1 h) l5 (HQ.out.2.2.2.1 h).lt
  have c1 := hide (sumLens x0 _ n3 HX.out.1 s0 w5 hn B0 t0)
  have c2 := hide (sumLens x1 _ n3 HX.out.2.1 s1 w5 hn B1 t1)
  have c3 := hide (sumLens x2 _ n3 HX.out.2.2.1 s2 w5 hn B2 t2)
  have c4 := hide (recsSize x3 _ n3 HX.out.2.2.2 fr L w5 hn B3 t3 HQ.out.2.2.2.2)
  have c5 := hide (zzPartsSize x4 _ n3 hx4 s0 s1 s2 fr fp L w5 hn B4 r4 hp HQ.out.2.2.2.2)
  clear t0 t1 t2 t3 hx4 r4 hp HQ HX L4 l5
  obtain ⟨S0, hS0⟩ : ∃ S : Nat, S = sumN (fun i => (s0 i).size) n3 := ⟨_, rfl⟩
  obtain ⟨S1, hS1⟩ : ∃ S : Nat, S = sumN (fun i => (s1 i).size) n3 := ⟨_, rfl⟩
  obtain ⟨S2, hS2⟩ : ∃ S : Nat, S = sumN (fun i => (s2 i).size) n3 := ⟨_, rfl⟩
  obtain ⟨S3, hS3⟩ : ∃ S : Nat, S = sumN (fun i => 4 + L i) n3 := ⟨_, rfl⟩
  obtain ⟨S4, hS4⟩ : ∃ S : Nat, S = sumN (partB s0 s1 s2 L) n3 := ⟨_, rfl⟩
  rw [← hS0] at c1 B0 HE
  rw [← hS1] at c2 B1 HE
  rw [← hS2] at c3 B2 HE
  rw [← hS3] at c4 B3 HE
  rw [← hS4] at c5 B4 HE
  clear hS0 hS1 hS2 hS3 hS4
  go_wp2_with fail
  refine c1.out.mono ?_
  rintro e v1 ⟨rfl, rfl⟩
  go_wp2_with fail
  refine c2.out.mono ?_
  rintro e v2 ⟨rfl, rfl⟩
  go_wp2_with fail
  refine c3.out.mono ?_
  rintro e v3 ⟨rfl, rfl⟩
  go_wp2_with fail
  refine c4.out.mono ?_
  rintro e v4 ⟨rfl, rfl⟩
  go_wp2_with fail
  refine c5.out.mono ?_
  rintro e v5 ⟨rfl, hv⟩
  have hfin : ((1 + (S4 : Int)) == (1 + 3 * (n3 : Int) + (S0 : Int) + (S1 : Int) + (S2 : Int) + (S3 : Int))) = true := by
    have := HE.out
    simp
    omega
  go_wp2_with fail
  go_ret
  exact ⟨rfl, L5.trans (hv.mono (by omega))⟩

end Go.Proofs.Qxb6603341a
