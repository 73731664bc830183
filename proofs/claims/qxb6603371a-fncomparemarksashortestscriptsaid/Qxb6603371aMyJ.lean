import Derived.Test.Qxb6603371aMyI
namespace Go.Proofs.Qxb6603371a
open Go.RowKit

theorem IntsAt.below {w w' : World} {b off n : Nat} {z : Nat → Int} (h : IntsAt w b off n z) (hb : Below w.heap.size w w') : IntsAt w' b off n z := fun i hi => by
  have h1 := h i hi
  have hbs : b < w.heap.size := block_lt_of_cell h1
  exact (hb.cell (p := ⟨b, off + i, none⟩) hbs).trans h1

theorem Below.row {w w' : World} {b n : Nat} {t : TypeId} {f : Nat → Value} (hb : Below w.heap.size w w') (h : w.rowIs b t n f) : w'.rowIs b t n f := h.of_block (hb.block _ h.lt)

theorem below_drewN {B : Nat} {a w : World} (h : Below B a w) (q : Nat) : Below B a (w.drewN q) := by
  induction q with
  | zero => exact h
  | succ q ih => exact ih.drew

/-- The two texts, copied, and the marks of the comparison. -/
structure Done (la lb aLo aHi bLo bHi n m : Nat) (aa ab : Option Addr) (za zb : Nat → Int) (ba bb bd bi : Nat) (rounds : Int) (del ins : Nat → Bool) (w w' : World) : Prop where
  ha : aLo + n = aHi
  hb : bLo + m = bHi
  hla : aHi ≤ la
  hlb : bHi ≤ lb
  la4 : la ≤ 4096
  lb4 : lb ≤ 4096
  ea : 0 < la → aa = some ⟨ba, 0, none⟩
  eb : 0 < lb → ab = some ⟨bb, 0, none⟩
  ra : 0 < la → Ints w' ba la za
  rb : 0 < lb → Ints w' bb lb zb
  rd : Bools w' bd la del
  ri : Bools w' bi lb ins
  ok : CmpOk za zb rounds aLo n bLo m (fun _ => false) (fun _ => false) del ins
  bel : Below w.heap.size w w'

section
variable {la lb aLo aHi bLo bHi n m : Nat} {aa ab : Option Addr} {za zb : Nat → Int} {ba bb bd bi : Nat} {rounds : Int} {del ins : Nat → Bool} {w w' : World}
theorem Done.inA (h : Done la lb aLo aHi bLo bHi n m aa ab za zb ba bb bd bi rounds del ins w w') : ∀ i, i < la → del i = true → aLo ≤ i ∧ i < aHi := fun i _ ht => by
  have h1 := h.ha
  by_cases hc : i < aLo ∨ aLo + n ≤ i
  · rw [h.ok.outA i hc] at ht; exact absurd ht (by simp)
  · omega
theorem Done.inB (h : Done la lb aLo aHi bLo bHi n m aa ab za zb ba bb bd bi rounds del ins w w') : ∀ i, i < lb → ins i = true → bLo ≤ i ∧ i < bHi := fun i _ ht => by
  have h1 := h.hb
  by_cases hc : i < bLo ∨ bLo + m ≤ i
  · rw [h.ok.outB i hc] at ht; exact absurd ht (by simp)
  · omega
theorem Done.agree (h : Done la lb aLo aHi bLo bHi n m aa ab za zb ba bb bd bi rounds del ins w w') : kept za del aLo (aHi - aLo) = kept zb ins bLo (bHi - bLo) := by
  have h1 := h.ha
  have h2 := h.hb
  rw [show aHi - aLo = n from by omega, show bHi - bLo = m from by omega]
  exact h.ok.agree
end

set_option maxRecDepth 100000 in
set_option maxHeartbeats 4000000 in
theorem valid_main (a0 a1 : Option Addr) (b0 off0 n0 c0 b1 off1 n1 c1 : Nat) (h0 : 0 < n0 → a0 = some ⟨b0, off0, none⟩) (h1 : 0 < n1 → a1 = some ⟨b1, off1, none⟩) (z0 z1 : Nat → Int) (x2 x3 x4 x5 x6 : Int) (w : World) (m0 : n0 ≤ maxLen) (m1 : n1 ≤ maxLen) (r0 : IntsAt w b0 off0 n0 z0) (r1 : IntsAt w b1 off1 n1 z1) (hx6 : x6 ≤ 9223372036854775807) :
    Calls Try.prog 6 #[.slice a0 n0 c0, .slice a1 n1 c1, .int .i64 x2, .int .i64 x3, .int .i64 x4, .int .i64 x5, .int .i64 x6] w fun e w' => e = .returned (.bool true) ∧ Below w.heap.size w w' := by
  have HM := hideM (And.intro m0 m1)
  have HI := hideM (And.intro r0 r1)
  have HP := hideM (And.intro h0 h1)
  clear m0 m1 r0 r1 h0 h1
  go_enter Try.func6, Try.ntmps6
  go_wp2_with fail
  refine (zzBytes22 _ _ _ _ _ _ _ _ _ _ _ _ HM.out.1 HM.out.2).mono ?_
  rintro e w' ⟨r, rfl, rfl⟩
  cases r
  · go_wp2_with fail
    go_ret
    exact ⟨rfl, Below.refl _ _⟩
  by_cases g0 : (4096 : Int) < (n0 : Int)
  · go_wp2_with fail
    go_ret
    exact ⟨rfl, Below.refl _ _⟩
  by_cases g1 : (4096 : Int) < (n1 : Int)
  · go_wp2_with fail
    go_ret
    exact ⟨rfl, Below.refl _ _⟩
  go_wp2_with fail
  refine (windowFits _ _ _ _).mono ?_
  rintro e w2 ⟨r, rfl, rfl, hr⟩
  cases r
  · clear hr
    go_wp2_with fail
    go_ret
    exact ⟨rfl, Below.refl _ _⟩
  obtain ⟨f1, f2, f3⟩ := hr rfl
  clear hr
  go_wp2_with fail
  refine (windowFits _ _ _ _).mono ?_
  rintro e w3 ⟨r, rfl, rfl, hr⟩
  cases r
  · clear hr
    go_wp2_with fail
    go_ret
    exact ⟨rfl, Below.refl _ _⟩
  obtain ⟨f4, f5, f6⟩ := hr rfl
  clear hr
  by_cases g2 : x6 < 1
  · go_wp2_with fail
    go_ret
    exact ⟨rfl, Below.refl _ _⟩
  obtain ⟨aLo, rfl⟩ := Int.eq_ofNat_of_zero_le f1
  obtain ⟨bLo, rfl⟩ := Int.eq_ofNat_of_zero_le f4
  obtain ⟨aHi, rfl⟩ := Int.eq_ofNat_of_zero_le (show 0 ≤ x3 by omega)
  obtain ⟨bHi, rfl⟩ := Int.eq_ofNat_of_zero_le (show 0 ≤ x5 by omega)
  go_wp2_with fail
  refine (cloneInts a0 b0 off0 n0 c0 HP.out.1 z0 _ (by omega) HI.out.1).mono ?_
  rintro e w4 ⟨aa, rfl, ea, ra, bel4⟩
  have H4 := hideM (And.intro ea (And.intro ra bel4))
  clear ea ra bel4
  go_wp2_with fail
  refine (cloneInts a1 b1 off1 n1 c1 HP.out.2 z1 _ (by omega) (HI.out.2.below H4.out.2.2)).mono ?_
  rintro e w5 ⟨ab, rfl, eb, rb, bel5⟩
  have H5 := hideM (And.intro eb (And.intro rb bel5))
  clear eb rb bel5
  go_wp2_with fail
  refine (runCompare w3.heap.size w4.heap.size n0 n1 aa ab x6 z0 z1 (by omega) (by omega) (by omega) hx6 aLo aHi (aHi - aLo) bLo bHi (bHi - bLo) w5 (by omega) (by omega) (by omega) (by omega) (by omega) H4.out.1 H5.out.1 (fun h => Below.row H5.out.2.2 (H4.out.2.1 h)) H5.out.2.1 (Nat.le_trans H4.out.2.2.size H5.out.2.2.size) H5.out.2.2.size).mono ?_
  rintro e w6 ⟨bd, bi, del, ins, rfl, rd, ri, ok, bel6⟩
  have HD : Hid (Done n0 n1 aLo aHi bLo bHi (aHi - aLo) (bHi - bLo) aa ab z0 z1 w3.heap.size w4.heap.size bd bi x6 del ins w3 w6) :=
    ⟨by omega, by omega, by omega, by omega, by omega, by omega, H4.out.1, H5.out.1, fun h => Below.row bel6 (Below.row H5.out.2.2 (H4.out.2.1 h)), fun h => Below.row bel6 (H5.out.2.1 h), rd, ri, ok, (H4.out.2.2.trans (H5.out.2.2.mono H4.out.2.2.size)).trans (bel6.mono (Nat.le_trans H4.out.2.2.size H5.out.2.2.size))⟩
  clear rd ri ok bel6
  go_wp2_with fail
  refine (marksInside bd n0 aLo aHi del w6 HD.out.la4 HD.out.rd HD.out.inA).mono ?_
  rintro e w7 ⟨rfl, rfl⟩
  go_wp2_with fail
  refine (marksInside bi n1 bLo bHi ins w7 HD.out.lb4 HD.out.ri HD.out.inB).mono ?_
  rintro e w8 ⟨rfl, rfl⟩
  go_wp2_with fail
  refine (keptAgree aa ab w3.heap.size w4.heap.size bd bi n0 n1 aLo aHi bLo bHi z0 z1 del ins w8 HD.out.la4 HD.out.lb4 (by omega) (by omega) (by omega) (by omega) HD.out.ea HD.out.eb HD.out.ra HD.out.rb HD.out.rd HD.out.ri HD.out.agree).mono ?_
  rintro e w9 ⟨rfl, q, rfl⟩
  go_wp2_with fail
  go_ret
  exact ⟨rfl, below_drewN HD.out.bel q⟩
end Go.Proofs.Qxb6603371a
