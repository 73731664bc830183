import Derived.Test.Qxb6603371aMyJ
import Derived.Test.Qxb6603371aMyK
import Derived.Deep.RegionWith
namespace Go.Proofs.Qxb6603371a
open Go.RowKit

theorem size_drewN (w : World) (q : Nat) : (w.drewN q).heap.size = w.heap.size := by
  induction q with
  | zero => rfl
  | succ q ih => exact ih

def LPost (v : Nat) (w0 : World) (e : Ending) (w' : World) : Prop := e = .returned (.int .i64 v) ∧ Below w0.heap.size w0 w'

theorem cut_at {aa ax : Option Addr} {ba la lo hi n : Nat} (h : lo + n = hi) (hl : hi ≤ la) (ha : 0 < la → aa = some ⟨ba, 0, none⟩) (hx : (if la = lo then aa else Option.map (fun x => x.add lo) aa) = ax) : 0 < n → ax = some ⟨ba, lo, none⟩ := fun h0 => by
  rw [← hx, if_neg (by omega), ha (by omega)]
  simp [Go.WideShapes.add_plain]

theorem lcs_contract {aa ab ax ay : Option Addr} {ba bb la lb aLo aHi bLo bHi n m v : Nat} {za zb : Nat → Int} {w : World} (h1 : aLo + n = aHi) (h2 : bLo + m = bHi) (h3 : aHi ≤ la) (h4 : bHi ≤ lb) (la4 : la ≤ 4096) (lb4 : lb ≤ 4096) (ea : 0 < la → aa = some ⟨ba, 0, none⟩) (eb : 0 < lb → ab = some ⟨bb, 0, none⟩)
    (ra : 0 < la → Ints w ba la za) (rb : 0 < lb → Ints w bb lb zb) (hx : (if la = aLo then aa else Option.map (fun x => x.add aLo) aa) = ax) (hy : (if lb = bLo then ab else Option.map (fun x => x.add bLo) ab) = ay) (hv : v = lcs (win za aLo n) (win zb bLo m)) (cx cy t : Nat) :
    Calls Try.prog 20 #[.slice ax n cx, .slice ay m cy] (w.drewN t) (LPost v (w.drewN t)) := by
  have e1 : win (fun i => za (aLo + i)) 0 n = win za aLo n := win_congr (fun i _ => by simp)
  have e2 : win (fun i => zb (bLo + i)) 0 m = win zb bLo m := win_congr (fun i _ => by simp)
  have := diffLCS ax ay ba aLo bb bLo n cx m cy (cut_at h1 h3 ea hx) (cut_at h2 h4 eb hy) (fun i => za (aLo + i)) (fun i => zb (bLo + i)) (w.drewN t) (by omega) (by omega)
    (fun i hi => (intsDrewN (ra (by omega)) t).cell (i := aLo + i) (by omega)) (fun i hi => (intsDrewN (rb (by omega)) t).cell (i := bLo + i) (by omega))
  rw [e1, e2, ← hv] at this
  exact this

set_option maxRecDepth 100000 in
set_option maxHeartbeats 4000000 in
theorem shortest_main (a0 a1 : Option Addr) (b0 off0 n0 c0 b1 off1 n1 c1 : Nat) (h0 : 0 < n0 → a0 = some ⟨b0, off0, none⟩) (h1 : 0 < n1 → a1 = some ⟨b1, off1, none⟩) (z0 z1 : Nat → Int) (x2 x3 x4 x5 x6 : Int) (w : World) (m0 : n0 ≤ maxLen) (m1 : n1 ≤ maxLen) (r0 : IntsAt w b0 off0 n0 z0) (r1 : IntsAt w b1 off1 n1 z1) (hx6 : x6 ≤ 9223372036854775807) :
    Calls Try.prog 5 #[.slice a0 n0 c0, .slice a1 n1 c1, .int .i64 x2, .int .i64 x3, .int .i64 x4, .int .i64 x5, .int .i64 x6] w fun e w' => e = .returned (.bool true) ∧ Below w.heap.size w w' := by
  have HM := hideM (And.intro m0 m1)
  have HI := hideM (And.intro r0 r1)
  have HP := hideM (And.intro h0 h1)
  clear m0 m1 r0 r1 h0 h1
  go_enter Try.func5, Try.ntmps5
  go_wp2_with fail
  refine (zzBytes14 _ _ _ _ _ _ _ _ _ _ _ _ HM.out.1 HM.out.2).mono ?_
  rintro e w' ⟨r, rfl, rfl⟩
  cases r
  · go_wp2_with fail
    go_ret
    exact ⟨rfl, Below.refl _ _⟩
  by_cases g0 : (4096 : Int) < (n0 : Int)
  · go_wp2_with fail
    go_ret
    exact ⟨rfl, Below.refl _ _⟩
  by_cases g1 : (4096 : Int) < (n1 : Int)
  · go_wp2_with fail
    go_ret
    exact ⟨rfl, Below.refl _ _⟩
  go_wp2_with fail
  refine (windowFits _ _ _ _).mono ?_
  rintro e w2 ⟨r, rfl, rfl, hr⟩
  cases r
  · clear hr
    go_wp2_with fail
    go_ret
    exact ⟨rfl, Below.refl _ _⟩
  obtain ⟨f1, f2, f3⟩ := hr rfl
  clear hr
  go_wp2_with fail
  refine (windowFits _ _ _ _).mono ?_
  rintro e w3 ⟨r, rfl, rfl, hr⟩
  cases r
  · clear hr
    go_wp2_with fail
    go_ret
    exact ⟨rfl, Below.refl _ _⟩
  obtain ⟨f4, f5, f6⟩ := hr rfl
  clear hr
  obtain ⟨aLo, rfl⟩ := Int.eq_ofNat_of_zero_le f1
  obtain ⟨bLo, rfl⟩ := Int.eq_ofNat_of_zero_le f4
  obtain ⟨aHi, rfl⟩ := Int.eq_ofNat_of_zero_le (show 0 ≤ x3 by omega)
  obtain ⟨bHi, rfl⟩ := Int.eq_ofNat_of_zero_le (show 0 ≤ x5 by omega)
  obtain ⟨n, hn⟩ : ∃ n : Nat, n = aHi - aLo := ⟨_, rfl⟩
  obtain ⟨m, hm⟩ : ∃ m : Nat, m = bHi - bLo := ⟨_, rfl⟩
  have eN : (aHi : Int) - aLo = n := by omega
  have eM : (bHi : Int) - bLo = m := by omega
  obtain ⟨hf, hhf⟩ : ∃ hf : Nat, hf = (n + m + 1) / 2 := ⟨_, rfl⟩
  have eH : ((n : Int) + m + 1).tdiv 2 = hf := by rw [Int.tdiv_eq_ediv_of_nonneg (by omega)]; omega
  have hf4 : hf ≤ 5000 := by omega
  have n4 : n ≤ 4096 := by omega
  have m4 : m ≤ 4096 := by omega
  have HN : Hid (aLo + n = aHi ∧ bLo + m = bHi ∧ hf = (n + m + 1) / 2) := hideM ⟨by omega, by omega, hhf⟩
  clear hn hm hhf
  by_cases g2 : x6 < (hf : Int)
  · go_wp2_with fail
    go_ret
    exact ⟨rfl, Below.refl _ _⟩
  go_wp2_with fail
  refine (cloneInts a0 b0 off0 n0 c0 HP.out.1 z0 _ (by omega) HI.out.1).mono ?_
  rintro e w4 ⟨aa, rfl, ea, ra, bel4⟩
  have H4 := hideM (And.intro ea (And.intro ra bel4))
  clear ea ra bel4
  go_wp2_with fail
  refine (cloneInts a1 b1 off1 n1 c1 HP.out.2 z1 _ (by omega) (HI.out.2.below H4.out.2.2)).mono ?_
  rintro e w5 ⟨ab, rfl, eb, rb, bel5⟩
  have H5 := hideM (And.intro eb (And.intro rb bel5))
  clear eb rb bel5
  have hN := HN.out
  go_wp2_with fail
  refine (runCompare w3.heap.size w4.heap.size n0 n1 aa ab x6 z0 z1 (by omega) (by omega) (by omega) hx6 aLo aHi n bLo bHi m w5 hN.1 hN.2.1 (by omega) (by omega) (by omega) H4.out.1 H5.out.1 (fun h => Below.row H5.out.2.2 (H4.out.2.1 h)) H5.out.2.1 (Nat.le_trans H4.out.2.2.size H5.out.2.2.size) H5.out.2.2.size).mono ?_
  rintro e w6 ⟨bd, bi, del, ins, rfl, rd, ri, ok, bel6⟩
  have HD : Hid (Done n0 n1 aLo aHi bLo bHi n m aa ab z0 z1 w3.heap.size w4.heap.size bd bi x6 del ins w3 w6) :=
    ⟨hN.1, hN.2.1, by omega, by omega, by omega, by omega, H4.out.1, H5.out.1, fun h => Below.row bel6 (Below.row H5.out.2.2 (H4.out.2.1 h)), fun h => Below.row bel6 (H5.out.2.1 h), rd, ri, ok, (H4.out.2.2.trans (H5.out.2.2.mono H4.out.2.2.size)).trans (bel6.mono (Nat.le_trans H4.out.2.2.size H5.out.2.2.size))⟩
  have HBest : Hid ((kept z0 del aLo n).length = lcs (win z0 aLo n) (win z1 bLo m)) := ok.best (by omega)
  clear rd ri ok bel6 hN
  go_wp2_with fail
  refine (marksInside bd n0 aLo aHi del w6 HD.out.la4 HD.out.rd HD.out.inA).mono ?_
  rintro e w7 ⟨rfl, rfl⟩
  go_wp2_with fail
  refine (marksInside bi n1 bLo bHi ins w7 HD.out.lb4 HD.out.ri HD.out.inB).mono ?_
  rintro e w8 ⟨rfl, rfl⟩
  go_wp2_with fail
  refine (keptAgree aa ab w3.heap.size w4.heap.size bd bi n0 n1 aLo aHi bLo bHi z0 z1 del ins w8 HD.out.la4 HD.out.lb4 (by omega) (by omega) (by omega) (by omega) HD.out.ea HD.out.eb HD.out.ra HD.out.rb HD.out.rd HD.out.ri HD.out.agree).mono ?_
  rintro e w9 ⟨rfl, q, rfl⟩
  obtain ⟨ax, hax⟩ : ∃ ax, (if n0 = aLo then aa else Option.map (fun x => x.add aLo) aa) = ax := ⟨_, rfl⟩
  obtain ⟨ay, hay⟩ : ∃ ay, (if n1 = bLo then ab else Option.map (fun x => x.add bLo) ab) = ay := ⟨_, rfl⟩
  obtain ⟨v, hv⟩ : ∃ v : Nat, v = lcs (win z0 aLo n) (win z1 bLo m) := ⟨_, rfl⟩
  have HC : Hid (∀ cx cy t, Calls Try.prog 20 #[.slice ax n cx, .slice ay m cy] (w8.drewN t) (LPost v (w8.drewN t))) :=
    fun cx cy t => lcs_contract HD.out.ha HD.out.hb HD.out.hla HD.out.hlb HD.out.la4 HD.out.lb4 HD.out.ea HD.out.eb HD.out.ra HD.out.rb hax hay hv cx cy t
  obtain ⟨cA, hcA⟩ : ∃ c : Nat, c = cnt del n0 := ⟨_, rfl⟩
  obtain ⟨cB, hcB⟩ : ∃ c : Nat, c = cnt ins n1 := ⟨_, rfl⟩
  have sA : v + cA = n := by
    have := kept_count (z := z0) HD.out.ha HD.out.hla HD.out.inA
    rw [HBest.out] at this
    rw [hv, hcA]; exact this
  have sB : v + cB = m := by
    have := kept_count (z := z1) HD.out.hb HD.out.hlb HD.out.inB
    rw [← HD.out.ok.agree, HBest.out] at this
    rw [hv, hcB]; exact this
  have HV := hideM (And.intro hv (And.intro hcA hcB))
  have t5 : ((n : Int) - cA == v) = true := by simp; omega
  have t6 : ((m : Int) - cB == v) = true := by simp; omega
  have cA4 : cA ≤ n := by omega
  have cB4 : cB ≤ m := by omega
  have dN : aHi - aLo = n := by have := HN.out; omega
  have dM : bHi - bLo = m := by have := HN.out; omega
  clear hv hcA hcB sA sB
  go_upto_region 19 with fail
  go_cut [19] from 99 to 107 (fun p1 wx => p1 = .int .i64 v ∧ Below w8.heap.size w8 wx)
  case first =>
    go_region_with (go_at_call 20; refine (HC.out _ _ _).mono ?_; rintro e wx ⟨rfl, hbel⟩)
    all_goals
      go_wp2_with fail
      go_meet
      case rel => exact ⟨rfl, (below_drewN (Below.refl _ _) _).trans (hbel.mono (by rw [size_drewN]; exact Nat.le_refl _))⟩
  case rest =>
    obtain ⟨rfl, hbel⟩ := hcut
    have HB := hideM hbel
    clear hbel
    have k1 := diffCount bd n0 del wc HD.out.la4 (Below.row HB.out HD.out.rd)
    have k2 := diffCount bi n1 ins wc HD.out.lb4 (Below.row HB.out HD.out.ri)
    rw [← HV.out.2.1] at k1
    rw [← HV.out.2.2] at k2
    have HK := hideM (And.intro k1 k2)
    clear k1 k2
    go_wp2_with fail
    refine HK.out.1.mono ?_
    rintro e w10 ⟨rfl, rfl⟩
    go_wp2_with fail
    refine HK.out.2.mono ?_
    rintro e w11 ⟨rfl, rfl⟩
    go_wp2_with fail
    go_ret
    exact ⟨rfl, HD.out.bel.trans (HB.out.mono HD.out.bel.size)⟩
end Go.Proofs.Qxb6603371a
