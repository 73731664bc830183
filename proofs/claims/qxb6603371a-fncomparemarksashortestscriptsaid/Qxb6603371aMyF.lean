import Derived.Test.Qxb6603371aMyC
import Derived.Test.Qxb6603371aMyE
import Derived.Deep.CutRange
import Derived.Deep.CutBlock
namespace Go.Proofs.Qxb6603371a
open Go.RowKit

/-- The world w' is w but for what the blocks bs hold. -/
structure Only (bs : List Nat) (w w' : World) : Prop where
  os : w'.os = w.os
  tape : w'.tape = w.tape
  output : w'.output = w.output
  size : w'.heap.size = w.heap.size
  block : ∀ k, k ∉ bs → w'.heap[k]? = w.heap[k]?

namespace Only
variable {bs bs' : List Nat} {w w' w'' : World}
theorem refl (bs : List Nat) (w : World) : Only bs w w := ⟨rfl, rfl, rfl, rfl, fun _ _ => rfl⟩
theorem trans (h : Only bs w w') (k : Only bs w' w'') : Only bs w w'' :=
  ⟨k.os.trans h.os, k.tape.trans h.tape, k.output.trans h.output, k.size.trans h.size, fun i hi => (k.block i hi).trans (h.block i hi)⟩
theorem mono (h : Only bs w w') (hs : ∀ k, k ∈ bs → k ∈ bs') : Only bs' w w' := ⟨h.os, h.tape, h.output, h.size, fun k hk => h.block k (fun h => hk (hs k h))⟩
theorem drewN (h : Only bs w w') (q : Nat) : Only bs w (w'.drewN q) := by
  induction q with
  | zero => exact h
  | succ q ih => exact ⟨ih.os, ih.tape, ih.output, ih.size, ih.block⟩
theorem setCell (h : Only bs w w') {a : Addr} (ha : a.block ∈ bs) (v : Value) : Only bs w (w'.setCell a v) :=
  h.trans ⟨rfl, rfl, rfl, Deep.nblk_setCell _ _ _, fun k hk => Deep.blk_setCell_other _ _ _ _ (fun e => hk (by rw [e]; exact ha))⟩
theorem cell (h : Only bs w w') {a : Addr} (ha : a.block ∉ bs) : w'.cell? a = w.cell? a := World.cell?_of_block (w := w) (h.block _ ha)
theorem row (h : Only bs w w') {b len : Nat} {f : Nat → Int} (hb : b ∉ bs) (hr : Ints w b len f) : Ints w' b len f := World.rowIs.of_block hr (h.block _ hb)
end Only

theorem Ints.drewN {w : World} {b len : Nat} {f : Nat → Int} (h : Ints w b len f) (q : Nat) : Ints (w.drewN q) b len f := by
  induction q with
  | zero => exact h
  | succ q ih => exact ih
theorem Ints.set {w : World} {b len : Nat} {f : Nat → Int} (h : Ints w b len f) (J : Nat) (x : Int) : Ints (w.setCell ⟨b, J, none⟩ (.int .i64 x)) b len (upd f J x) :=
  (World.rowIs.set h J (.int .i64 x)).congr (fun j _ => by unfold upd; split <;> rfl)
theorem Ints.other {w : World} {b len : Nat} {f : Nat → Int} (h : Ints w b len f) {b' J : Nat} (hb : b ≠ b') (v : Value) : Ints (w.setCell ⟨b', J, none⟩ v) b len f := World.rowIs.setOther h hb v

/-- The two search rows, and all else as it was. -/
structure Mem (bf bk len : Nat) (w w2 : World) (f b : Nat → Int) : Prop where
  rf : Ints w2 bf len f
  rb : Ints w2 bk len b
  only : Only [bf, bk] w w2

def MidPost (l r : List Int) (rounds : Int) (bf bk len : Nat) (w : World) (e : Ending) (w' : World) : Prop :=
  ∃ x y f b, e = .returned (.tuple #[.int .i64 x, .int .i64 y]) ∧ MidOk l r rounds x y ∧ Mem bf bk len w w' f b

theorem notmem2 {a b c : Nat} (h1 : a ≠ b) (h2 : a ≠ c) : a ∉ [b, c] := by simp [h1, h2]

theorem odd_of {delta : Int} {od : Bool} (h : (delta.tmod 2 != 0) = od) : (od = true → ∃ t : Int, delta = 2 * t + 1) ∧ (od = false → ∃ t : Int, delta = 2 * t) := by
  refine ⟨fun e => ?_, fun e => ?_⟩
  · rw [e] at h
    have h' : delta.tmod 2 ≠ 0 := by simpa using h
    have hd : ¬ (2 : Int) ∣ delta := fun hd => h' (Int.tmod_eq_zero_of_dvd hd)
    exact ⟨delta / 2, by omega⟩
  · rw [e] at h
    have h' : delta.tmod 2 = 0 := by simpa using h
    have hd := Int.dvd_of_tmod_eq_zero h'
    exact ⟨delta / 2, by omega⟩

set_option maxRecDepth 100000 in
set_option maxHeartbeats 4000000 in
theorem middle_any (bc ba bb bf bk la lb len off aLo aHi bLo bHi n m W : Nat) (rounds : Int) (za zb f0 b0 : Nat → Int) (w : World)
    (c0 : w.cell? ⟨bc, 0, none⟩ = some (.slice (some ⟨ba, 0, none⟩) la la)) (c1 : w.cell? ⟨bc, 1, none⟩ = some (.slice (some ⟨bb, 0, none⟩) lb lb))
    (c6 : w.cell? ⟨bc, 6, none⟩ = some (.slice (some ⟨bf, 0, none⟩) len len)) (c7 : w.cell? ⟨bc, 7, none⟩ = some (.slice (some ⟨bk, 0, none⟩) len len)) (c8 : w.cell? ⟨bc, 8, none⟩ = some (.int .i64 rounds))
    (ra : Ints w ba la za) (rb : Ints w bb lb zb) (rf : Ints w bf len f0) (rk : Ints w bk len b0)
    (x1 : bf ≠ bk) (x2 : bf ≠ ba) (x3 : bf ≠ bb) (x4 : bf ≠ bc) (x5 : bk ≠ ba) (x6 : bk ≠ bb) (x7 : bk ≠ bc)
    (hn : aLo + n = aHi) (hm : bLo + m = bHi) (n1 : 1 ≤ n) (m1 : 1 ≤ m) (hla : aHi ≤ la) (hlb : bHi ≤ lb) (la4 : la ≤ 4096) (lb4 : lb ≤ 4096)
    (hF : za aLo ≠ zb bLo) (hL : za (aHi - 1) ≠ zb (bHi - 1)) (hr1 : 1 ≤ rounds) (hr2 : rounds ≤ 9223372036854775807) (hlen : len = 2 * W + 3) (hoff : off = W + 1) (hW : rounds ≤ W ∨ n + m + 2 ≤ W) (hW2 : W ≤ 8194) :
    Calls Try.prog 34 #[.pointer (some ⟨bc, 0, none⟩), .int .i64 aLo, .int .i64 aHi, .int .i64 bLo, .int .i64 bHi] w (MidPost (win za aLo n) (win zb bLo m) rounds bf bk len w) := by
  have eN : (aHi : Int) - aLo = n := by omega
  have eM : (bHi : Int) - bLo = m := by omega
  obtain ⟨delta, hdelta⟩ : ∃ delta : Int, (n : Int) - m = delta := ⟨_, rfl⟩
  obtain ⟨od, hod⟩ : ∃ od : Bool, (delta.tmod 2 != 0) = od := ⟨_, rfl⟩
  have eOff : ((len : Int) - 1) / 2 = off := by omega
  have eO1 : ((off : Int) + 1).toNat = off + 1 := by omega
  have bO1 : (off : Int) + 1 < len := by omega
  have len1 : 1 ≤ len := by omega
  have lenB : len ≤ 20000 := by omega
  have fz1 := rf.frozen (off + 1)
  have fz2 := rk.frozen (off + 1)
  have cf1 := rf.cell (i := off + 1) (by omega)
  have ck1 := rk.cell (i := off + 1) (by omega)
  have dB1 : -5000 ≤ delta := by omega
  have dB2 : delta ≤ 5000 := by omega
  have HN := hideM (And.intro hn (And.intro hm (And.intro hlen hoff)))
  have HX : Hid (bc ∉ [bf, bk] ∧ ba ∉ [bf, bk] ∧ bb ∉ [bf, bk] ∧ za aLo ≠ zb bLo ∧ za (aHi - 1) ≠ zb (bHi - 1)) := ⟨notmem2 x4.symm x7.symm, notmem2 x2.symm x5.symm, notmem2 x3.symm x6.symm, hF, hL⟩
  clear hn hm hlen hoff x2 x3 x4 x5 x6 x7 hF hL
  go_enter Try.func34, Try.ntmps34
  go_wp2
  go_quiet (fail)
  go_wp2
  have mem0 : Mem bf bk len w (((w.drewN nq).setCell ⟨bf, off + 1, none⟩ (.int .i64 0)).setCell ⟨bk, off + 1, none⟩ (.int .i64 0)) (upd f0 (off + 1) 0) (upd b0 (off + 1) 0) :=
    ⟨((rf.drewN nq).set _ _).other x1 _, ((rk.drewN nq).other x1.symm _).set _ _, (((Only.refl _ w).drewN nq).setCell (by simp) _).setCell (by simp) _⟩
  have len_l : (win za aLo n).length = n := win_length _ _ _
  have len_r : (win zb bLo m).length = m := win_length _ _ _
  have hodd : Odd (win za aLo n) (win zb bLo m) od := by
    unfold Odd
    rw [len_l, len_r, hdelta]
    exact odd_of hod
  have H00 : Hid (¬ Mt (win za aLo n) (win zb bLo m) 0 0) := fun h => HX.out.2.2.2.1 (by simpa using (mt_win.1 h).2.2)
  have HD2 : Hid (2 ≤ Dist (win za aLo n) (win zb bLo m)) := two_edits (by rw [len_l]; omega) (by rw [len_r]; omega) H00.out (fun h => HX.out.2.2.2.2 (by
    have e := (mt_win_rev.1 h).2.2
    have h1 := HN.out.1
    have h2 := HN.out.2.1
    rw [show aHi - 1 = aLo + (n - 1 - 0) from by omega, show bHi - 1 = bLo + (m - 1 - 0) from by omega]
    exact e))
  rw [eOff]
  go_loopg [19, 20, 21, 22] (n + m + 3) (fun g p1 p2 p3 p4 wr => ∃ (d : Nat) (fx fy fu : Int) (f b : Nat → Int), d ≤ n + m + 2 ∧ g = n + m + 3 - d ∧ p1 = .int .i64 fx ∧ p2 = .int .i64 fy ∧ p3 = .int .i64 fu ∧ p4 = .int .i64 d ∧ Mem bf bk len w wr f b ∧ OutInv (win za aLo n) (win zb bLo m) off od d fx fy fu f b)
  case atStart => exact ⟨0, 0, 0, 0, _, _, Nat.zero_le _, rfl, rfl, rfl, rfl, rfl, mem0, OutInv.start _ _ _ _ (by simp [upd]) (by simp [upd])⟩
  case round =>
    obtain ⟨d, fx, fy, fu, f, b, hd0, rfl, rfl, rfl, rfl, rfl, mem, inv⟩ := hrel
    have hlow := inv.low
    have hDle := Dist_le (win za aLo n) (win zb bLo m)
    rw [len_l, len_r] at hDle
    have cc8 := (mem.only.cell (a := ⟨bc, 8, none⟩) HX.out.1).trans c8
    by_cases hdr : (d : Int) ≤ rounds
    · as_aux_lemma =>
      have hdW : d ≤ W := by omega
      have hd5 : 2 * d ≤ n + m + 1 := by omega
      have hoff5 : off = W + 1 := HN.out.2.2.2
      have hoffd : d + 1 ≤ off := by omega
      have hlen5 : off + d + 1 < len := by have := HN.out.2.2.1; omega
      have HI := hideM inv.toFwd
      have HM := hideM mem
      clear hoff5 inv mem hlow hDle mem0 hd0
      go_wp2_with fail
      go_loopg [19, 20, 21, 23] (2 * d + 2) (fun g p1 p2 p3 p4 wr => ∃ (k fx fy fu : Int) (f : Nat → Int), -(d : Int) ≤ k ∧ k ≤ d + 2 ∧ (g : Int) = d + 2 - k ∧ Par k d ∧ p1 = .int .i64 fx ∧ p2 = .int .i64 fy ∧ p3 = .int .i64 fu ∧ p4 = .int .i64 k ∧ Mem bf bk len w wr f b ∧ FwdInv (win za aLo n) (win zb bLo m) off od d k fx fy fu f b)
      case atStart => exact ⟨_, _, _, _, _, Int.le_refl _, by omega, by omega, ⟨0, by omega⟩, rfl, rfl, rfl, rfl, HM.out, HI.out⟩
      case round => as_aux_lemma =>
        obtain ⟨k, fx, fy, fu, f, hk1, hk3, hg, hpar, rfl, rfl, rfl, rfl, mem, inv⟩ := hrel
        have HG := hideM hg
        have HP := hideM hpar
        clear HI HM hg hpar
        by_cases hk2 : k ≤ d
        · as_aux_lemma =>
          -- FORWARD
          obtain ⟨P, hP⟩ : ∃ P : Nat, (off : Int) + k + 1 = P := ⟨(off + k + 1).toNat, by omega⟩
          obtain ⟨Q, hQ⟩ : ∃ Q : Nat, (off : Int) + k - 1 = Q := ⟨(off + k - 1).toNat, by omega⟩
          have hfb : k ≠ -(d : Int) → 0 ≤ f Q ∧ f Q ≤ 1000000 := fun hne => by
            obtain ⟨t, ht⟩ := HP.out
            have := (prev_at inv.prev (by omega) (k - 1) (by omega) (by omega) ⟨t - 1, by omega⟩ (P := Q) (by omega)).bounds
            rw [len_l] at this
            omega
          have hreach := reach_any bf len off f k d P Q wr mem.rf hk1 hk2 hP (by omega) (fun _ => hQ) (by omega) (by omega) hfb
          have HR := hideM hreach
          have HQ := hideM (And.intro hP hQ)
          have HI := hideM inv
          have HM := hideM mem
          clear hreach hP hQ hfb inv mem
          go_wp2_with fail
          refine HR.out.mono ?_
          rintro e w3 ⟨s, q, rfl, rfl, hst⟩
          obtain ⟨x0, y0, rfl, hsl⟩ := start_point hst HI.out.prev (fun e => by have := (HI.out.z0 e).1; rwa [show P = off + 1 from by have := HQ.out.1; omega]) HQ.out.1 (fun _ => HQ.out.2) hk1 hk2 HP.out
          have hyk : (x0 : Int) - k = y0 := by have := hsl.diag; omega
          have hxb : x0 ≤ 30000 := by have := hsl.cost; have := L_le_n (win za aLo n) (win zb bLo m) x0 y0; omega
          have hyb : y0 ≤ 30000 := by have := hsl.cost; have := L_le_n (win za aLo n) (win zb bLo m) x0 y0; omega
          have HS := hideM hsl
          clear hst hsl HR
          go_upto_block 4 with fail
          go_cut [24, 25] from 76 to 178 (fun p1 p2 w3 => ∃ x y : Nat, p1 = .int .i64 x ∧ p2 = .int .i64 y ∧ Mem bf bk len w w3 f b ∧ Slide (win za aLo n) (win zb bLo m) d k x y ∧ ¬ Mt (win za aLo n) (win zb bLo m) x y)
          case first => as_aux_lemma =>
            go_wp2_with fail
            go_loopg [24, 25] (n - x0) (fun g p1 p2 w3 => ∃ x y : Nat, g = n - x ∧ p1 = .int .i64 x ∧ p2 = .int .i64 y ∧ Mem bf bk len w w3 f b ∧ Slide (win za aLo n) (win zb bLo m) d k x y)
            case atStart => exact ⟨x0, y0, rfl, rfl, rfl, ⟨HM.out.rf.drewN _, HM.out.rb.drewN _, HM.out.only.drewN _⟩, HS.out⟩
            case round => as_aux_lemma =>
              obtain ⟨x, y, rfl, rfl, rfl, mem, hsl⟩ := hrel
              have HS2 := hideM hsl
              have HM2 := hideM mem
              have d0 := (mem.only.cell (a := ⟨bc, 0, none⟩) HX.out.1).trans c0
              have d1 := (mem.only.cell (a := ⟨bc, 1, none⟩) HX.out.1).trans c1
              have hxb : x ≤ 30000 := by have := hsl.cost; have := L_le_n (win za aLo n) (win zb bLo m) x y; omega
              have hyb : y ≤ 30000 := by have := hsl.cost; have := L_le_n (win za aLo n) (win zb bLo m) x y; omega
              by_cases hx : x < n
              · by_cases hy : y < m
                · have e1 := (mem.only.row HX.out.2.1 ra).cell (i := aLo + x) (by have := HN.out.1; omega)
                  have e2 := (mem.only.row HX.out.2.2.1 rb).cell (i := bLo + y) (by have := HN.out.2.1; omega)
                  have i1 : (aLo : Int) + x < la := by have := HN.out.1; omega
                  have i2 : (bLo : Int) + y < lb := by have := HN.out.2.1; omega
                  have hxI : (x : Int) < n := by omega
                  have hyI : (y : Int) < m := by omega
                  by_cases he : za (aLo + x) = zb (bLo + y)
                  · have t3 : (za (aLo + x) == zb (bLo + y)) = true := by simpa using he
                    have HE := hideM (mt_win.2 ⟨hx, hy, he⟩)
                    clear he mem hsl
                    go_wp2_with fail
                    go_quiet (fail)
                    go_wp2_with fail
                    go_roundg (n - (x + 1))
                    case rel => exact ⟨x + 1, y + 1, rfl, by go_num, by go_num, ⟨HM2.out.rf.drewN _, HM2.out.rb.drewN _, HM2.out.only.drewN _⟩, HS2.out.step HE.out⟩
                    case measure => omega
                  · have t3 : (za (aLo + x) == zb (bLo + y)) = false := by simpa using he
                    have HE : Hid (¬ Mt (win za aLo n) (win zb bLo m) x y) := fun h => he (mt_win.1 h).2.2
                    clear he mem hsl
                    go_wp2_with fail
                    go_quiet (fail)
                    go_wp2_with fail
                    go_meet
                    case rel => exact ⟨x, y, rfl, rfl, ⟨HM2.out.rf.drewN _, HM2.out.rb.drewN _, HM2.out.only.drewN _⟩, HS2.out, HE.out⟩
                · have t2 : decide ((y : Int) < (m : Int)) = false := decide_eq_false (by omega)
                  have hxI : (x : Int) < n := by omega
                  have HE : Hid (¬ Mt (win za aLo n) (win zb bLo m) x y) := fun h => hy (mt_win.1 h).2.1
                  clear mem hsl
                  go_wp2_with fail
                  go_quiet (fail)
                  go_wp2_with fail
                  go_meet
                  case rel => exact ⟨x, y, rfl, rfl, ⟨HM2.out.rf.drewN _, HM2.out.rb.drewN _, HM2.out.only.drewN _⟩, HS2.out, HE.out⟩
              · have t1 : decide ((x : Int) < (n : Int)) = false := decide_eq_false (by omega)
                have HE : Hid (¬ Mt (win za aLo n) (win zb bLo m) x y) := fun h => hx (mt_win.1 h).1
                clear mem hsl
                go_wp2_with fail
                go_quiet (fail)
                go_wp2_with fail
                go_meet
                case rel => exact ⟨x, y, rfl, rfl, ⟨HM2.out.rf.drewN _, HM2.out.rb.drewN _, HM2.out.only.drewN _⟩, HS2.out, HE.out⟩
          case rest => as_aux_lemma =>
            obtain ⟨x, y, rfl, rfl, mem, hsl, hno⟩ := hcut
            have hFR := hsl.ends hno hk1 hk2 HP.out
            obtain ⟨J, hJ⟩ : ∃ J : Nat, (off : Int) + k = J := ⟨(off + k).toNat, by omega⟩
            have eJ : ((off : Int) + k).toNat = J := by omega
            have bJ1 : 0 ≤ (off : Int) + k := by omega
            have bJ2 : (off : Int) + k < len := by omega
            have fJ := mem.rf.frozen J
            have cJ := mem.rf.cell (i := J) (by omega)
            have hxb : x ≤ 30000 := by have := hsl.cost; have := L_le_n (win za aLo n) (win zb bLo m) x y; omega
            have hyb : y ≤ 30000 := by have := hsl.cost; have := L_le_n (win za aLo n) (win zb bLo m) x y; omega
            have mem2 : Mem bf bk len w (wc.setCell ⟨bf, J, none⟩ (.int .i64 x)) (upd f J x) b := ⟨mem.rf.set _ _, mem.rb.other x1.symm _, mem.only.setCell (by simp) _⟩
            have HS2 := hideM hsl
            have HF2 := hideM hFR
            have HJ := hideM hJ
            have HM2 := hideM mem2
            obtain ⟨rr, hrr⟩ : ∃ rr : Int, delta - k = rr := ⟨_, rfl⟩
            have hrb1 : -20000 ≤ rr := by omega
            have hrb2 : rr ≤ 20000 := by omega
            have HB := hideM mem.rb
            clear hsl hno hFR hJ mem mem2 HS HM
            go_upto_region 21 with fail
            obtain ⟨mb, hmb⟩ : ∃ mb : Bool, (od && decide (-((d : Int) - 1) ≤ rr ∧ rr ≤ (d : Int) - 1 ∧ (n : Int) ≤ x + b ((off : Int) + rr).toNat)) = mb := ⟨_, rfl⟩
            have HMB := hideM hmb
            clear hmb
            go_cut [156] from 76 to 178 (fun v w5 => v = .bool mb ∧ w5 = wc.setCell ⟨bf, J, none⟩ (.int .i64 x))
            case first => as_aux_lemma =>
              cases od with
              | false =>
                go_wp2_with fail
                go_meet
                case rel => exact ⟨by rw [← HMB.out]; rfl, rfl⟩
              | true =>
                by_cases q1 : -((d : Int) - 1) ≤ rr
                · by_cases q2 : rr ≤ (d : Int) - 1
                  · obtain ⟨R, hR⟩ : ∃ R : Nat, (off : Int) + rr = R := ⟨(off + rr).toNat, by omega⟩
                    have eR : ((off : Int) + rr).toNat = R := by omega
                    have bR1 : 0 ≤ (off : Int) + rr := by omega
                    have bR2 : (off : Int) + rr < len := by omega
                    have cR := HB.out.cell (i := R) (by omega)
                    have hlk := (HI.out.look (κ := rr) (R := R) rfl hodd HP.out (by rw [len_l, len_r]; omega) q1 q2 hR).bounds
                    rw [List.length_reverse, len_l] at hlk
                    obtain ⟨k1', k2', k3', k4'⟩ := hlk
                    have k3 : b R ≤ 100000 := by omega
                    rw [eR] at HMB
                    clear hR k2' k3' k4'
                    by_cases q3 : (n : Int) ≤ x + b R
                    · go_wp2_with fail
                      go_meet
                      case rel => exact ⟨by rw [← HMB.out, decide_eq_true ⟨q1, q2, q3⟩]; rfl, rfl⟩
                    · have q3' : decide ((n : Int) ≤ x + b R) = false := decide_eq_false q3
                      go_wp2_with fail
                      go_meet
                      case rel => exact ⟨by rw [← HMB.out, decide_eq_false (fun h => by omega)]; rfl, rfl⟩
                  · go_wp2_with fail
                    go_meet
                    case rel => exact ⟨by rw [← HMB.out, decide_eq_false (fun h => by omega)]; rfl, rfl⟩
                · go_wp2_with fail
                  go_meet
                  case rel => exact ⟨by rw [← HMB.out, decide_eq_false (fun h => by omega)]; rfl, rfl⟩
            case rest => as_aux_lemma =>
              obtain ⟨rfl, rfl⟩ := hcut
              cases mb with
              | true =>
                go_wp2_with fail
                go_ret2
                exact ⟨_, _, _, _, rfl, HI.out.met hodd HP.out HS2.out len_l len_r hdelta hrr (by omega) HMB.out HD2.out, HM2.out⟩
              | false =>
                obtain ⟨ub, hub⟩ : ∃ ub : Bool, decide ((x : Int) ≤ n ∧ (y : Int) ≤ m ∧ fu < (x : Int) + y) = ub := ⟨_, rfl⟩
                have HUB := hideM hub
                clear hub
                go_upto_region 23 with fail
                go_cut [173] from 76 to 178 (fun v w5 => v = .bool ub ∧ w5 = wc.setCell ⟨bf, J, none⟩ (.int .i64 x))
                case first => as_aux_lemma =>
                  by_cases q1 : (x : Int) ≤ n
                  · by_cases q2 : (y : Int) ≤ m
                    · by_cases q3 : fu < (x : Int) + y
                      · go_wp2_with fail
                        go_meet
                        case rel => exact ⟨by rw [← HUB.out, decide_eq_true ⟨q1, q2, q3⟩], rfl⟩
                      · have q3' : decide (fu < (x : Int) + y) = false := decide_eq_false q3
                        go_wp2_with fail
                        go_meet
                        case rel => exact ⟨by rw [← HUB.out, decide_eq_false (fun h => by omega)], rfl⟩
                    · have q2' : decide ((y : Int) ≤ m) = false := decide_eq_false q2
                      go_wp2_with fail
                      go_meet
                      case rel => exact ⟨by rw [← HUB.out, decide_eq_false (fun h => by omega)], rfl⟩
                  · have q1' : decide ((x : Int) ≤ n) = false := decide_eq_false q1
                    go_wp2_with fail
                    go_meet
                    case rel => exact ⟨by rw [← HUB.out, decide_eq_false (fun h => by omega)], rfl⟩
                case rest => as_aux_lemma =>
                  obtain ⟨rfl, rfl⟩ := hcut
                  have hlow := HI.out.low
                  have hno := HI.out.unmet hodd HP.out HF2.out len_l len_r hdelta hrr (by omega) HMB.out
                  have hpar2 : Par (k + 2) d := by obtain ⟨t, ht⟩ := HP.out; exact ⟨t + 1, by omega⟩
                  have HNO := hideM (And.intro hlow (And.intro hno hpar2))
                  clear hno hpar2 hlow
                  cases ub with
                  | true =>
                    have hu := of_decide_eq_true HUB.out
                    have hbest := best_fwd (x := x) (y := y) HI.out.best (by rw [len_l]; omega) (by rw [len_r]; omega) hu.2.2 HS2.out.cost HNO.out.1 HD2.out
                    have HBS := hideM hbest
                    have hfu : 1 ≤ (x : Int) + y := by have := best_nonneg HI.out.best; omega
                    clear hbest hu
                    go_wp2_with fail
                    go_roundg (d - k).toNat
                    case rel => exact ⟨k + 2, _, _, _, _, by omega, by omega, by omega, HNO.out.2.2, rfl, rfl, rfl, rfl, HM2.out, HI.out.next HF2.out HJ.out (by omega) hk2 HP.out HBS.out (fun _ => hfu) HNO.out.2.1⟩
                    case measure => have := HG.out; omega
                  | false =>
                    have hu := of_decide_eq_false HUB.out
                    have hfu := HI.out.kept H00.out (by rw [len_r]; omega) HS2.out.diag HS2.out.cost hk1 hk2 (by rw [len_l, len_r]; omega)
                    have HFU := hideM hfu
                    clear hu hfu
                    go_wp2_with fail
                    go_roundg (d - k).toNat
                    case rel => exact ⟨k + 2, _, _, _, _, by omega, by omega, by omega, HNO.out.2.2, rfl, rfl, rfl, rfl, HM2.out, HI.out.next HF2.out HJ.out (by omega) hk2 HP.out HI.out.best HFU.out HNO.out.2.1⟩
                    case measure => have := HG.out; omega
        -- FORWARD ENDS
        · as_aux_lemma =>
          have HI2 := hideM (inv.toBwd (by omega) hodd)
          have HM2 := hideM mem
          clear inv mem HP HG
          go_wp2_with fail
          go_loopg [19, 20, 21, 27] (2 * d + 2) (fun g p1 p2 p3 p4 wr => ∃ (k fx fy fu : Int) (b : Nat → Int), -(d : Int) ≤ k ∧ k ≤ d + 2 ∧ (g : Int) = d + 2 - k ∧ Par k d ∧ p1 = .int .i64 fx ∧ p2 = .int .i64 fy ∧ p3 = .int .i64 fu ∧ p4 = .int .i64 k ∧ Mem bf bk len w wr f b ∧ BwdInv (win za aLo n) (win zb bLo m) off od d k fx fy fu f b)
          case atStart => exact ⟨_, _, _, _, _, Int.le_refl _, by omega, by omega, ⟨0, by omega⟩, rfl, rfl, rfl, rfl, HM2.out, HI2.out⟩
          case round => as_aux_lemma =>
            clear HI2 HM2 hk1 hk2 hk3
            obtain ⟨k, fx, fy, fu, b, hk1, hk3, hg, hpar, rfl, rfl, rfl, rfl, mem, inv⟩ := hrel
            have HG := hideM hg
            have HP := hideM hpar
            clear hg hpar
            by_cases hk2 : k ≤ d
            · as_aux_lemma =>
              obtain ⟨P, hP⟩ : ∃ P : Nat, (off : Int) + k + 1 = P := ⟨(off + k + 1).toNat, by omega⟩
              obtain ⟨Q, hQ⟩ : ∃ Q : Nat, (off : Int) + k - 1 = Q := ⟨(off + k - 1).toNat, by omega⟩
              have hfb : k ≠ -(d : Int) → 0 ≤ b Q ∧ b Q ≤ 1000000 := fun hne => by
                obtain ⟨t, ht⟩ := HP.out
                have := (prev_at inv.prev (by omega) (k - 1) (by omega) (by omega) ⟨t - 1, by omega⟩ (P := Q) (by omega)).bounds
                rw [List.length_reverse, len_l] at this
                omega
              have hreach := reach_any bk len off b k d P Q wr mem.rb hk1 hk2 hP (by omega) (fun _ => hQ) (by omega) (by omega) hfb
              have HR := hideM hreach
              have HQ := hideM (And.intro hP hQ)
              have HI := hideM inv
              have HM := hideM mem
              clear hreach hP hQ hfb inv mem
              go_wp2_with fail
              refine HR.out.mono ?_
              rintro e w3 ⟨s, q, rfl, rfl, hst⟩
              obtain ⟨x0, y0, rfl, hsl⟩ := start_point hst HI.out.prev (fun e => by have := HI.out.z0 e; rwa [show P = off + 1 from by have := HQ.out.1; omega]) HQ.out.1 (fun _ => HQ.out.2) hk1 hk2 HP.out
              have hyk : (x0 : Int) - k = y0 := by have := hsl.diag; omega
              have hxb : x0 ≤ 30000 := by have := hsl.cost; have := L_le_left (win za aLo n).reverse (win zb bLo m).reverse x0 y0; have := L_le_n (win za aLo n).reverse (win zb bLo m).reverse x0 y0; rw [List.length_reverse, len_l] at this; omega
              have hyb : y0 ≤ 30000 := by have := hsl.cost; have := L_le_n (win za aLo n).reverse (win zb bLo m).reverse x0 y0; rw [List.length_reverse, len_l] at this; omega
              have HS := hideM hsl
              clear hst hsl HR
              go_upto_block 8 with fail
              go_cut [28, 29] from 181 to 292 (fun p1 p2 w3 => ∃ x y : Nat, p1 = .int .i64 x ∧ p2 = .int .i64 y ∧ Mem bf bk len w w3 f b ∧ Slide (win za aLo n).reverse (win zb bLo m).reverse d k x y ∧ ¬ Mt (win za aLo n).reverse (win zb bLo m).reverse x y)
              case first => as_aux_lemma =>
                go_wp2_with fail
                go_loopg [28, 29] (n - x0) (fun g p1 p2 w3 => ∃ x y : Nat, g = n - x ∧ p1 = .int .i64 x ∧ p2 = .int .i64 y ∧ Mem bf bk len w w3 f b ∧ Slide (win za aLo n).reverse (win zb bLo m).reverse d k x y)
                case atStart => exact ⟨x0, y0, rfl, rfl, rfl, ⟨HM.out.rf.drewN _, HM.out.rb.drewN _, HM.out.only.drewN _⟩, HS.out⟩
                case round => as_aux_lemma =>
                  obtain ⟨x, y, rfl, rfl, rfl, mem, hsl⟩ := hrel
                  have HS2 := hideM hsl
                  have HM2 := hideM mem
                  have d0 := (mem.only.cell (a := ⟨bc, 0, none⟩) HX.out.1).trans c0
                  have d1 := (mem.only.cell (a := ⟨bc, 1, none⟩) HX.out.1).trans c1
                  have hxb : x ≤ 30000 := by have := hsl.cost; have := L_le_n (win za aLo n).reverse (win zb bLo m).reverse x y; rw [List.length_reverse, len_l] at this; omega
                  have hyb : y ≤ 30000 := by have := hsl.cost; have := L_le_n (win za aLo n).reverse (win zb bLo m).reverse x y; rw [List.length_reverse, len_l] at this; omega
                  by_cases hx : x < n
                  · by_cases hy : y < m
                    · have e1 := (mem.only.row HX.out.2.1 ra).cell (i := aHi - 1 - x) (by have := HN.out.1; omega)
                      have e2 := (mem.only.row HX.out.2.2.1 rb).cell (i := bHi - 1 - y) (by have := HN.out.2.1; omega)
                      have i1 : (aHi : Int) - 1 - x < la := by have := HN.out.1; omega
                      have i2 : (bHi : Int) - 1 - y < lb := by have := HN.out.2.1; omega
                      have i3 : 0 ≤ (aHi : Int) - 1 - x := by have := HN.out.1; omega
                      have i4 : 0 ≤ (bHi : Int) - 1 - y := by have := HN.out.2.1; omega
                      have hxI : (x : Int) < n := by omega
                      have hyI : (y : Int) < m := by omega
                      have j1 : aHi - 1 - x = aLo + (n - 1 - x) := by have := HN.out.1; omega
                      have j2 : bHi - 1 - y = bLo + (m - 1 - y) := by have := HN.out.2.1; omega
                      by_cases he : za (aHi - 1 - x) = zb (bHi - 1 - y)
                      · have t3 : (za (aHi - 1 - x) == zb (bHi - 1 - y)) = true := by simpa using he
                        have HE := hideM (mt_win_rev.2 ⟨hx, hy, by rw [← j1, ← j2]; exact he⟩)
                        clear he mem hsl j1 j2
                        go_wp2_with fail
                        go_quiet (fail)
                        go_wp2_with fail
                        go_roundg (n - (x + 1))
                        case rel => exact ⟨x + 1, y + 1, rfl, by go_num, by go_num, ⟨HM2.out.rf.drewN _, HM2.out.rb.drewN _, HM2.out.only.drewN _⟩, HS2.out.step HE.out⟩
                        case measure => omega
                      · have t3 : (za (aHi - 1 - x) == zb (bHi - 1 - y)) = false := by simpa using he
                        have HE : Hid (¬ Mt (win za aLo n).reverse (win zb bLo m).reverse x y) := fun h => he (by rw [j1, j2]; exact (mt_win_rev.1 h).2.2)
                        clear he mem hsl j1 j2
                        go_wp2_with fail
                        go_quiet (fail)
                        go_wp2_with fail
                        go_meet
                        case rel => exact ⟨x, y, rfl, rfl, ⟨HM2.out.rf.drewN _, HM2.out.rb.drewN _, HM2.out.only.drewN _⟩, HS2.out, HE.out⟩
                    · have t2 : decide ((y : Int) < (m : Int)) = false := decide_eq_false (by omega)
                      have hxI : (x : Int) < n := by omega
                      have HE : Hid (¬ Mt (win za aLo n).reverse (win zb bLo m).reverse x y) := fun h => hy (mt_win_rev.1 h).2.1
                      clear mem hsl
                      go_wp2_with fail
                      go_quiet (fail)
                      go_wp2_with fail
                      go_meet
                      case rel => exact ⟨x, y, rfl, rfl, ⟨HM2.out.rf.drewN _, HM2.out.rb.drewN _, HM2.out.only.drewN _⟩, HS2.out, HE.out⟩
                  · have t1 : decide ((x : Int) < (n : Int)) = false := decide_eq_false (by omega)
                    have HE : Hid (¬ Mt (win za aLo n).reverse (win zb bLo m).reverse x y) := fun h => hx (mt_win_rev.1 h).1
                    clear mem hsl
                    go_wp2_with fail
                    go_quiet (fail)
                    go_wp2_with fail
                    go_meet
                    case rel => exact ⟨x, y, rfl, rfl, ⟨HM2.out.rf.drewN _, HM2.out.rb.drewN _, HM2.out.only.drewN _⟩, HS2.out, HE.out⟩
              case rest => as_aux_lemma =>
                obtain ⟨x, y, rfl, rfl, mem, hsl, hno⟩ := hcut
                have hFR := hsl.ends hno hk1 hk2 HP.out
                obtain ⟨J, hJ⟩ : ∃ J : Nat, (off : Int) + k = J := ⟨(off + k).toNat, by omega⟩
                have eJ : ((off : Int) + k).toNat = J := by omega
                have bJ1 : 0 ≤ (off : Int) + k := by omega
                have bJ2 : (off : Int) + k < len := by omega
                have fJ := mem.rb.frozen J
                have cJ := mem.rb.cell (i := J) (by omega)
                have hxb : x ≤ 30000 := by have := hsl.cost; have := L_le_n (win za aLo n).reverse (win zb bLo m).reverse x y; rw [List.length_reverse, len_l] at this; omega
                have hyb : y ≤ 30000 := by have := hsl.cost; have := L_le_n (win za aLo n).reverse (win zb bLo m).reverse x y; rw [List.length_reverse, len_l] at this; omega
                have mem2 : Mem bf bk len w (wc.setCell ⟨bk, J, none⟩ (.int .i64 x)) f (upd b J x) := ⟨mem.rf.other x1 _, mem.rb.set _ _, mem.only.setCell (by simp) _⟩
                have HS2 := hideM hsl
                have HF2 := hideM hFR
                have HJ := hideM hJ
                have HM2 := hideM mem2
                obtain ⟨rr, hrr⟩ : ∃ rr : Int, delta - k = rr := ⟨_, rfl⟩
                have hrb1 : -20000 ≤ rr := by omega
                have hrb2 : rr ≤ 20000 := by omega
                have HB := hideM mem.rf
                clear hsl hno hFR hJ mem mem2 HS HM
                obtain ⟨mb, hmb⟩ : ∃ mb : Bool, (!od && decide (-(d : Int) ≤ rr ∧ rr ≤ (d : Int) ∧ (n : Int) ≤ f ((off : Int) + rr).toNat + x)) = mb := ⟨_, rfl⟩
                have HMB := hideM hmb
                clear hmb
                go_upto_region 35 with fail
                go_cut [262] from 181 to 292 (fun v w5 => v = .bool mb ∧ w5 = wc.setCell ⟨bk, J, none⟩ (.int .i64 x))
                case first => as_aux_lemma =>
                  cases od with
                  | true =>
                    go_wp2_with fail
                    go_meet
                    case rel => exact ⟨by rw [← HMB.out]; rfl, rfl⟩
                  | false =>
                    by_cases q1 : -(d : Int) ≤ rr
                    · by_cases q2 : rr ≤ (d : Int)
                      · obtain ⟨R, hR⟩ : ∃ R : Nat, (off : Int) + rr = R := ⟨(off + rr).toNat, by omega⟩
                        have eR : ((off : Int) + rr).toNat = R := by omega
                        have bR1 : 0 ≤ (off : Int) + rr := by omega
                        have bR2 : (off : Int) + rr < len := by omega
                        have cR := HB.out.cell (i := R) (by omega)
                        have hlk := (HI.out.look (κ := rr) (R := R) rfl hodd HP.out (by rw [len_l, len_r]; omega) q1 q2 hR).bounds
                        rw [len_l] at hlk
                        obtain ⟨k1', k2', k3', k4'⟩ := hlk
                        have k3 : f R ≤ 100000 := by omega
                        rw [eR] at HMB
                        clear hR k2' k3' k4'
                        by_cases q3 : (n : Int) ≤ f R + x
                        · go_wp2_with fail
                          go_meet
                          case rel => exact ⟨by rw [← HMB.out, decide_eq_true ⟨q1, q2, q3⟩]; rfl, rfl⟩
                        · have q3' : decide ((n : Int) ≤ f R + x) = false := decide_eq_false q3
                          go_wp2_with fail
                          go_meet
                          case rel => exact ⟨by rw [← HMB.out, decide_eq_false (fun h => by omega)]; rfl, rfl⟩
                      · go_wp2_with fail
                        go_meet
                        case rel => exact ⟨by rw [← HMB.out, decide_eq_false (fun h => by omega)]; rfl, rfl⟩
                    · go_wp2_with fail
                      go_meet
                      case rel => exact ⟨by rw [← HMB.out, decide_eq_false (fun h => by omega)]; rfl, rfl⟩
                case rest => as_aux_lemma =>
                  obtain ⟨rfl, rfl⟩ := hcut
                  cases mb with
                  | true =>
                    have hmet := HI.out.met (rounds := rounds) hodd HP.out HS2.out len_l len_r hdelta hrr (by omega) HMB.out HD2.out
                    obtain ⟨hm1, hm2, hm3⟩ := hmet
                    have HOK := hideM hm1
                    clear hm1
                    go_wp2_with fail
                    go_ret2
                    exact ⟨_, _, _, _, rfl, HOK.out, HM2.out⟩
                  | false =>
                    obtain ⟨ub, hub⟩ : ∃ ub : Bool, decide ((x : Int) ≤ n ∧ (y : Int) ≤ m ∧ fu < (x : Int) + y) = ub := ⟨_, rfl⟩
                    have HUB := hideM hub
                    clear hub
                    go_upto_region 37 with fail
                    go_cut [283] from 181 to 292 (fun v w5 => v = .bool ub ∧ w5 = wc.setCell ⟨bk, J, none⟩ (.int .i64 x))
                    case first => as_aux_lemma =>
                      by_cases q1 : (x : Int) ≤ n
                      · by_cases q2 : (y : Int) ≤ m
                        · by_cases q3 : fu < (x : Int) + y
                          · go_wp2_with fail
                            go_meet
                            case rel => exact ⟨by rw [← HUB.out, decide_eq_true ⟨q1, q2, q3⟩], rfl⟩
                          · have q3' : decide (fu < (x : Int) + y) = false := decide_eq_false q3
                            go_wp2_with fail
                            go_meet
                            case rel => exact ⟨by rw [← HUB.out, decide_eq_false (fun h => by omega)], rfl⟩
                        · have q2' : decide ((y : Int) ≤ m) = false := decide_eq_false q2
                          go_wp2_with fail
                          go_meet
                          case rel => exact ⟨by rw [← HUB.out, decide_eq_false (fun h => by omega)], rfl⟩
                      · have q1' : decide ((x : Int) ≤ n) = false := decide_eq_false q1
                        go_wp2_with fail
                        go_meet
                        case rel => exact ⟨by rw [← HUB.out, decide_eq_false (fun h => by omega)], rfl⟩
                    case rest => as_aux_lemma =>
                      obtain ⟨rfl, rfl⟩ := hcut
                      have hlow := HI.out.low
                      have hno := HI.out.unmet hodd HP.out HF2.out len_l len_r hdelta hrr (by omega) HMB.out
                      have hpar2 : Par (k + 2) d := by obtain ⟨t, ht⟩ := HP.out; exact ⟨t + 1, by omega⟩
                      have HNO := hideM (And.intro hlow (And.intro hno hpar2))
                      clear hno hpar2 hlow
                      cases ub with
                      | true =>
                        have hu := of_decide_eq_true HUB.out
                        have hbest := best_bwd (u := x) (v := y) HI.out.best (by rw [len_l]; omega) (by rw [len_r]; omega) hu.2.2 HS2.out.cost HNO.out.1 HD2.out
                        rw [len_l, len_r] at hbest
                        have HBS := hideM hbest
                        have hfu : 1 ≤ (x : Int) + y := by have := best_nonneg HI.out.best; omega
                        clear hbest hu
                        go_wp2_with fail
                        go_roundg (d - k).toNat
                        case rel => exact ⟨k + 2, _, _, _, _, by omega, by omega, by omega, HNO.out.2.2, rfl, rfl, rfl, rfl, HM2.out, HI.out.next HF2.out HJ.out (by omega) hk2 HP.out HBS.out (fun _ => hfu) HNO.out.2.1⟩
                        case measure => have := HG.out; omega
                      | false =>
                        go_wp2_with fail
                        go_roundg (d - k).toNat
                        case rel => exact ⟨k + 2, _, _, _, _, by omega, by omega, by omega, HNO.out.2.2, rfl, rfl, rfl, rfl, HM2.out, HI.out.next HF2.out HJ.out (by omega) hk2 HP.out HI.out.best HI.out.pos HNO.out.2.1⟩
                        case measure => have := HG.out; omega
            · have HI2 := hideM (inv.toOut (by omega) hodd)
              have HM2 := hideM mem
              clear inv mem
              go_wp2_with fail
              go_roundg (n + m + 3 - (d + 1))
              case rel => exact ⟨d + 1, _, _, _, _, _, by omega, rfl, rfl, rfl, rfl, by go_num, HM2.out, HI2.out⟩
              case measure => omega
    · have HI := hideM inv
      have HM := hideM mem
      have hpos := inv.pos (by omega)
      have HOK := hideM (best_ok inv.best hpos (rounds := rounds) (by rw [len_l, len_r]; omega))
      clear inv mem hpos
      go_wp2_with fail
      go_ret2
      exact ⟨_, _, _, _, rfl, HOK.out, HM.out⟩
end Go.Proofs.Qxb6603371a
