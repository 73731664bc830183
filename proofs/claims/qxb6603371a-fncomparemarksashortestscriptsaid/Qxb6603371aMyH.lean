import Derived.Test.Qxb6603371aMyF
import Derived.Test.Qxb6603371aMyT
import Derived.RegionTactic
import Derived.BigRegion
namespace Go.Proofs.Qxb6603371a
open Go.RowKit




def updB (f : Nat → Bool) (J : Nat) : Nat → Bool := fun j => if j = J then true else f j

theorem Bools.set {w : World} {b len : Nat} {f : Nat → Bool} (h : Bools w b len f) (J : Nat) : Bools (w.setCell ⟨b, J, none⟩ (.bool true)) b len (updB f J) :=
  (World.rowIs.set h J (.bool true)).congr (fun j _ => by unfold updB; split <;> rfl)
theorem Bools.other {w : World} {b len : Nat} {f : Nat → Bool} (h : Bools w b len f) {b' J : Nat} (hb : b ≠ b') (v : Value) : Bools (w.setCell ⟨b', J, none⟩ v) b len f := World.rowIs.setOther h hb v
theorem Bools.drewN {w : World} {b len : Nat} {f : Nat → Bool} (h : Bools w b len f) (q : Nat) : Bools (w.drewN q) b len f := by
  induction q with
  | zero => exact h
  | succ q ih => exact ih
theorem Bools.drew {w : World} {b len : Nat} {f : Nat → Bool} (h : Bools w b len f) : Bools w.drew b len f := h
theorem Ints.drew {w : World} {b len : Nat} {f : Nat → Int} (h : Ints w b len f) : Ints w.drew b len f := h
theorem Only.drew {bs : List Nat} {w w' : World} (h : Only bs w w') : Only bs w w'.drew := ⟨h.os, h.tape, h.output, h.size, h.block⟩

/-- What the comparison holds, and never turns: its nine fields, the two texts, the two lists of line numbers. -/
structure Env (bc ba bb bp bq bd bi bf bk la lb len : Nat) (aa ab : Option Addr) (rounds : Int) (za zb : Nat → Int) (w : World) : Prop where
  c0 : w.cell? ⟨bc, 0, none⟩ = some (.slice aa la la)
  c1 : w.cell? ⟨bc, 1, none⟩ = some (.slice ab lb lb)
  c2 : w.cell? ⟨bc, 2, none⟩ = some (.slice (some ⟨bp, 0, none⟩) la la)
  c3 : w.cell? ⟨bc, 3, none⟩ = some (.slice (some ⟨bq, 0, none⟩) lb lb)
  c4 : w.cell? ⟨bc, 4, none⟩ = some (.slice (some ⟨bd, 0, none⟩) la la)
  c5 : w.cell? ⟨bc, 5, none⟩ = some (.slice (some ⟨bi, 0, none⟩) lb lb)
  c6 : w.cell? ⟨bc, 6, none⟩ = some (.slice (some ⟨bf, 0, none⟩) len len)
  c7 : w.cell? ⟨bc, 7, none⟩ = some (.slice (some ⟨bk, 0, none⟩) len len)
  c8 : w.cell? ⟨bc, 8, none⟩ = some (.int .i64 rounds)
  ha : 0 < la → aa = some ⟨ba, 0, none⟩
  hb : 0 < lb → ab = some ⟨bb, 0, none⟩
  ra : 0 < la → Ints w ba la za
  rb : 0 < lb → Ints w bb lb zb
  rp : Ints w bp la (fun i => (i : Int))
  rq : Ints w bq lb (fun i => (i : Int))
  o1 : ba < bd
  o2 : bb < bd
  o3 : bp < bd
  o4 : bq < bd
  o5 : bd < bi
  o6 : bi < bf
  o7 : bf < bk
  o8 : bk < bc

theorem drew2 (w : World) (t q : Nat) : (w.drewN t).drewN q = w.drewN (t + q) := World.drewN_drewN ..

theorem notmem4 {a b c d e : Nat} (h1 : a ≠ b) (h2 : a ≠ c) (h3 : a ≠ d) (h4 : a ≠ e) : a ∉ [b, c, d, e] := by simp [h1, h2, h3, h4]

theorem Env.later {bc ba bb bp bq bd bi bf bk la lb len : Nat} {aa ab : Option Addr} {rounds : Int} {za zb : Nat → Int} {w w' : World} (h : Env bc ba bb bp bq bd bi bf bk la lb len aa ab rounds za zb w) (ho : Only [bd, bi, bf, bk] w w') :
    Env bc ba bb bp bq bd bi bf bk la lb len aa ab rounds za zb w' := by
  have o1 := h.o1
  have o2 := h.o2
  have o3 := h.o3
  have o4 := h.o4
  have o5 := h.o5
  have o6 := h.o6
  have o7 := h.o7
  have o8 := h.o8
  have nc : bc ∉ [bd, bi, bf, bk] := notmem4 (by omega) (by omega) (by omega) (by omega)
  have na : ba ∉ [bd, bi, bf, bk] := notmem4 (by omega) (by omega) (by omega) (by omega)
  have nb : bb ∉ [bd, bi, bf, bk] := notmem4 (by omega) (by omega) (by omega) (by omega)
  have np : bp ∉ [bd, bi, bf, bk] := notmem4 (by omega) (by omega) (by omega) (by omega)
  have nq : bq ∉ [bd, bi, bf, bk] := notmem4 (by omega) (by omega) (by omega) (by omega)
  exact ⟨(ho.cell (a := ⟨bc, 0, none⟩) nc).trans h.c0, (ho.cell (a := ⟨bc, 1, none⟩) nc).trans h.c1, (ho.cell (a := ⟨bc, 2, none⟩) nc).trans h.c2, (ho.cell (a := ⟨bc, 3, none⟩) nc).trans h.c3, (ho.cell (a := ⟨bc, 4, none⟩) nc).trans h.c4, (ho.cell (a := ⟨bc, 5, none⟩) nc).trans h.c5, (ho.cell (a := ⟨bc, 6, none⟩) nc).trans h.c6, (ho.cell (a := ⟨bc, 7, none⟩) nc).trans h.c7, (ho.cell (a := ⟨bc, 8, none⟩) nc).trans h.c8,
    h.ha, h.hb, fun h0 => ho.row na (h.ra h0), fun h0 => ho.row nb (h.rb h0), ho.row np h.rp, ho.row nq h.rq, o1, o2, o3, o4, o5, o6, o7, o8⟩

/-- The four rows that the comparison writes. -/
structure Rows4 (bd bi bf bk la lb len : Nat) (w w2 : World) (del ins : Nat → Bool) (f b : Nat → Int) : Prop where
  rd : Bools w2 bd la del
  ri : Bools w2 bi lb ins
  rf : Ints w2 bf len f
  rk : Ints w2 bk len b
  only : Only [bd, bi, bf, bk] w w2

theorem Rows4.drewN {bd bi bf bk la lb len : Nat} {w w2 : World} {del ins : Nat → Bool} {f b : Nat → Int} (h : Rows4 bd bi bf bk la lb len w w2 del ins f b) (q : Nat) : Rows4 bd bi bf bk la lb len w (w2.drewN q) del ins f b :=
  ⟨h.rd.drewN q, h.ri.drewN q, h.rf.drewN q, h.rk.drewN q, h.only.drewN q⟩

/-- The first p lines match, and no more do. -/
structure Pre (za zb : Nat → Int) (aLo bLo n m p : Nat) : Prop where
  le1 : p ≤ n
  le2 : p ≤ m
  eq : ∀ i, i < p → za (aLo + i) = zb (bLo + i)

theorem Pre.start (za zb : Nat → Int) (aLo bLo n m : Nat) : Pre za zb aLo bLo n m 0 := ⟨Nat.zero_le _, Nat.zero_le _, fun i hi => absurd hi (by omega)⟩
theorem Pre.step {za zb : Nat → Int} {aLo bLo n m p : Nat} (h : Pre za zb aLo bLo n m p) (h1 : p < n) (h2 : p < m) (e : za (aLo + p) = zb (bLo + p)) : Pre za zb aLo bLo n m (p + 1) :=
  ⟨h1, h2, fun i hi => by
    rcases Nat.lt_succ_iff_lt_or_eq.1 hi with h3 | rfl
    · exact h.eq i h3
    · exact e⟩

/-- The last q lines match. -/
structure Suf (za zb : Nat → Int) (aHi bHi n m q : Nat) : Prop where
  le1 : q ≤ n
  le2 : q ≤ m
  eq : ∀ i, i < q → za (aHi - 1 - i) = zb (bHi - 1 - i)

theorem Suf.start (za zb : Nat → Int) (aHi bHi n m : Nat) : Suf za zb aHi bHi n m 0 := ⟨Nat.zero_le _, Nat.zero_le _, fun i hi => absurd hi (by omega)⟩
theorem Suf.step {za zb : Nat → Int} {aHi bHi n m q : Nat} (h : Suf za zb aHi bHi n m q) (h1 : q < n) (h2 : q < m) (e : za (aHi - 1 - q) = zb (bHi - 1 - q)) : Suf za zb aHi bHi n m (q + 1) :=
  ⟨h1, h2, fun i hi => by
    rcases Nat.lt_succ_iff_lt_or_eq.1 hi with h3 | rfl
    · exact h.eq i h3
    · exact e⟩

/-- The marks from lo to j are set, all others as they were. -/
def Marked (mk mk' : Nat → Bool) (lo j : Nat) : Prop := (∀ x, lo ≤ x → x < j → mk' x = true) ∧ (∀ x, x < lo ∨ j ≤ x → mk' x = mk x)

theorem Marked.start (mk : Nat → Bool) (lo : Nat) : Marked mk mk lo lo := ⟨fun x h1 h2 => absurd h2 (by omega), fun _ _ => rfl⟩
theorem Marked.step {mk mk' : Nat → Bool} {lo j : Nat} (h : Marked mk mk' lo j) (hj : lo ≤ j) : Marked mk (updB mk' j) lo (j + 1) := by
  refine ⟨fun x h1 h2 => ?_, fun x h1 => ?_⟩
  · unfold updB
    by_cases e : x = j
    · rw [if_pos e]
    · rw [if_neg e]; exact h.1 x h1 (by omega)
  · unfold updB
    rw [if_neg (by omega)]
    exact h.2 x (by omega)

def CmpPost (bd bi bf bk la lb len : Nat) (za zb : Nat → Int) (rounds : Int) (aLo n bLo m : Nat) (del ins : Nat → Bool) (w : World) (e : Ending) (w' : World) : Prop :=
  e = .returned (.tuple #[]) ∧ ∃ del' ins' f b, Rows4 bd bi bf bk la lb len w w' del' ins' f b ∧ CmpOk za zb rounds aLo n bLo m del ins del' ins'

set_option maxRecDepth 100000 in
set_option maxHeartbeats 4000000 in
theorem compare_any (bc ba bb bp bq bd bi bf bk la lb len off W : Nat) (aa ab : Option Addr) (rounds : Int) (za zb : Nat → Int) (la4 : la ≤ 4096) (lb4 : lb ≤ 4096) (hr2 : rounds ≤ 9223372036854775807) (hlen : len = 2 * W + 3) (hoff : off = W + 1) (hW2 : W ≤ 8194) (N : Nat) :
    ∀ (aLo aHi n bLo bHi m : Nat) (del ins : Nat → Bool) (f b : Nat → Int) (w : World), n + m < N → aLo + n = aHi → bLo + m = bHi → aHi ≤ la → bHi ≤ lb → (rounds ≤ W ∨ n + m + 2 ≤ W) → (1 ≤ rounds ∨ n + m = 0) →
    (∀ i, aLo ≤ i → i < aLo + n → del i = false) → (∀ j, bLo ≤ j → j < bLo + m → ins j = false) →
    Env bc ba bb bp bq bd bi bf bk la lb len aa ab rounds za zb w → Rows4 bd bi bf bk la lb len w w del ins f b →
    Calls Try.prog 33 #[.pointer (some ⟨bc, 0, none⟩), .int .i64 aLo, .int .i64 aHi, .int .i64 bLo, .int .i64 bHi] w (CmpPost bd bi bf bk la lb len za zb rounds aLo n bLo m del ins w) := by
  induction N with
  | zero => intro aLo aHi n bLo bHi m del ins f b w hN; omega
  | succ N ih =>
    intro aLo aHi n bLo bHi m del ins f b w hN ha hb hla hlb hW hR fa fb env rows
    have HIH := hideM ih
    have HA := hideM (And.intro ha hb)
    have HFr := hideM (And.intro fa fb)
    have HEnv := hideM env
    have HRows := hideM rows
    have HL := hideM (And.intro hlen (And.intro hoff (And.intro hW hR)))
    clear ih ha hb fa fb env rows hlen hoff hW hR
    go_enter Try.func33, Try.ntmps33
    go_upto_block 0 with fail
    go_cut [1, 3] from 14 to 42 (fun p1 p3 w2 => ∃ p a1 b1 t : Nat, a1 = aLo + p ∧ b1 = bLo + p ∧ p1 = .int .i64 a1 ∧ p3 = .int .i64 b1 ∧ w2 = w.drewN t ∧ Pre za zb aLo bLo n m p ∧ (p = n ∨ p = m ∨ za a1 ≠ zb b1))
    case first => as_aux_lemma =>
      go_wp2_with fail
      go_loopg [1, 3] n (fun g p1 p3 w2 => ∃ p a1 b1 t : Nat, g = n - p ∧ a1 = aLo + p ∧ b1 = bLo + p ∧ p1 = .int .i64 a1 ∧ p3 = .int .i64 b1 ∧ w2 = w.drewN t ∧ Pre za zb aLo bLo n m p)
      case atStart => exact ⟨0, aLo, bLo, 0, rfl, rfl, rfl, rfl, rfl, rfl, Pre.start _ _ _ _ _ _⟩
      case round =>
        obtain ⟨p, a1, b1, t, rfl, ea, eb, rfl, rfl, rfl, hpre⟩ := hrel
        have HE := hideM (And.intro ea eb)
        have HPre := hideM hpre
        have z1 : a1 ≤ 4096 := by have := hpre.le1; have := HA.out; omega
        have z2 : b1 ≤ 4096 := by have := hpre.le2; have := HA.out; omega
        by_cases hx : a1 < aHi
        · by_cases hy : b1 < bHi
          · have d0 : w.cell? ⟨bc, 0, none⟩ = some (.slice (some ⟨ba, 0, none⟩) la la) := by rw [← HEnv.out.ha (by omega)]; exact HEnv.out.c0
            have d1 : w.cell? ⟨bc, 1, none⟩ = some (.slice (some ⟨bb, 0, none⟩) lb lb) := by rw [← HEnv.out.hb (by omega)]; exact HEnv.out.c1
            have e1 := (HEnv.out.ra (by omega)).cell (i := a1) (by omega)
            have e2 := (HEnv.out.rb (by omega)).cell (i := b1) (by omega)
            have i1 : (a1 : Int) < la := by omega
            have i2 : (b1 : Int) < lb := by omega
            have hxI : (a1 : Int) < aHi := by omega
            have hyI : (b1 : Int) < bHi := by omega
            by_cases he : za a1 = zb b1
            · have t3 : (za a1 == zb b1) = true := by simpa using he
              have HS : Hid (Pre za zb aLo bLo n m (p + 1)) := HPre.out.step (by have := HA.out; omega) (by have := HA.out; omega) (by rw [← ea, ← eb]; exact he)
              clear he ea eb hpre
              go_wp2_with fail
              go_quiet (fail)
              go_wp2_with fail
              go_roundg (n - (p + 1))
              case rel => exact ⟨p + 1, a1 + 1, b1 + 1, _, rfl, by have := HE.out; omega, by have := HE.out; omega, by go_num, by go_num, by first | rfl | exact drew2 _ _ _, HS.out⟩
              case measure => have := HS.out.le1; omega
            · have t3 : (za a1 == zb b1) = false := by simpa using he
              have HN := hideM he
              clear he ea eb hpre
              go_wp2_with fail
              go_quiet (fail)
              go_wp2_with fail
              go_meet
              case rel => exact ⟨p, a1, b1, _, HE.out.1, HE.out.2, rfl, rfl, by first | rfl | exact drew2 _ _ _, HPre.out, .inr (.inr HN.out)⟩
          · have t2 : decide ((b1 : Int) < (bHi : Int)) = false := decide_eq_false (by omega)
            have hxI : (a1 : Int) < aHi := by omega
            have HN : Hid (p = m) := by have := HA.out; have := hpre.le2; exact hideM (by omega)
            clear ea eb hpre
            go_wp2_with fail
            go_quiet (fail)
            go_wp2_with fail
            go_meet
            case rel => exact ⟨p, a1, b1, _, HE.out.1, HE.out.2, rfl, rfl, by first | rfl | exact drew2 _ _ _, HPre.out, .inr (.inl HN.out)⟩
        · have t1 : decide ((a1 : Int) < (aHi : Int)) = false := decide_eq_false (by omega)
          have HN : Hid (p = n) := by have := HA.out; have := hpre.le1; exact hideM (by omega)
          clear ea eb hpre
          go_wp2_with fail
          go_quiet (fail)
          go_wp2_with fail
          go_meet
          case rel => exact ⟨p, a1, b1, _, HE.out.1, HE.out.2, rfl, rfl, by first | rfl | exact drew2 _ _ _, HPre.out, .inl HN.out⟩
    case rest => as_aux_lemma =>
      obtain ⟨p, a1, b1, t1, ea, eb, rfl, rfl, rfl, hpre, hstop⟩ := hcut
      have HE := hideM (And.intro ea eb)
      have HPre := hideM hpre
      have HStop := hideM hstop
      have z1 : a1 ≤ aHi := by have := hpre.le1; have := HA.out; omega
      have z2 : b1 ≤ bHi := by have := hpre.le2; have := HA.out; omega
      clear ea eb hpre hstop
      go_upto_block 2 with fail
      go_cut [2, 4] from 43 to 73 (fun p2 p4 w2 => ∃ q a2 b2 t : Nat, a2 + q = aHi ∧ b2 + q = bHi ∧ p2 = .int .i64 a2 ∧ p4 = .int .i64 b2 ∧ w2 = w.drewN t ∧ Suf za zb aHi bHi (n - p) (m - p) q ∧ (q = n - p ∨ q = m - p ∨ za (a2 - 1) ≠ zb (b2 - 1)))
      case first => as_aux_lemma =>
        go_wp2_with fail
        go_loopg [2, 4] n (fun g p2 p4 w2 => ∃ q a2 b2 t : Nat, g = n - q ∧ a2 + q = aHi ∧ b2 + q = bHi ∧ p2 = .int .i64 a2 ∧ p4 = .int .i64 b2 ∧ w2 = w.drewN t ∧ Suf za zb aHi bHi (n - p) (m - p) q)
        case atStart => exact ⟨0, aHi, bHi, t1, rfl, rfl, rfl, rfl, rfl, rfl, Suf.start _ _ _ _ _ _⟩
        case round =>
          obtain ⟨q, a2, b2, t, rfl, ea2, eb2, rfl, rfl, rfl, hsuf⟩ := hrel
          have HE2 := hideM (And.intro ea2 eb2)
          have HSuf := hideM hsuf
          have z3 : a2 ≤ 4096 := by omega
          have z4 : b2 ≤ 4096 := by omega
          by_cases hx : a1 < a2
          · by_cases hy : b1 < b2
            · have d0 : w.cell? ⟨bc, 0, none⟩ = some (.slice (some ⟨ba, 0, none⟩) la la) := by rw [← HEnv.out.ha (by omega)]; exact HEnv.out.c0
              have d1 : w.cell? ⟨bc, 1, none⟩ = some (.slice (some ⟨bb, 0, none⟩) lb lb) := by rw [← HEnv.out.hb (by omega)]; exact HEnv.out.c1
              have e1 := (HEnv.out.ra (by omega)).cell (i := a2 - 1) (by omega)
              have e2 := (HEnv.out.rb (by omega)).cell (i := b2 - 1) (by omega)
              have i1 : (a2 : Int) - 1 < la := by omega
              have i2 : (b2 : Int) - 1 < lb := by omega
              have i3 : 0 ≤ (a2 : Int) - 1 := by omega
              have i4 : 0 ≤ (b2 : Int) - 1 := by omega
              have hxI : (a1 : Int) < a2 := by omega
              have hyI : (b1 : Int) < b2 := by omega
              by_cases he : za (a2 - 1) = zb (b2 - 1)
              · have t3 : (za (a2 - 1) == zb (b2 - 1)) = true := by simpa using he
                have HS : Hid (Suf za zb aHi bHi (n - p) (m - p) (q + 1)) := HSuf.out.step (by have := HA.out; have := HE.out; omega) (by have := HA.out; have := HE.out; omega) (by rw [show aHi - 1 - q = a2 - 1 from by omega, show bHi - 1 - q = b2 - 1 from by omega]; exact he)
                clear he ea2 eb2 hsuf
                go_wp2_with fail
                go_quiet (fail)
                go_wp2_with fail
                go_roundg (n - (q + 1))
                case rel => exact ⟨q + 1, a2 - 1, b2 - 1, _, rfl, by have := HE2.out; omega, by have := HE2.out; omega, by go_num, by go_num, by first | rfl | exact drew2 _ _ _, HS.out⟩
                case measure => have := HS.out.le1; omega
              · have t3 : (za (a2 - 1) == zb (b2 - 1)) = false := by simpa using he
                have HN := hideM he
                clear he ea2 eb2 hsuf
                go_wp2_with fail
                go_quiet (fail)
                go_wp2_with fail
                go_meet
                case rel => exact ⟨q, a2, b2, _, HE2.out.1, HE2.out.2, rfl, rfl, by first | rfl | exact drew2 _ _ _, HSuf.out, .inr (.inr HN.out)⟩
            · have t2 : decide ((b1 : Int) < (b2 : Int)) = false := decide_eq_false (by omega)
              have hxI : (a1 : Int) < a2 := by omega
              have HN : Hid (q = m - p) := by have := HA.out; have := HE.out; have := hsuf.le2; exact hideM (by omega)
              clear ea2 eb2 hsuf
              go_wp2_with fail
              go_quiet (fail)
              go_wp2_with fail
              go_meet
              case rel => exact ⟨q, a2, b2, _, HE2.out.1, HE2.out.2, rfl, rfl, by first | rfl | exact drew2 _ _ _, HSuf.out, .inr (.inl HN.out)⟩
          · have t1 : decide ((a1 : Int) < (a2 : Int)) = false := decide_eq_false (by omega)
            have HN : Hid (q = n - p) := by have := HA.out; have := HE.out; have := hsuf.le1; exact hideM (by omega)
            clear ea2 eb2 hsuf
            go_wp2_with fail
            go_quiet (fail)
            go_wp2_with fail
            go_meet
            case rel => exact ⟨q, a2, b2, _, HE2.out.1, HE2.out.2, rfl, rfl, by first | rfl | exact drew2 _ _ _, HSuf.out, .inl HN.out⟩
      case rest => as_aux_lemma =>
        obtain ⟨q, a2, b2, t2, ea2, eb2, rfl, rfl, rfl, hsuf, hstop2⟩ := hcut
        have HE2 := hideM (And.intro ea2 eb2)
        have HSuf := hideM hsuf
        obtain ⟨n', hn'⟩ : ∃ n' : Nat, n' = n - p - q := ⟨_, rfl⟩
        obtain ⟨m', hm'⟩ : ∃ m' : Nat, m' = m - p - q := ⟨_, rfl⟩
        have x1 : a1 + n' = a2 := by have := HA.out; have := HE.out; have := hsuf.le1; omega
        have x2 : b1 + m' = b2 := by have := HA.out; have := HE.out; have := hsuf.le2; omega
        have HT : Hid (∀ del' ins', CmpOk za zb rounds a1 n' b1 m' del ins del' ins' → CmpOk za zb rounds aLo n bLo m del ins del' ins') := fun del' ins' h => by
          have h0 := HE.out
          have h1 := HA.out
          have l1 := HPre.out.le1
          have l2 := HPre.out.le2
          have l3 := hsuf.le1
          have l4 := hsuf.le2
          refine CmpOk.trim (p := p) (q := q) (by omega) (by omega) HPre.out.eq (fun i hi => ?_) HFr.out.1 HFr.out.2 ?_
          · have := hsuf.eq i hi
            rw [← h1.1, ← h1.2] at this
            exact this
          · rw [← h0.1, ← h0.2, ← hn', ← hm']; exact h
        have HX := hideM (And.intro x1 x2)
        have y1 : a2 ≤ la := by omega
        have y2 : b2 ≤ lb := by omega
        have HF2 : Hid ((∀ i, a1 ≤ i → i < a1 + n' → del i = false) ∧ (∀ j, b1 ≤ j → j < b1 + m' → ins j = false)) := by
          have h0 := HE.out
          have h1 := HA.out
          exact ⟨fun i hi1 hi2 => HFr.out.1 i (by omega) (by omega), fun j hj1 hj2 => HFr.out.2 j (by omega) (by omega)⟩
        have HNM : Hid (n' + m' ≤ n + m) := hideM (by omega)
        have HD : Hid (1 ≤ n' → 1 ≤ m' → za a1 ≠ zb b1 ∧ za (a2 - 1) ≠ zb (b2 - 1)) := fun g1 g2 => by
          refine ⟨?_, ?_⟩
          · rcases HStop.out with h | h | h
            · omega
            · omega
            · exact h
          · rcases hstop2 with h | h | h
            · omega
            · omega
            · exact h
        have z5 : a1 ≤ a2 := by omega
        have z6 : b1 ≤ b2 := by omega
        clear ea2 eb2 hsuf hstop2 x1 x2 hn' hm' HStop HPre HSuf HFr HE2
        by_cases k1 : a1 = a2
        · -- the first window is empty
          have s1 : ((a1 : Int) == (a2 : Int)) = true := by rw [k1]; simp
          have HK1 := hideM k1
          clear k1
          go_wp2_with fail
          go_loopg [10] (b2 - b1) (fun g p1 wr => ∃ (j : Nat) (ins' : Nat → Bool), b1 ≤ j ∧ j ≤ b2 ∧ g = b2 - j ∧ p1 = .int .i64 j ∧ Rows4 bd bi bf bk la lb len w wr del ins' f b ∧ Marked ins ins' b1 j)
          case atStart => exact ⟨b1, ins, Nat.le_refl _, z6, rfl, rfl, HRows.out.drewN _, Marked.start _ _⟩
          case round =>
            obtain ⟨j, ins', j1, j2, rfl, rfl, rows, hmk⟩ := hrel
            have HR := hideM rows
            have HMk := hideM hmk
            by_cases hlt : j < b2
            · have env2 := HEnv.out.later rows.only
              have d5 := env2.c5
              have d3 := env2.c3
              have e3 := env2.rq.cell (i := j) (by omega)
              have e5 := rows.ri.cell (i := j) (by omega)
              have f5 := rows.ri.frozen j
              have i1 : (j : Int) < lb := by omega
              have o5 := env2.o5
              have o6 := env2.o6
              have o7 := env2.o7
              clear env2 rows hmk
              go_wp2_with fail
              go_region
              all_goals
                go_wp2_with fail
                go_roundg (b2 - (j + 1))
                case rel => exact ⟨j + 1, updB ins' j, by omega, by omega, rfl, by go_num, ⟨(HR.out.rd.other (by omega) _).drew, (HR.out.ri.set j).drew, (HR.out.rf.other (by omega) _).drew, (HR.out.rk.other (by omega) _).drew, (HR.out.only.setCell (by simp) _).drew⟩, HMk.out.step j1⟩
                case measure => omega
            · have ej : j = b2 := by omega
              have HJ := hideM ej
              clear rows hmk ej
              go_wp2_with fail
              go_end0
              refine ⟨rfl, del, ins', f, b, HR.out, HT.out _ _ ?_⟩
              have hn0 : n' = 0 := by have := HX.out; have := HK1.out; omega
              subst hn0
              have hj := HJ.out
              have hx := HX.out
              exact CmpOk.insert (fun x h1 h2 => HMk.out.1 x h1 (by omega)) (fun x h => HMk.out.2 x (by omega))
        · have s1 : ((a1 : Int) == (a2 : Int)) = false := by simp; omega
          have hlt1 : a1 < a2 := by omega
          clear k1
          by_cases k2 : b1 = b2
          · have s2 : ((b1 : Int) == (b2 : Int)) = true := by rw [k2]; simp
            have HK2 := hideM k2
            clear k2
            go_wp2_with fail
            go_loopg [11] (a2 - a1) (fun g p1 wr => ∃ (j : Nat) (del' : Nat → Bool), a1 ≤ j ∧ j ≤ a2 ∧ g = a2 - j ∧ p1 = .int .i64 j ∧ Rows4 bd bi bf bk la lb len w wr del' ins f b ∧ Marked del del' a1 j)
            case atStart => exact ⟨a1, del, Nat.le_refl _, z5, rfl, rfl, HRows.out.drewN _, Marked.start _ _⟩
            case round =>
              obtain ⟨j, del', j1, j2, rfl, rfl, rows, hmk⟩ := hrel
              have HR := hideM rows
              have HMk := hideM hmk
              by_cases hlt : j < a2
              · have env2 := HEnv.out.later rows.only
                have d4 := env2.c4
                have d2 := env2.c2
                have e2 := env2.rp.cell (i := j) (by omega)
                have e4 := rows.rd.cell (i := j) (by omega)
                have f4 := rows.rd.frozen j
                have i1 : (j : Int) < la := by omega
                have o5 := env2.o5
                have o6 := env2.o6
                have o7 := env2.o7
                clear env2 rows hmk
                go_wp2_with fail
                go_region
                all_goals
                  go_wp2_with fail
                  go_roundg (a2 - (j + 1))
                  case rel => exact ⟨j + 1, updB del' j, by omega, by omega, rfl, by go_num, ⟨(HR.out.rd.set j).drew, (HR.out.ri.other (by omega) _).drew, (HR.out.rf.other (by omega) _).drew, (HR.out.rk.other (by omega) _).drew, (HR.out.only.setCell (by simp) _).drew⟩, HMk.out.step j1⟩
                  case measure => omega
              · have ej : j = a2 := by omega
                have HJ := hideM ej
                clear rows hmk ej
                go_wp2_with fail
                go_end0
                refine ⟨rfl, del', ins, f, b, HR.out, HT.out _ _ ?_⟩
                have hm0 : m' = 0 := by have := HX.out; have := HK2.out; omega
                subst hm0
                have hj := HJ.out
                have hx := HX.out
                exact CmpOk.delete (fun x h1 h2 => HMk.out.1 x h1 (by omega)) (fun x h => HMk.out.2 x (by omega))
          · have s2 : ((b1 : Int) == (b2 : Int)) = false := by simp; omega
            have hlt2 : b1 < b2 := by omega
            clear k2
            have hr1 : 1 ≤ rounds := by have h1 := HL.out.2.2.2; have h2 := HNM.out; have h3 := HX.out; omega
            have env2 := HEnv.out.later ((Only.refl [bd, bi, bf, bk] w).drewN t2)
            have rows2 := HRows.out.drewN t2
            have hmid := middle_any bc ba bb bf bk la lb len off a1 a2 b1 b2 n' m' W rounds za zb f b (w.drewN t2) (by rw [← env2.ha (by omega)]; exact env2.c0) (by rw [← env2.hb (by omega)]; exact env2.c1) env2.c6 env2.c7 env2.c8 (env2.ra (by omega)) (env2.rb (by omega)) rows2.rf rows2.rk
              (by have := env2.o7; omega) (by have := env2.o1; have := env2.o5; have := env2.o6; omega) (by have := env2.o2; have := env2.o5; have := env2.o6; omega) (by have := env2.o7; have := env2.o8; omega)
              (by have := env2.o1; have := env2.o5; have := env2.o6; have := env2.o7; omega) (by have := env2.o2; have := env2.o5; have := env2.o6; have := env2.o7; omega) (by have := env2.o8; omega)
              HX.out.1 HX.out.2 (by have := HX.out; omega) (by have := HX.out; omega) y1 y2 la4 lb4 (HD.out (by have := HX.out; omega) (by have := HX.out; omega)).1 (HD.out (by have := HX.out; omega) (by have := HX.out; omega)).2 hr1 hr2 HL.out.1 HL.out.2.1
              (by have h1 := HL.out.2.2.1; have h2 := HNM.out; rcases h1 with h1 | h1; exact .inl h1; exact .inr (by omega)) hW2
            have HMid := hideM hmid
            have HEnv2 := hideM env2
            have HRows2 := hideM rows2
            clear hmid env2 rows2
            go_wp2_with fail
            refine HMid.out.mono ?_
            rintro e w3 ⟨xx, yy, f1, b1', rfl, ⟨X, Y, rfl, rfl, hX, hY, hc1, hc2, hsp⟩, mem⟩
            rw [win_length] at hX hc2 hsp
            rw [win_length] at hY hc2 hsp
            obtain ⟨A2, eA2⟩ : ∃ A2 : Nat, (a1 : Int) + X = A2 := ⟨a1 + X, by omega⟩
            obtain ⟨B2, eB2⟩ : ∃ B2 : Nat, (b1 : Int) + Y = B2 := ⟨b1 + Y, by omega⟩
            have ho3 : Only [bd, bi, bf, bk] w w3 := ((Only.refl _ w).drewN t2).trans (mem.only.mono (fun k hk => by simp at hk ⊢; omega))
            have env3 := HEnv.out.later ho3
            have q5 := env3.o5
            have q6 := env3.o6
            have q7 := env3.o7
            have rows3 : Rows4 bd bi bf bk la lb len w3 w3 del ins f1 b1' :=
              ⟨World.rowIs.of_block HRows2.out.rd (mem.only.block _ (notmem2 (by omega) (by omega))), World.rowIs.of_block HRows2.out.ri (mem.only.block _ (notmem2 (by omega) (by omega))), mem.rf, mem.rb, Only.refl _ _⟩
            have hrec1 := HIH.out a1 A2 X b1 B2 Y del ins f1 b1' w3 (by have := HX.out; have := HNM.out; omega) (by omega) (by omega) (by have := HX.out; omega) (by have := HX.out; omega)
              (by have h1 := HL.out.2.2.1; have h2 := HNM.out; rcases h1 with h1 | h1; exact .inl h1; exact .inr (by omega)) (.inl hr1)
              (fun i h1 h2 => HF2.out.1 i h1 (by omega)) (fun j h1 h2 => HF2.out.2 j h1 (by omega)) env3 rows3
            have HRec1 := hideM hrec1
            have HO3 := hideM ho3
            have HC := hideM (And.intro hX (And.intro hY (And.intro hc1 (And.intro hc2 hsp))))
            have HEA := hideM (And.intro eA2 eB2)
            have hXb : X ≤ 4096 := by have := HX.out; omega
            have hYb : Y ≤ 4096 := by have := HX.out; omega
            clear hrec1 ho3 env3 rows3 mem hX hY hc1 hc2 hsp HRows2 HMid q5 q6 q7
            go_wp2_with fail
            refine HRec1.out.mono ?_
            rintro e w4 ⟨rfl, del1, ins1, f2, b2', rows4, ok1⟩
            have hA := HEA.out
            have hC := HC.out
            have hXX := HX.out
            have ho4 : Only [bd, bi, bf, bk] w w4 := HO3.out.trans rows4.only
            have env4 := HEnv.out.later ho4
            have hrec2 := HIH.out A2 a2 (n' - X) B2 b2 (m' - Y) del1 ins1 f2 b2' w4 (by have := HNM.out; omega) (by omega) (by omega) y1 y2
              (by have h1 := HL.out.2.2.1; have h2 := HNM.out; rcases h1 with h1 | h1; exact .inl h1; exact .inr (by omega)) (.inl hr1)
              (fun i h1 h2 => by rw [ok1.outA i (by omega)]; exact HF2.out.1 i (by omega) (by omega)) (fun j h1 h2 => by rw [ok1.outB j (by omega)]; exact HF2.out.2 j (by omega) (by omega)) env4 ⟨rows4.rd, rows4.ri, rows4.rf, rows4.rk, Only.refl _ _⟩
            have HRec2 := hideM hrec2
            have HO4 := hideM ho4
            have HOk1 := hideM ok1
            clear hrec2 ho4 env4 rows4 ok1 HRec1 hA hC hXX
            go_wp2_with fail
            refine HRec2.out.mono ?_
            rintro e w5 ⟨rfl, del2, ins2, f3, b3, rows5, ok2⟩
            have HOk2 := hideM ok2
            have HR5 := hideM rows5
            clear rows5 ok2 HRec2
            go_wp2_with fail
            go_end0
            refine ⟨rfl, del2, ins2, f3, b3, ⟨HR5.out.rd, HR5.out.ri, HR5.out.rf, HR5.out.rk, HO4.out.trans HR5.out.only⟩, HT.out _ _ ?_⟩
            have hA := HEA.out
            have hC := HC.out
            have ok2' := HOk2.out
            rw [show A2 = a1 + X from by omega, show B2 = b1 + Y from by omega] at ok2'
            exact CmpOk.join hC.1 hC.2.1 hC.2.2.2.2 HOk1.out ok2'
end Go.Proofs.Qxb6603371a
