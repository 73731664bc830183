import Derived.Test.Qxb6603371aGrpB
import Derived.Test.Qxb6603371aGrpP
namespace Go.Proofs.Qxb6603371a
open Go.RowKit

theorem Try.info56 : (Try.prog.info? 56).map (fun i => (i.zero, i.size, i.bytes)) = some (some (.agg #[.int .i64 0, .int .i64 0, .int .i64 0, .int .i64 0]), 4, 32) := by kernel_rfl

def hkCells (hs : List Hk) : List Value := hs.flatMap fun h => [.int .i64 h.fs, .int .i64 h.ts, .int .i64 h.first, .int .i64 h.fin]

/-- The lines that lie in a row from its head on. -/
def RowLines (w : World) (b n : Nat) (ops : Nat → Int) (tx : Nat → ByteArray) : Prop :=
  ∀ i, i < n → w.cell? ⟨b, i * 2, none⟩ = some (.int .u8 (ops i)) ∧ w.cell? ⟨b, i * 2 + 1, none⟩ = some (.string (tx i))

theorem others_hit {ops : Nat → Int} {k : Nat} (c : Int) (h : ops k ≠ c) : others ops c (k + 1) = others ops c k + 1 := by simp [others, h]
theorem others_miss {ops : Nat → Int} {k : Nat} (c : Int) (h : ops k = c) : others ops c (k + 1) = others ops c k := by simp [others, h]

theorem hide {p : Prop} (h : p) : Hid p := h

theorem own_shape {w : World} {base : Nat} {e : TypeId} {size : Nat} {v : Value} {n : Nat} {xs : List Value} (h : w.ownsRow base e size v n xs) :
    ∃ ao cap, v = .slice ao n cap ∧ (0 < n → ∃ g, ao = some ⟨g, 0, none⟩) := by
  rcases h.2 with ⟨rfl, rfl⟩ | ⟨g, cap, cur, rfl, _⟩
  · exact ⟨none, 0, rfl, fun h => absurd h (by omega)⟩
  · exact ⟨_, cap, rfl, fun _ => ⟨g, rfl⟩⟩

theorem last_none {l : List Hk} (h : l.getLast? = none) : l.length < 1 := by simp at h; simp [h]

theorem cells_of_new {w : World} {A : Obj} (cs : List Value) (t : TypeId) :
    ∀ (j : Nat) (u : Value), cs[j]? = some u → ((w.alloc A).alloc (.cells cs.toArray t)).cell? ((⟨w.heap.size + 1, 0, none⟩ : Addr).add j) = some u := by
  intro j u h
  rw [Addr.add_lit, Nat.zero_add]
  rw [World.cell?_alloc_at _ _ _ _ (by simp)]
  simpa using h

theorem ints4 (a b c d : Int) : ∀ u ∈ [Value.int .i64 a, .int .i64 b, .int .i64 c, .int .i64 d], u.oneCell' = true := by
  intro u hu
  simp at hu
  rcases hu with rfl | rfl | rfl | rfl <;> rfl

theorem after_append {w wr w1 : World} {x0 x1 v : Value} {B : Obj} {t e : TypeId} {n size : Nat} {xs : List Value} (hbel : Below w.heap.size w wr) (hown : wr.ownsRow w.heap.size e size v n xs)
    (hg : ((wr.alloc (.cells #[x0, x1] t)).alloc B).grownBy w1 v.ownBlock) :
    Below w.heap.size w w1 ∧ w1.cell? ⟨wr.heap.size, 0, none⟩ = some x0 := by
  have hs := hbel.size
  have hlt := hown.lt
  refine ⟨((hbel.alloc hs _).alloc (by simp; omega) _).grown hg (by simp; omega) (fun k hk => (hlt k hk).1), hg.cell ?_ ?_⟩
  · rw [World.cell?_alloc_past _ _ _ (by simp), World.cell?_alloc_at _ _ _ _ rfl]
    rfl
  · intro e
    have := (hlt _ e.symm).2
    simp at this

theorem oth_t {ops : Nat → Int} {k : Nat} {c : Int} (h : (ops k != c) = true) : Value.int .i64 ((others ops c k : Int) + 1) = .int .i64 (others ops c (k + 1) : Int) := by
  rw [others_hit c (by simpa using h)]; simp
theorem oth_f {ops : Nat → Int} {k : Nat} {c : Int} (h : (ops k != c) = false) : Value.int .i64 (others ops c k : Int) = .int .i64 (others ops c (k + 1) : Int) := by
  rw [others_miss c (by simpa using h)]

theorem hkCells_length (hs : List Hk) : (hkCells hs).length = hs.length * 4 := by
  induction hs with
  | nil => rfl
  | cons h t ih => simp only [hkCells, List.flatMap_cons, List.length_append, List.length_cons] at ih ⊢; simp at ih ⊢; omega

theorem hkCells_append (a b : List Hk) : hkCells (a ++ b) = hkCells a ++ hkCells b := by simp [hkCells]

theorem own_new {ops : Nat → Int} {n k : Nat} {F E : Int} {w1 : World} {B : Nat} {v : Value} (h1 : ¬ ops k = 32) (h2 : ∀ h, (grp ops n k).getLast? = some h → ¬ (k : Int) - 3 ≤ h.fin)
    (hF : (if (k : Int) - 3 < 0 then (0 : Int) else (k : Int) - 3) = F) (hE : (if (n : Int) < (k : Int) + 1 + 3 then (n : Int) else (k : Int) + 1 + 3) = E)
    (h : w1.ownsRow B 56 4 v ((grp ops n k).length + 1) (hkCells (grp ops n k) ++ [.int .i64 ((others ops 43 k : Int) - ((k : Int) - F)), .int .i64 ((others ops 45 k : Int) - ((k : Int) - F)), .int .i64 F, .int .i64 E])) :
    w1.ownsRow B 56 4 v (grp ops n (k + 1)).length (hkCells (grp ops n (k + 1))) := by
  have e1 : max ((k : Int) - 3) 0 = F := by rw [← hF]; split <;> omega
  have e2 : min ((k : Int) + 1 + 3) (n : Int) = E := by rw [← hE]; split <;> omega
  rw [grp_new h1 h2, hkCells_append]
  simpa [hkCells, newHk, e1, e2] using h

theorem last_some {l : List Hk} {h : Hk} (e : l.getLast? = some h) : 0 < l.length := by
  obtain ⟨ys, rfl⟩ := List.getLast?_eq_some_iff.1 e
  simp

theorem last_cell {l : List Hk} {h : Hk} (e : l.getLast? = some h) : (hkCells l)[(l.length - 1) * 4 + 3]? = some (.int .i64 h.fin) := by
  obtain ⟨ys, rfl⟩ := List.getLast?_eq_some_iff.1 e
  have hl := hkCells_length ys
  rw [hkCells_append, List.getElem?_append_right (by simp; omega), hl]
  have e3 : ((ys ++ [h]).length - 1) * 4 + 3 - ys.length * 4 = 3 := by simp
  rw [e3]
  simp [hkCells]

theorem last_store {l : List Hk} {h : Hk} (e : l.getLast? = some h) (E : Int) : (hkCells l).set ((l.length - 1) * 4 + 3) (.int .i64 E) = hkCells (l.dropLast ++ [{ h with fin := E }]) := by
  obtain ⟨ys, rfl⟩ := List.getLast?_eq_some_iff.1 e
  have hl := hkCells_length ys
  rw [hkCells_append, List.set_append_right _ _ (by simp; omega), hl]
  have e3 : ((ys ++ [h]).length - 1) * 4 + 3 - ys.length * 4 = 3 := by simp
  rw [e3]
  simp [hkCells]

theorem own_merge {ops : Nat → Int} {n k : Nat} {E : Int} {w1 : World} {B g cap : Nat} {h : Hk} (h1 : ¬ ops k = 32) (h2 : (grp ops n k).getLast? = some h) (h3 : (k : Int) - 3 ≤ h.fin)
    (hE : (if (n : Int) < (k : Int) + 1 + 3 then (n : Int) else (k : Int) + 1 + 3) = E) (ho : w1.ownsRow B 56 4 (.slice (some ⟨g, 0, none⟩) (grp ops n k).length cap) (grp ops n k).length (hkCells (grp ops n k))) :
    (w1.setCell ⟨g, ((grp ops n k).length - 1) * 4 + 3, none⟩ (.int .i64 E)).ownsRow B 56 4 (.slice (some ⟨g, 0, none⟩) (grp ops n k).length cap) (grp ops n (k + 1)).length (hkCells (grp ops n (k + 1))) := by
  have e2 : min ((k : Int) + 1 + 3) (n : Int) = E := by rw [← hE]; split <;> omega
  have r := (ho.stored (((grp ops n k).length - 1) * 4 + 3) (.int .i64 E)).1
  have hp := last_some h2
  rw [last_store h2] at r
  rw [grp_merge h1 h2 h3, e2]
  have e3 : ((grp ops n k).dropLast ++ [{ h with fin := E }]).length = (grp ops n k).length := by simp; omega
  rw [e3]
  exact r

set_option maxHeartbeats 1000000 in
theorem groupAny (b n : Nat) (ops : Nat → Int) (tx : Nat → ByteArray) (w : World) (hn : n ≤ 43690) (h : RowLines w b n ops tx) :
    Calls Try.prog 32 #[.slice (some ⟨b, 0, none⟩) n n] w fun e w' => ∃ v, e = .returned v ∧ w'.ownsRow w.heap.size 56 4 v (grp ops n n).length (hkCells (grp ops n n)) ∧ Below w.heap.size w w' := by
  obtain ⟨i0, hi, hz0, hz1, hz2⟩ := info_parts Try.info56
  go_enter Try.func32, Try.ntmps32
  go_wp2
  go_loopw [3, 4, 5, 12] (fun v fr to i wr => ∃ k : Nat, k ≤ n ∧ i = .int .i64 k ∧ fr = .int .i64 (others ops 43 k) ∧ to = .int .i64 (others ops 45 k) ∧ Below w.heap.size w wr ∧ wr.ownsRow w.heap.size 56 4 v (grp ops n k).length (hkCells (grp ops n k))) (fun _ _ _ i _ => n - (intOf i).toNat)
  case atStart => exact ⟨0, Nat.zero_le _, rfl, rfl, rfl, Below.refl _ _, World.ownsRow_nil _ _ _ _⟩
  case round =>
    obtain ⟨k, hk, rfl, rfl, rfl, hbel, hown⟩ := hrel
    by_cases hlt : k < n
    · obtain ⟨h1, h2⟩ := h k hlt
      have hbs : b < w.heap.size := block_lt_of_cell h1
      have g1 := (hbel.cell (p := ⟨b, k * 2, none⟩) hbs).trans h1
      have g2 := (hbel.cell (p := ⟨b, k * 2 + 1, none⟩) hbs).trans h2
      have l1 := others_le ops 43 k
      have l2 := others_le ops 45 k
      clear h h1 h2
      by_cases hsp : ops k = 32
      · have HS : Hid (ops k = 32) := hsp
        clear hsp
        have s1 : (ops k != 32) = false := by rw [HS.out]; rfl
        have s2 : (ops k != 43) = true := by rw [HS.out]; rfl
        have s3 : (ops k != 45) = true := by rw [HS.out]; rfl
        go_wp2
        go_roundw
        case rel => exact ⟨k + 1, by omega, by go_num, by rw [others_hit _ (by rw [HS.out]; decide)]; go_num, by rw [others_hit _ (by rw [HS.out]; decide)]; go_num, (hbel.alloc (by have := hbel.size; omega) _), by rw [grp_same HS.out]; exact hown.alloc _⟩
        case measure => simp [intOf]; omega
      · have s1 : (ops k != 32) = true := by simpa using hsp
        have HS : Hid (¬ ops k = 32) := hsp
        clear hsp
        have hbs2 := hbel.size
        have hlen := grp_length ops n k
        obtain ⟨ao, cap, hv, hown2⟩ := own_shape hown
        subst hv
        cases hlast : (grp ops n k).getLast? with
        | none => 
          have h0 := last_none hlast
          have HL := hide hlast
          clear hlast
          obtain ⟨F, hF⟩ : ∃ F : Int, (if (k : Int) - 3 < 0 then (0 : Int) else (k : Int) - 3) = F := ⟨_, rfl⟩
          obtain ⟨E, hE⟩ : ∃ E : Int, (if (n : Int) < (k : Int) + 1 + 3 then (n : Int) else (k : Int) + 1 + 3) = E := ⟨_, rfl⟩
          have bF : 0 ≤ F ∧ F ≤ k ∧ (k : Int) - F ≤ 3 := by split at hF <;> omega
          obtain ⟨bF1, bF2, bF3⟩ := bF
          go_wp2_with (first | (at_builtin; (refine wpList_append_own _ rfl _ _ 53 rfl w.heap.size 56 i0 _ 4 32 Try.underlying53 hi hz0 hz1 hz2 rfl (by decide) _ _ _ rfl ((hown.alloc _).alloc _) ⟨wr.heap.size + 1, 0, none⟩ 1 1 [.int .i64 ((others ops 43 k : Int) - ((k : Int) - F)), .int .i64 ((others ops 45 k : Int) - ((k : Int) - F)), .int .i64 F, .int .i64 E] rfl rfl (cells_of_new _ _) (ints4 _ _ _ _) (by unfold maxLen; omega) (by omega) (by simp; omega) ?_)) )
          intro v' w1 hown' hgrow hnn
          obtain ⟨hb1, hc1⟩ := after_append hbel hown hgrow
          have HO : Hid _ := hown'
          clear hown hown' hgrow hnn
          go_wp2
          all_goals
            go_roundw
            case rel => exact ⟨k + 1, by omega, by go_num, by first | exact oth_t (by assumption) | exact oth_f (by assumption), by first | exact oth_t (by assumption) | exact oth_f (by assumption), hb1, own_new HS.out (by rw [HL.out]; simp) hF hE HO.out⟩
            case measure => simp [intOf]; omega
        | some hh =>
          have hpos := last_some hlast
          have HL := hide hlast
          obtain ⟨g, rfl⟩ := hown2 hpos
          have hg : g < wr.heap.size := (hown.lt g rfl).2
          have hcl := (hown.cellAt (((grp ops n k).length - 1) * 4 + 3) (by omega)).trans (last_cell hlast)
          clear hlast
          by_cases hm : (k : Int) - 3 ≤ hh.fin
          · obtain ⟨E, hE⟩ : ∃ E : Int, (if (n : Int) < (k : Int) + 1 + 3 then (n : Int) else (k : Int) + 1 + 3) = E := ⟨_, rfl⟩
            have hfz := hown.frozenAt (((grp ops n k).length - 1) * 4 + 3)
            have hbB : w.heap.size ≤ g := (hown.lt g rfl).1
            have HO := hide hown
            have HM := hide hm
            clear hown hown2
            go_wp2
            all_goals
              go_roundw
              case rel => exact ⟨k + 1, by omega, by go_num, by first | exact oth_t (by assumption) | exact oth_f (by assumption), by first | exact oth_t (by assumption) | exact oth_f (by assumption), (hbel.setCell hbB _).alloc (by simp; omega) _, (own_merge HS.out HL.out HM.out hE HO.out).alloc _⟩
              case measure => simp [intOf]; omega
          · obtain ⟨F, hF⟩ : ∃ F : Int, (if (k : Int) - 3 < 0 then (0 : Int) else (k : Int) - 3) = F := ⟨_, rfl⟩
            obtain ⟨E, hE⟩ : ∃ E : Int, (if (n : Int) < (k : Int) + 1 + 3 then (n : Int) else (k : Int) + 1 + 3) = E := ⟨_, rfl⟩
            have bF : 0 ≤ F ∧ F ≤ k ∧ (k : Int) - F ≤ 3 := by split at hF <;> omega
            obtain ⟨bF1, bF2, bF3⟩ := bF
            have HM := hide hm
            go_wp2_with (first | (at_builtin; (refine wpList_append_own _ rfl _ _ 53 rfl w.heap.size 56 i0 _ 4 32 Try.underlying53 hi hz0 hz1 hz2 rfl (by decide) _ _ _ rfl ((hown.alloc _).alloc _) ⟨wr.heap.size + 1, 0, none⟩ 1 1 [.int .i64 ((others ops 43 k : Int) - ((k : Int) - F)), .int .i64 ((others ops 45 k : Int) - ((k : Int) - F)), .int .i64 F, .int .i64 E] rfl rfl (cells_of_new _ _) (ints4 _ _ _ _) (by unfold maxLen; omega) (by omega) (by simp; omega) ?_)) )
            intro v' w1 hown' hgrow hnn
            obtain ⟨hb1, hc1⟩ := after_append hbel hown hgrow
            have HO : Hid _ := hown'
            clear hown hown' hgrow hnn hm hcl
            go_wp2
            all_goals
              go_roundw
              case rel => exact ⟨k + 1, by omega, by go_num, by first | exact oth_t (by assumption) | exact oth_f (by assumption), by first | exact oth_t (by assumption) | exact oth_f (by assumption), hb1, own_new HS.out (fun h e => by rw [HL.out] at e; cases e; have := HM.out; omega) hF hE HO.out⟩
              case measure => simp [intOf]; omega
    · go_wp2
      go_ret
      obtain rfl : k = n := by omega
      exact ⟨_, rfl, hown, hbel⟩
end Go.Proofs.Qxb6603371a
