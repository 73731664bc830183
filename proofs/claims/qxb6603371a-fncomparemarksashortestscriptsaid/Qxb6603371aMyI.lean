import Derived.Test.Qxb6603371aMyH
namespace Go.Proofs.Qxb6603371a
open Go.RowKit

theorem Try.infoM4 : (Try.prog.info? 4).map (fun i => (i.zero, i.size, i.bytes)) = some (some (.bool false), 1, 1) := by kernel_rfl

/-- All that the comparison is handed, ahead of its struct. -/
structure Ready (ba bb bp bq bd bi bf bk la lb len : Nat) (aa ab : Option Addr) (za zb f b : Nat → Int) (del ins : Nat → Bool) (w : World) : Prop where
  ha : 0 < la → aa = some ⟨ba, 0, none⟩
  hb : 0 < lb → ab = some ⟨bb, 0, none⟩
  ra : 0 < la → Ints w ba la za
  rb : 0 < lb → Ints w bb lb zb
  rp : Ints w bp la (fun i => (i : Int))
  rq : Ints w bq lb (fun i => (i : Int))
  rd : Bools w bd la del
  ri : Bools w bi lb ins
  rf : Ints w bf len f
  rk : Ints w bk len b
  o1 : ba < bd
  o2 : bb < bd
  o3 : bp < bd
  o4 : bq < bd
  o5 : bd < bi
  o6 : bi < bf
  o7 : bf < bk
  o8 : bk < w.heap.size

def ZPost (bd bi la lb : Nat) (za zb : Nat → Int) (rounds : Int) (aLo n bLo m : Nat) (del ins : Nat → Bool) (w : World) (e : Ending) (w' : World) : Prop :=
  e = .returned (.tuple #[]) ∧ ∃ del' ins', Bools w' bd la del' ∧ Bools w' bi lb ins' ∧ CmpOk za zb rounds aLo n bLo m del ins del' ins' ∧ Below bd w w'

set_option maxRecDepth 100000 in
set_option maxHeartbeats 2000000 in
theorem zzCompare (ba bb bp bq bd bi bf bk la lb len W : Nat) (aa ab : Option Addr) (rounds : Int) (za zb f b : Nat → Int) (del ins : Nat → Bool) (la4 : la ≤ 4096) (lb4 : lb ≤ 4096) (hr2 : rounds ≤ 9223372036854775807) (hlen : len = 2 * W + 3) (hW2 : W ≤ 8194)
    (aLo aHi n bLo bHi m : Nat) (w : World) (ha : aLo + n = aHi) (hb : bLo + m = bHi) (hla : aHi ≤ la) (hlb : bHi ≤ lb) (hW : rounds ≤ W ∨ n + m + 2 ≤ W) (hR : 1 ≤ rounds ∨ n + m = 0)
    (fa : ∀ i, aLo ≤ i → i < aLo + n → del i = false) (fb : ∀ j, bLo ≤ j → j < bLo + m → ins j = false) (rdy : Ready ba bb bp bq bd bi bf bk la lb len aa ab za zb f b del ins w) :
    Calls Try.prog 30 #[.slice aa la la, .slice ab lb lb, .slice (some ⟨bp, 0, none⟩) la la, .slice (some ⟨bq, 0, none⟩) lb lb, .slice (some ⟨bd, 0, none⟩) la la, .slice (some ⟨bi, 0, none⟩) lb lb, .slice (some ⟨bf, 0, none⟩) len len, .slice (some ⟨bk, 0, none⟩) len len, .int .i64 rounds, .int .i64 aLo, .int .i64 aHi, .int .i64 bLo, .int .i64 bHi] w (ZPost bd bi la lb za zb rounds aLo n bLo m del ins w) := by
  have HRdy := hideM rdy
  have HF := hideM (And.intro fa fb)
  have HA := hideM (And.intro ha (And.intro hb (And.intro hla (And.intro hlb (And.intro hW hR)))))
  have HL := hideM hlen
  clear rdy fa fb ha hb hla hlb hW hR hlen
  go_enter Try.func30, Try.ntmps30
  go_wp2_with fail
  have hr := HRdy.out
  have hA := HA.out
  have o5 := hr.o5
  have o6 := hr.o6
  have o7 := hr.o7
  have o8 := hr.o8
  refine (compare_any w.heap.size ba bb bp bq bd bi bf bk la lb len (W + 1) W aa ab rounds za zb la4 lb4 hr2 HL.out rfl hW2 (n + m + 1) aLo aHi n bLo bHi m del ins f b _ (by omega) hA.1 hA.2.1 hA.2.2.1 hA.2.2.2.1 hA.2.2.2.2.1 hA.2.2.2.2.2 HF.out.1 HF.out.2
    ⟨by simp, by simp, by simp, by simp, by simp, by simp, by simp, by simp, by simp, hr.ha, hr.hb, fun h => (hr.ra h).alloc _, fun h => (hr.rb h).alloc _, hr.rp.alloc _, hr.rq.alloc _, hr.o1, hr.o2, hr.o3, hr.o4, hr.o5, hr.o6, hr.o7, hr.o8⟩
    ⟨hr.rd.alloc _, hr.ri.alloc _, hr.rf.alloc _, hr.rk.alloc _, Only.refl _ _⟩).mono ?_
  rintro e w' ⟨rfl, del', ins', f', b', rows, ok⟩
  have HR := hideM rows
  have HOk := hideM ok
  clear rows ok hr hA
  go_wp2_with fail
  go_end0
  have hr := HR.out
  refine ⟨rfl, del', ins', hr.rd, hr.ri, HOk.out, hr.only.os, hr.only.tape, hr.only.output, ?_, fun k hk => ?_⟩
  · rw [hr.only.size]; simp
  · rw [hr.only.block k (notmem4 (by omega) (by omega) (by omega) (by omega))]
    exact Below.heap_alloc _ _ _ (by omega)

theorem made_at {w : World} {z : Value} {n B : Nat} {t : TypeId} (hB : w.heap.size = B) : (w.alloc (.cells (madeCells #[z] n) t)).rowIs B t n (fun _ => z) := by
  subst hB
  exact World.rowIs_made _ _ _ _

theorem ready_made {ba bb la lb len : Nat} {aa ab : Option Addr} {za zb : Nat → Int} {w0 w1 w2 : World} (ea : 0 < la → aa = some ⟨ba, 0, none⟩) (eb : 0 < lb → ab = some ⟨bb, 0, none⟩) (ra : 0 < la → Ints w0 ba la za) (rb : 0 < lb → Ints w0 bb lb zb) (ba1 : ba ≤ w0.heap.size) (bb1 : bb ≤ w0.heap.size)
    (z1 : w1.heap.size = w0.heap.size + 1) (rp : Ints w1 w0.heap.size la (fun i => (i : Int))) (b1 : Below w0.heap.size w0 w1) (z2 : w2.heap.size = w1.heap.size + 1) (rq : Ints w2 w1.heap.size lb (fun i => (i : Int))) (b2 : Below w1.heap.size w1 w2) :
    Ready ba bb w0.heap.size w1.heap.size w2.heap.size (w2.heap.size + 1) (w2.heap.size + 1 + 1) (w2.heap.size + 1 + 1 + 1) la lb len aa ab za zb (fun _ => 0) (fun _ => 0) (fun _ => false) (fun _ => false)
      ((((w2.alloc (Obj.cells (madeCells #[Value.bool false] la) 4)).alloc (Obj.cells (madeCells #[Value.bool false] lb) 4)).alloc (Obj.cells (madeCells #[Value.int IntKind.i64 0] len) 3)).alloc (Obj.cells (madeCells #[Value.int IntKind.i64 0] len) 3)) := by
  have up : ∀ {b : Nat} {n : Nat} {f : Nat → Int}, Ints w2 b n f → Ints ((((w2.alloc (Obj.cells (madeCells #[Value.bool false] la) 4)).alloc (Obj.cells (madeCells #[Value.bool false] lb) 4)).alloc (Obj.cells (madeCells #[Value.int IntKind.i64 0] len) 3)).alloc (Obj.cells (madeCells #[Value.int IntKind.i64 0] len) 3)) b n f :=
    fun h => (((World.rowIs.alloc h _).alloc _).alloc _).alloc _
  have b12 : Below w0.heap.size w0 w2 := b1.trans (b2.mono (by omega))
  refine ⟨ea, eb, fun h => up (World.rowIs.of_block (ra h) (b12.block _ (World.rowIs.lt (ra h)))), fun h => up (World.rowIs.of_block (rb h) (b12.block _ (World.rowIs.lt (rb h)))), up (World.rowIs.of_block rp (b2.block _ (by omega))), up rq, ?_, ?_, ?_, ?_, by omega, by omega, by omega, by omega, by omega, by omega, by omega, ?_⟩
  · exact (((made_at rfl).alloc _).alloc _).alloc _
  · exact ((made_at (Deep.nblk_alloc _ _)).alloc _).alloc _
  · exact (made_at (by rw [Deep.nblk_alloc, Deep.nblk_alloc])).alloc _
  · exact made_at (by rw [Deep.nblk_alloc, Deep.nblk_alloc, Deep.nblk_alloc])
  · rw [Deep.nblk_alloc, Deep.nblk_alloc, Deep.nblk_alloc, Deep.nblk_alloc]; omega

def RunPost (la lb : Nat) (za zb : Nat → Int) (rounds : Int) (aLo n bLo m : Nat) (w : World) (e : Ending) (w' : World) : Prop :=
  ∃ bd bi del' ins', e = .returned (.tuple #[.slice (some ⟨bd, 0, none⟩) la la, .slice (some ⟨bi, 0, none⟩) lb lb]) ∧ Bools w' bd la del' ∧ Bools w' bi lb ins' ∧ CmpOk za zb rounds aLo n bLo m (fun _ => false) (fun _ => false) del' ins' ∧ Below w.heap.size w w'

set_option maxRecDepth 100000 in
set_option maxHeartbeats 2000000 in
theorem runCompare (ba bb la lb : Nat) (aa ab : Option Addr) (rounds : Int) (za zb : Nat → Int) (la4 : la ≤ 4096) (lb4 : lb ≤ 4096) (hr0 : 0 ≤ rounds) (hr2 : rounds ≤ 9223372036854775807)
    (aLo aHi n bLo bHi m : Nat) (w : World) (ha : aLo + n = aHi) (hb : bLo + m = bHi) (hla : aHi ≤ la) (hlb : bHi ≤ lb) (hR : 1 ≤ rounds ∨ n + m = 0)
    (ea : 0 < la → aa = some ⟨ba, 0, none⟩) (eb : 0 < lb → ab = some ⟨bb, 0, none⟩) (ra : 0 < la → Ints w ba la za) (rb : 0 < lb → Ints w bb lb zb) (ba1 : ba ≤ w.heap.size) (bb1 : bb ≤ w.heap.size) :
    Calls Try.prog 17 #[.slice aa la la, .slice ab lb lb, .int .i64 aLo, .int .i64 aHi, .int .i64 bLo, .int .i64 bHi, .int .i64 rounds] w (RunPost la lb za zb rounds aLo n bLo m w) := by
  have eN : (aHi : Int) - aLo = n := by omega
  have eM : (bHi : Int) - bLo = m := by omega
  have HR := hideM (And.intro ra rb)
  have HE := hideM (And.intro ea eb)
  have HA := hideM (And.intro ha (And.intro hb (And.intro hla (And.intro hlb hR))))
  have HB := hideM (And.intro ba1 bb1)
  have ha4 : aHi ≤ 4096 := by omega
  have hb4 : bHi ≤ 4096 := by omega
  have n4 : n ≤ 4096 := by omega
  have m4 : m ≤ 4096 := by omega
  have l4 : aLo ≤ 4096 := by omega
  have l5 : bLo ≤ 4096 := by omega
  have l6 : aLo ≤ aHi := by omega
  have l7 : bLo ≤ bHi := by omega
  clear ra rb ea eb ha hb hla hlb hR ba1 bb1
  go_enter Try.func17, Try.ntmps17
  go_wp2_with fail
  refine (width rounds n m w n4 m4 hr0).mono ?_
  rintro e w0 ⟨W, rfl, rfl, hW, hW2⟩
  have HW := hideM hW
  clear hW
  go_wp2_with fail
  refine (identity la _ la4).mono ?_
  rintro e w1 ⟨rfl, z1, rp, b1⟩
  have H1 := hideM (And.intro z1 (And.intro rp b1))
  clear z1 rp b1
  go_wp2_with fail
  refine (identity lb _ lb4).mono ?_
  rintro e w2 ⟨rfl, z2, rq, b2⟩
  have H2 := hideM (And.intro z2 (And.intro rq b2))
  clear z2 rq b2
  obtain ⟨len, hlen⟩ : ∃ len : Nat, len = 2 * W + 3 := ⟨_, rfl⟩
  have hlI : 2 * (W : Int) + 3 = len := by omega
  have hlen4 : len ≤ 20000 := by omega
  have HLen := hideM hlen
  clear hlen
  have mk1 := run_make_row' (P := Try.prog) 28 4 _ 1 Try.underlying28 Try.infoM4 rfl .i64 .i64 la (by omega) (by omega)
  have mk2 := run_make_row' (P := Try.prog) 28 4 _ 1 Try.underlying28 Try.infoM4 rfl .i64 .i64 lb (by omega) (by omega)
  have mk3 := run_make_row' (P := Try.prog) 25 3 _ 8 Try.underlying25 Try.infoM3 rfl .i64 .i64 len (by omega) (by omega)
  go_wp2_with fail
  have h1 := H1.out
  have h2 := H2.out
  have hA := HA.out
  refine (zzCompare ba bb _ _ _ _ _ _ la lb len W aa ab rounds za zb _ _ _ _ la4 lb4 hr2 HLen.out hW2 aLo aHi n bLo bHi m _ hA.1 hA.2.1 hA.2.2.1 hA.2.2.2.1 HW.out hA.2.2.2.2 (fun _ _ _ => rfl) (fun _ _ _ => rfl) (ready_made HE.out.1 HE.out.2 HR.out.1 HR.out.2 HB.out.1 HB.out.2 h1.1 h1.2.1 h1.2.2 h2.1 h2.2.1 h2.2.2)).mono ?_
  rintro e w3 ⟨rfl, del', ins', rd, ri, ok, bel⟩
  have H3 := hideM (And.intro rd (And.intro ri (And.intro ok bel)))
  clear rd ri ok bel h1 h2 hA mk1 mk2 mk3
  go_wp2_with fail
  go_ret2
  have h1 := H1.out
  have h2 := H2.out
  have h3 := H3.out
  refine ⟨_, _, del', ins', rfl, h3.1, h3.2.1, h3.2.2.1, ?_⟩
  have bA : Below w0.heap.size w0 w2 := h1.2.2.trans (h2.2.2.mono (by omega))
  refine ((((bA.alloc (by omega) _).alloc ?_ _).alloc ?_ _).alloc ?_ _).trans (h3.2.2.2.mono (by omega))
  · rw [Deep.nblk_alloc]; omega
  · rw [Deep.nblk_alloc, Deep.nblk_alloc]; omega
  · rw [Deep.nblk_alloc, Deep.nblk_alloc, Deep.nblk_alloc]; omega
end Go.Proofs.Qxb6603371a
