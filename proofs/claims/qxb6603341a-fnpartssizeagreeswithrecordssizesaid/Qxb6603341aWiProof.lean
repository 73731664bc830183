import Derived.Test.Qxb6603341aWiF
import Derived.ProofKit
import Derived.OpenShut
import Derived.ChangeOld
import Derived.Below
import Derived.Deep.Strs
import Derived.Deep.Matrix
namespace Go.Proofs.Qxb6603341a.fnPartsSizeAgreesWithRecordsSize
open Go.ChangeShapes Go.WideShapes Go.ChangeAt Go.RowKit Go.Deep
set_option linter.unusedVariables false

theorem own : ownKnob Try.prog.godebug = none := by kernel_rfl
theorem laidOut : laidOutB Try.prog = true := by kernel_rfl

/-- A '[]string' that came in, opened. -/
theorem open_texts {H : Type} {enc : TypeId × Value → H} {W : World} {a0 : Option Addr} {len cap : Nat} {x : DataW H × List MemPlace} {fuel : Nat}
    (hf : DataW.trod enc Try.prog W 0 (fun _ => true) true fuel 32 [.slice a0 len cap] = some x) :
    ∃ (b off : Nat) (s : Nat → ByteArray), len ≤ maxLen ∧ (0 < len → a0 = some ⟨b, off, none⟩) ∧ StrsAt W b off len s := by
  rcases open_strs Try.underlying32 Try.underlying9 (by kernel_rfl) hf with ⟨hcs, _⟩ | ⟨a, l, c, m, Sx, hcs, _, hl, hm, hmm, _, hx⟩
  · simp at hcs
    obtain ⟨rfl, rfl, rfl⟩ := hcs
    exact ⟨0, 0, fun _ => ByteArray.empty, Nat.zero_le _, fun h => absurd h (by omega), fun i hi => absurd hi (by omega)⟩
  · simp at hcs
    obtain ⟨rfl, rfl, rfl⟩ := hcs
    simp at hmm
    subst hmm
    obtain ⟨b, off, spot⟩ := a
    have hs : 0 < len → spot = none := fun h0 => by
      obtain ⟨h1, _⟩ := hx 0 (by omega)
      simpa [Addr.add] using World.cell?_spot h1
    refine ⟨b, off, Sx, by omega, fun h => by rw [hs h], fun i hi => ?_⟩
    obtain ⟨h1, h2⟩ := hx i (by omega)
    have hs := hs (by omega)
    subst hs
    rw [add_plain] at h1
    exact ⟨h1, h2⟩

/-- A '[][]byte' that came in, opened. -/
theorem open_recs {H : Type} {enc : TypeId × Value → H} {W : World} {a0 : Option Addr} {len cap : Nat} {x : DataW H × List MemPlace} {fuel : Nat}
    (hf : DataW.trod enc Try.prog W 0 (fun _ => true) true fuel 25 [.slice a0 len cap] = some x) :
    ∃ (b off : Nat) (A : Nat → Option Addr) (L C : Nat → Nat), len ≤ maxLen ∧ (0 < len → a0 = some ⟨b, off, none⟩) ∧ RecsAt W b off len A L C ∧ ∀ i, i < len → BytesAt W (A i) (L i) := by
  rcases open_int_rows Try.underlying25 Try.underlying30 Try.underlying5 (by kernel_rfl) (by kernel_rfl) hf with ⟨hcs, _⟩ | ⟨a, l, c, A, L, C, Z, hcs, _, hl, hm, _, hx⟩
  · simp at hcs
    obtain ⟨rfl, rfl, rfl⟩ := hcs
    exact ⟨0, 0, fun _ => none, fun _ => 0, fun _ => 0, Nat.zero_le _, fun h => absurd h (by omega), fun i hi => absurd hi (by omega), fun i hi => absurd hi (by omega)⟩
  · simp at hcs
    obtain ⟨rfl, rfl, rfl⟩ := hcs
    obtain ⟨b, off, spot⟩ := a
    have hs : 0 < len → spot = none := fun h0 => by
      obtain ⟨h1, _⟩ := hx 0 (by omega)
      simpa [Addr.add] using World.cell?_spot h1
    refine ⟨b, off, A, L, C, by omega, fun h => by rw [hs h], fun i hi => ?_, fun i hi => ?_⟩
    · obtain ⟨h1, h2, h3, _⟩ := hx i (by omega)
      have hs := hs (by omega)
      subst hs
      rw [add_plain] at h1
      exact ⟨h1, by omega⟩
    · obtain ⟨_, h2, h3, h4, h5, h6, h7⟩ := hx i (by omega)
      cases hA : A i with
      | none =>
        have := h6 hA
        exact ⟨0, 0, fun _ => 0, fun h => absurd h (by omega), fun j hj => absurd hj (by omega)⟩
      | some a' =>
        obtain ⟨_, hc⟩ := h7 a' hA
        obtain ⟨b', off', spot'⟩ := a'
        have hs' : 0 < L i → spot' = none := fun h0 => by
          simpa [Addr.add] using World.cell?_spot (hc 0 (by omega))
        refine ⟨b', off', fun j => (Z i).getD j 0, fun h => by rw [hs' h], fun j hj => ?_⟩
        have hs'' := hs' (by omega)
        subst hs''
        have := hc j (by omega)
        rw [add_plain] at this
        exact this

set_option maxRecDepth 100000 in
theorem lifted (os : Os) (started : os.Started) (H : Type) (enc : TypeId × Value → H) :
    ReturnsInHanded {} Try.checked os 5 .any (Rows.fnPartsSizeAgreesWithRecordsSizeSpec.pre6 enc Try.prog Try.f5 Rows.fnPartsSizeAgreesWithRecordsSizeRow.domain false) (Rows.fnPartsSizeAgreesWithRecordsSizeSpec.post enc Try.prog Try.f5 false true false false) := by
  refine returnsInHanded_of_change (C := Try.checked) own started (by kernel_rfl) Try.func5
    (ChangeSpec.witness6 (enc := enc) (C := Try.checked) false ⟨#[], #[.slice none 0 0, .slice none 0 0, .slice none 0 0, .slice none 0 0], []⟩ 8 (by kernel_rfl) (by kernel_rfl) (by kernel_rfl) (by kernel_rfl)) ?_
  intro W base args ds gs before hval0 hW hcnd _
  have hval : ∀ (j : Nat) t v, Try.f5.params[j]? = some t → args[j]? = some v → Value.okWide Try.prog W .any base t v := hval0
  have hW' := hW
  obtain ⟨p, q, hA0, hV, rfl, hfz, hnd⟩ := hW
  have hA : DataW.TrodAll enc Try.prog W 0 (fun _ => true) true Try.f5.params.toList args.toList ds p := hA0
  rw [Try.params5] at hA hval
  obtain ⟨v0, vs0, d0, ds0, p0, q0, hargs, rfl, rfl, h0, r0⟩ := trodAll_cons hA
  obtain ⟨v1, vs1, d1, ds1, p1, q1, rfl, rfl, rfl, h1, r1⟩ := trodAll_cons r0
  obtain ⟨v2, vs2, d2, ds2, p2, q2, rfl, rfl, rfl, h2, r2⟩ := trodAll_cons r1
  obtain ⟨v3, vs3, d3, ds3, p3, q3, rfl, rfl, rfl, h3, r3⟩ := trodAll_cons r2
  obtain ⟨rfl, rfl, rfl⟩ := trodAll_nil r3
  obtain rfl : args = #[v0, v1, v2, v3] := by cases args; simp_all
  obtain ⟨rfl, rfl⟩ := trodVars_none hV
  obtain ⟨a0, len0, cap0, rfl⟩ := okWide_slice Try.underlying32 (hval 0 32 v0 rfl rfl)
  obtain ⟨a1, len1, cap1, rfl⟩ := okWide_slice Try.underlying32 (hval 1 32 v1 rfl rfl)
  obtain ⟨a2, len2, cap2, rfl⟩ := okWide_slice Try.underlying32 (hval 2 32 v2 rfl rfl)
  obtain ⟨a3, len3, cap3, rfl⟩ := okWide_slice Try.underlying25 (hval 3 25 v3 rfl rfl)
  have k0 := h0
  have k1 := h1
  have k2 := h2
  have k3 := h3
  have lt0 : ∀ x ∈ p0, x.block < W.heap.size := by obtain ⟨m, hm⟩ := k0; exact DataW.trod_lt m _ _ _ hm
  have lt1 : ∀ x ∈ p1, x.block < W.heap.size := by obtain ⟨m, hm⟩ := k1; exact DataW.trod_lt m _ _ _ hm
  have lt2 : ∀ x ∈ p2, x.block < W.heap.size := by obtain ⟨m, hm⟩ := k2; exact DataW.trod_lt m _ _ _ hm
  have lt3 : ∀ x ∈ p3, x.block < W.heap.size := by obtain ⟨m, hm⟩ := k3; exact DataW.trod_lt m _ _ _ hm
  obtain ⟨fu0, hf0⟩ := h0
  obtain ⟨fu1, hf1⟩ := h1
  obtain ⟨fu2, hf2⟩ := h2
  obtain ⟨fu3, hf3⟩ := h3
  obtain ⟨b0, o0, s0, m0, e0, t0⟩ := open_texts hf0
  obtain ⟨b1, o1, s1, m1, e1, t1⟩ := open_texts hf1
  obtain ⟨b2, o2, s2, m2, e2, t2⟩ := open_texts hf2
  obtain ⟨b3, o3, A, L, C, m3, e3, t3, hby⟩ := open_recs hf3
  clear hA0 hval0
  refine (parts_main a0 a1 a2 a3 b0 o0 len0 cap0 b1 o1 len1 cap1 b2 o2 len2 cap2 b3 o3 len3 cap3 s0 s1 s2 A L C W e0 e1 e2 e3 m0 m1 m2 m3 t0 t1 t2 t3 hby).mono fun e W' ⟨he, bel⟩ => ?_
  subst he
  exact ⟨_, rfl, _, _, _, [], _, [], hW', trodAll_mk1 (shut_bool Try.underlying4 _), (trodAll_cons_mk (Below.trod laidOut (by kernel_rfl) (of_decide_eq_true (by kernel_rfl)) k0 bel lt0) (trodAll_cons_mk (Below.trod laidOut (by kernel_rfl) (of_decide_eq_true (by kernel_rfl)) k1 bel lt1) (trodAll_cons_mk (Below.trod laidOut (by kernel_rfl) (of_decide_eq_true (by kernel_rfl)) k2 bel lt2) (trodAll_cons_mk (Below.trod laidOut (by kernel_rfl) (of_decide_eq_true (by kernel_rfl)) k3 bel lt3) trodAll_mk0)))), rfl, bel.frame _, fun h => by cases h⟩

theorem over : Rows.fnPartsSizeAgreesWithRecordsSizeRow.holds Try.pinned (OpenSpec.ofChange Rows.fnPartsSizeAgreesWithRecordsSizeSpec) :=
  OpenClaim.holds_of_wide 5 Try.f5 rfl rfl rfl rfl rfl rfl rfl ⟨rfl, rfl, rfl, rfl, rfl⟩ rfl rfl rfl rfl rfl (by kernel_rfl) Try.func5 (by kernel_rfl)
    (of_decide_eq_true (by kernel_rfl)) (by unfold Func.isWrapper; first | (rw [if_pos (by decide +kernel)]; kernel_rfl) | (rw [if_neg (by decide +kernel)]; exact ⟨rfl, rfl⟩))
    (fun os started H enc _ => lifted os started H enc)

/-- THE STATEMENT. -/
theorem proved : Rows.FnPartsSizeAgreesWithRecordsSizeSaid := over
#print axioms proved
end Go.Proofs.Qxb6603341a.fnPartsSizeAgreesWithRecordsSize
