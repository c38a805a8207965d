/-
  The proof of 'Rows.FnCloneIsEqualAndDisjointSaid': the frame after the kit's own for slices of integers, turned to a slice of keys between two bytes; the walk is the theorem law_any.
-/
import Derived.Test.Qxb6605337aRows
import Derived.Test.Qxb6605337aW7
import Derived.Deep.SlicePairs
import Derived.WalkKit
import Derived.ProofKit
import Derived.OpenShut
import Derived.ShutString
import Derived.ChangeOld
import Derived.Below
namespace Go.Proofs.Qxb6605337a.fnCloneIsEqualAndDisjoint
open Go.ChangeShapes Go.WideShapes Go.ChangeAt Go.RowKit
open Go.ChangeMaps (open_string shut_string)
set_option linter.unusedVariables false

theorem own : ownKnob Try.prog.godebug = none := by kernel_rfl
theorem laidOut : laidOutB Try.prog = true := by kernel_rfl

theorem keys_of_trod {H : Type} {enc : TypeId × Value → H} {W : World} {fuel : Nat} {a : Option Addr} {len cap : Nat} {x : DataW H × List MemPlace}
    (h : DataW.trod enc Try.prog W 0 (fun _ => true) true fuel 22 [.slice a len cap] = some x) :
    (a.isNone = true → len = 0) ∧ ∃ D : KD, Keys W a len D ∧ (∀ i, i < len → D.nl i = true → D.sl i = 0) ∧ ∀ i, i < len → D.sl i ≤ 9223372036854775807 := by
  rcases Go.Deep.open_slice_pairs Try.underlying22 Try.underlying41 (by kernel_rfl) rfl rfl (by kernel_rfl) (by kernel_rfl) h with ⟨hc, _⟩ | ⟨ad, l, c, m, k, V0, V1, D0, D1, P0, P1, hc, _, hl, hm, hmm, _, hall⟩
  · simp at hc
    obtain ⟨rfl, rfl, rfl⟩ := hc
    exact ⟨fun _ => rfl, ⟨fun _ => 0, fun _ => 0, fun _ => false, fun _ _ => 0⟩, .inl rfl, fun i hi => by omega, fun i hi => by omega⟩
  · simp at hc
    obtain ⟨rfl, rfl, rfl⟩ := hc
    simp at hmm
    subst hmm
    refine ⟨fun h => by simp at h, ?_⟩
    have each : ∀ i, i < m → ∃ q : Int × Option Addr × Nat × Nat × (Nat → Int), V0 i = .int .u8 q.1 ∧ V1 i = .slice q.2.1 q.2.2.1 q.2.2.2.1 ∧ Bytes W q.2.1 q.2.2.1 q.2.2.2.2 ∧ (q.2.1.isNone = true → q.2.2.1 = 0) ∧ q.2.2.1 ≤ 9223372036854775807 := by
      intro i hi
      obtain ⟨_, _, h0, h1⟩ := hall i hi
      obtain ⟨n0, e0, _, _⟩ := DataW.trod_int Try.underlying5 h0
      simp at e0
      rcases open_ints Try.underlying36 Try.underlying5 (by kernel_rfl) h1 with ⟨e1, _⟩ | ⟨y, l1, c1, zs, e1, _, hl1, hm1, hz, _, hcell, _⟩
      · simp at e1
        exact ⟨(n0, none, 0, 0, fun _ => 0), e0, e1, .inl rfl, fun _ => rfl, by simp⟩
      · simp at e1 hz
        refine ⟨(n0, some y, l1, c1, fun j => zs.getD j 0), e0, e1, ?_, fun h => by simp at h, ?_⟩
        · by_cases hl0 : l1 = 0
          · exact .inl hl0
          · obtain ⟨b, off, spot⟩ := y
            have hspot : spot = none := by simpa [Addr.add] using World.cell?_spot (hcell 0 (by omega))
            subst hspot
            exact .inr ⟨b, off, rfl, fun j hj => by rw [← Addr.add_lit]; exact hcell j (by simp at hj; omega)⟩
        · have : maxLen = 9223372036854775807 := rfl
          simp
          omega
    obtain ⟨q, hq⟩ := Go.Deep.choose_lt each
    refine ⟨⟨fun i => (q i).1, fun i => (q i).2.2.1, fun i => (q i).2.1.isNone, fun i => (q i).2.2.2.2⟩, ?_, fun i hi => (hq i (by omega)).2.2.2.1, fun i hi => (hq i (by omega)).2.2.2.2⟩
    by_cases hl0 : len = 0
    · exact .inl hl0
    · obtain ⟨b, off, spot⟩ := ad
      have hspot : spot = none := by simpa [Addr.add] using World.cell?_spot (hall 0 (by omega)).1
      subst hspot
      refine .inr ⟨b, off, fun i => (q i).2.1, fun i => (q i).2.2.2.1, rfl, fun i hi => ?_⟩
      obtain ⟨g0, g1, _, _⟩ := hall i (by omega)
      obtain ⟨e0, e1, e2, _, _⟩ := hq i (by omega)
      rw [Addr.add_lit] at g0 g1
      refine ⟨by rw [g0, e0], by rw [Nat.add_assoc, g1, e1], rfl, e2⟩

/-! ### THE ROW's STEP: WRITTEN OUT: LEAVE IT -/
set_option maxRecDepth 100000 in
theorem lifted (os : Os) (started : os.Started) (H : Type) (enc : TypeId × Value → H) :
    ReturnsInHanded {} Try.checked os 5 .any (Rows.fnCloneIsEqualAndDisjointSpec.pre6 enc Try.prog Try.f5 Rows.fnCloneIsEqualAndDisjointRow.domain false) (Rows.fnCloneIsEqualAndDisjointSpec.post enc Try.prog Try.f5 false true false false) := by
  refine returnsInHanded_of_change (C := Try.checked) own started (by kernel_rfl) Try.func5
    (ChangeSpec.witness6 (enc := enc) (C := Try.checked) false ⟨#[], #[.int .u8 0, .slice none 0 0, .int .u8 0], []⟩ 8 (by kernel_rfl) (by kernel_rfl) (by kernel_rfl) (by kernel_rfl)) ?_
  intro W base args ds gs before hval0 hW hcnd _
  have hval : ∀ (j : Nat) t v, Try.f5.params[j]? = some t → args[j]? = some v → Value.okWide Try.prog W .any base t v := hval0
  have hW' := hW
  obtain ⟨p, q, hA0, hV, rfl, hfz, hnd⟩ := hW
  have hA : DataW.TrodAll enc Try.prog W 0 (fun _ => true) true Try.f5.params.toList args.toList ds p := hA0
  rw [Try.params5] at hA hval
  obtain ⟨v0, vs0, d0, ds0, p0, q0, hargs, rfl, rfl, h0, r0⟩ := trodAll_cons hA
  obtain ⟨v1, vs1, d1, ds1, p1, q1, rfl, rfl, rfl, h1, r1⟩ := trodAll_cons r0
  obtain ⟨v2, vs2, d2, ds2, p2, q2, rfl, rfl, rfl, h2, r2⟩ := trodAll_cons r1
  obtain ⟨rfl, rfl, rfl⟩ := trodAll_nil r2
  obtain rfl : args = #[v0, v1, v2] := by cases args; simp_all
  obtain ⟨rfl, rfl⟩ := trodVars_none hV
  obtain ⟨n0, rfl, rfl, rfl, g0⟩ := open_int Try.underlying5 (hval 0 5 v0 rfl rfl) h0
  obtain ⟨n2, rfl, rfl, rfl, g2⟩ := open_int Try.underlying5 (hval 2 5 v2 rfl rfl) h2
  obtain ⟨a1, len1, cap1, rfl⟩ := okWide_slice Try.underlying22 (hval 1 22 v1 rfl rfl)
  have k1 := h1
  have lt1 : ∀ x ∈ p1, x.block < W.heap.size := by obtain ⟨m, hm⟩ := k1; exact DataW.trod_lt m _ _ _ hm
  obtain ⟨fuel, hf⟩ := h1
  obtain ⟨hz, D, hK, hnl, hsz⟩ := keys_of_trod (by simpa [Value.cells] using hf)
  clear hA0 hval0
  refine (law_any n0 n2 a1 len1 cap1 D W hsz hnl hz hK).mono fun e W' ⟨he, bel⟩ => ?_
  subst he
  exact ⟨_, rfl, _, _, _, [], _, [], hW', trodAll_mk1 (shut_bool Try.underlying4 _), (trodAll_cons_mk (shut_int Try.underlying5 g0) (trodAll_cons_mk (Below.trod laidOut (by kernel_rfl) (of_decide_eq_true (by kernel_rfl)) k1 bel lt1) (trodAll_cons_mk (shut_int Try.underlying5 g2) trodAll_mk0))), rfl, bel.frame _, fun h => by cases h⟩

theorem over : Rows.fnCloneIsEqualAndDisjointRow.holds Try.pinned (OpenSpec.ofChange Rows.fnCloneIsEqualAndDisjointSpec) :=
  OpenClaim.holds_of_wide 5 Try.f5 rfl rfl rfl rfl rfl rfl rfl ⟨rfl, rfl, rfl, rfl, rfl⟩ rfl rfl rfl rfl rfl (by kernel_rfl) Try.func5 (by kernel_rfl)
    (of_decide_eq_true (by kernel_rfl)) (by unfold Func.isWrapper; first | (rw [if_pos (by decide +kernel)]; kernel_rfl) | (rw [if_neg (by decide +kernel)]; exact ⟨rfl, rfl⟩))
    (fun os started H enc _ => lifted os started H enc)

/-- ████ THE STATEMENT ████ -/
theorem proved : Rows.FnCloneIsEqualAndDisjointSaid := over
end Go.Proofs.Qxb6605337a.fnCloneIsEqualAndDisjoint
