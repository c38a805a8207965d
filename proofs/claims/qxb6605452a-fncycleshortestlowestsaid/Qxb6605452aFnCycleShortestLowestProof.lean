/-
  The proof of 'Rows.FnCycleShortestLowestSaid': the frame after the kit's own for slices of integers, turned to a slice of integers and a slice of such slices; the walk is the theorem law_any.
-/
import Derived.Test.Qxb6605452aRows
import Derived.Test.Qxb6605452aWf
import Derived.Deep.Matrix
import Derived.WalkKit
import Derived.ProofKit
import Derived.OpenShut
import Derived.ShutString
import Derived.ChangeOld
import Derived.Below
namespace Go.Proofs.Qxb6605452a.fnCycleShortestLowest
open Go.ChangeShapes Go.WideShapes Go.ChangeAt Go.RowKit
open Go.ChangeMaps (open_string shut_string)
set_option linter.unusedVariables false

theorem own : ownKnob Try.prog.godebug = none := by kernel_rfl
theorem laidOut : laidOutB Try.prog = true := by kernel_rfl

theorem ints_of_trod {H : Type} {enc : TypeId × Value → H} {W : World} {fuel : Nat} {a : Option Addr} {len cap : Nat} {x : DataW H × List MemPlace}
    (h : DataW.trod enc Try.prog W 0 (fun _ => true) true fuel 22 [.slice a len cap] = some x) : (a.isNone = true → len = 0) ∧ ∃ f : Nat → Int, Ints W a len f := by
  rcases open_ints Try.underlying22 Try.underlying3 (by kernel_rfl) h with ⟨e1, _⟩ | ⟨y, l1, c1, zs, e1, _, hl1, hm1, hz, _, hcell, _⟩
  · simp at e1
    obtain ⟨rfl, rfl, rfl⟩ := e1
    exact ⟨fun _ => rfl, fun _ => 0, .inl rfl⟩
  · simp at e1 hz
    obtain ⟨rfl, rfl, rfl⟩ := e1
    refine ⟨fun h => by simp at h, fun j => zs.getD j 0, ?_⟩
    by_cases hl0 : len = 0
    · exact .inl hl0
    · obtain ⟨b, off, spot⟩ := y
      have hspot : spot = none := by simpa [Addr.add] using World.cell?_spot (hcell 0 (by omega))
      subst hspot
      exact .inr ⟨b, off, rfl, fun j hj => by rw [← Addr.add_lit]; exact hcell j (by omega)⟩

theorem rows_of_trod {H : Type} {enc : TypeId × Value → H} {W : World} {fuel : Nat} {a : Option Addr} {len cap : Nat} {x : DataW H × List MemPlace}
    (h : DataW.trod enc Try.prog W 0 (fun _ => true) true fuel 23 [.slice a len cap] = some x) : (a.isNone = true → len = 0) ∧ ∃ (ol : Nat → Nat) (f : Nat → Nat → Int), Rows W a len ol f := by
  rcases Go.Deep.open_int_rows Try.underlying23 Try.underlying22 Try.underlying3 (by kernel_rfl) (by kernel_rfl) h with ⟨e1, _⟩ | ⟨y, l1, c1, A, L, C, Z, e1, _, hl1, hm1, _, hall⟩
  · simp at e1
    obtain ⟨rfl, rfl, rfl⟩ := e1
    exact ⟨fun _ => rfl, fun _ => 0, fun _ _ => 0, .inl rfl⟩
  · simp at e1
    obtain ⟨rfl, rfl, rfl⟩ := e1
    refine ⟨fun h => by simp at h, L, fun r c => (Z r).getD c 0, ?_⟩
    by_cases hl0 : len = 0
    · exact .inl hl0
    · obtain ⟨b, off, spot⟩ := y
      have hspot : spot = none := by simpa [Addr.add] using World.cell?_spot (hall 0 (by omega)).1
      subst hspot
      refine .inr ⟨b, off, A, C, rfl, fun i hi => ?_⟩
      obtain ⟨g1, g2, g3, g4, _, g6, g7⟩ := hall i (by omega)
      rw [Addr.add_lit] at g1
      refine ⟨g1, ?_, fun hz => ?_⟩
      · by_cases hz : L i = 0
        · exact .inl hz
        · cases hA : A i with
          | none => have := g6 hA; omega
          | some z =>
            obtain ⟨_, hc⟩ := g7 z hA
            obtain ⟨b2, o2, spot2⟩ := z
            have hspot2 : spot2 = none := by simpa [Addr.add] using World.cell?_spot (hc 0 (by omega))
            subst hspot2
            exact .inr ⟨b2, o2, rfl, fun j hj => by rw [← Addr.add_lit]; exact hc j (by omega)⟩
      · cases hA : A i with
        | none => have := g6 hA; omega
        | some z => rw [hA] at hz; simp at hz

/-! ### THE ROW's STEP -/
set_option maxRecDepth 100000 in
theorem lifted (os : Os) (started : os.Started) (H : Type) (enc : TypeId × Value → H) :
    ReturnsInHanded {} Try.checked os 5 .any (Rows.fnCycleShortestLowestSpec.pre6 enc Try.prog Try.f5 Rows.fnCycleShortestLowestRow.domain false) (Rows.fnCycleShortestLowestSpec.post enc Try.prog Try.f5 false true false false) := by
  refine returnsInHanded_of_change (C := Try.checked) own started (by kernel_rfl) Try.func5
    (ChangeSpec.witness6 (enc := enc) (C := Try.checked) false ⟨#[], #[.slice none 0 0, .slice none 0 0], []⟩ 8 (by kernel_rfl) (by kernel_rfl) (by kernel_rfl) (by kernel_rfl)) ?_
  intro W base args ds gs before hval0 hW hcnd _
  have hval : ∀ (j : Nat) t v, Try.f5.params[j]? = some t → args[j]? = some v → Value.okWide Try.prog W .any base t v := hval0
  have hW' := hW
  obtain ⟨p, q, hA0, hV, rfl, hfz, hnd⟩ := hW
  have hA : DataW.TrodAll enc Try.prog W 0 (fun _ => true) true Try.f5.params.toList args.toList ds p := hA0
  rw [Try.params5] at hA hval
  obtain ⟨v0, vs0, d0, ds0, p0, q0, hargs, rfl, rfl, h0, r0⟩ := trodAll_cons hA
  obtain ⟨v1, vs1, d1, ds1, p1, q1, rfl, rfl, rfl, h1, r1⟩ := trodAll_cons r0
  obtain ⟨rfl, rfl, rfl⟩ := trodAll_nil r1
  obtain rfl : args = #[v0, v1] := by cases args; simp_all
  obtain ⟨rfl, rfl⟩ := trodVars_none hV
  obtain ⟨a0, len0, cap0, rfl⟩ := okWide_slice Try.underlying22 (hval 0 22 v0 rfl rfl)
  obtain ⟨a1, len1, cap1, rfl⟩ := okWide_slice Try.underlying23 (hval 1 23 v1 rfl rfl)
  have k0 := h0
  have k1 := h1
  have lt0 : ∀ x ∈ p0, x.block < W.heap.size := by obtain ⟨m, hm⟩ := k0; exact DataW.trod_lt m _ _ _ hm
  have lt1 : ∀ x ∈ p1, x.block < W.heap.size := by obtain ⟨m, hm⟩ := k1; exact DataW.trod_lt m _ _ _ hm
  obtain ⟨fuel0, hf0⟩ := h0
  obtain ⟨fuel1, hf1⟩ := h1
  obtain ⟨hz0, f0, hI⟩ := ints_of_trod (by simpa [Value.cells] using hf0)
  obtain ⟨hz1, ol, f1, hK⟩ := rows_of_trod (by simpa [Value.cells] using hf1)
  clear hA0 hval0
  refine (law_any a0 a1 len0 len1 cap0 cap1 f0 ol f1 W hz0 hz1 hI hK).mono fun e W' ⟨he, bel⟩ => ?_
  subst he
  exact ⟨_, rfl, _, _, _, [], _, [], hW', trodAll_mk1 (shut_bool Try.underlying4 _), (trodAll_cons_mk (Below.trod laidOut (by kernel_rfl) (of_decide_eq_true (by kernel_rfl)) k0 bel lt0) (trodAll_cons_mk (Below.trod laidOut (by kernel_rfl) (of_decide_eq_true (by kernel_rfl)) k1 bel lt1) trodAll_mk0)), rfl, bel.frame _, fun h => by cases h⟩

theorem over : Rows.fnCycleShortestLowestRow.holds Try.pinned (OpenSpec.ofChange Rows.fnCycleShortestLowestSpec) :=
  OpenClaim.holds_of_wide 5 Try.f5 rfl rfl rfl rfl rfl rfl rfl ⟨rfl, rfl, rfl, rfl, rfl⟩ rfl rfl rfl rfl rfl (by kernel_rfl) Try.func5 (by kernel_rfl)
    (of_decide_eq_true (by kernel_rfl)) (by unfold Func.isWrapper; first | (rw [if_pos (by decide +kernel)]; kernel_rfl) | (rw [if_neg (by decide +kernel)]; exact ⟨rfl, rfl⟩))
    (fun os started H enc _ => lifted os started H enc)

/-- ████ THE STATEMENT ████ -/
theorem proved : Rows.FnCycleShortestLowestSaid := over
end Go.Proofs.Qxb6605452a.fnCycleShortestLowest
