import Derived.Test.Qxb6605452aWa
namespace Go.Proofs.Qxb6605452a
open Go.RowKit

theorem TS.adv_visit {S : TS} (h0 : 0 < S.h) (v : Nat) : (S.advAt (S.h - 1)).visit v = (S.visit v).advAt (S.h - 1) := by
  simp only [TS.visit, TS.advAt, TS.mk.injEq, true_and, and_true]
  refine ⟨rfl, rfl, ?_⟩
  funext j
  by_cases e : j = S.h
  · simp [e, show ¬ S.h = S.h - 1 by omega]
  · by_cases e2 : j = S.h - 1
    · simp [e2, show ¬ S.h - 1 = S.h by omega]
    · simp [e, e2]

/-- The top of the stack goes into component c. -/
def TS.pop1 (S : TS) (c : Nat) : TS :=
  { S with
    k := S.k - 1
    onS := fun x => if x = S.s (S.k - 1) then false else S.onS x
    comp := fun x => if x = S.s (S.k - 1) then c else S.comp x
    size := fun y => if y = c then S.size c + 1 else S.size y }

/-- A component on its way off the stack: all from place j on are off. -/
structure TS.Popping (S S' : TS) (j : Nat) : Prop where
  idx : S'.idx = S.idx
  low : S'.low = S.low
  s : S'.s = S.s
  vis : S'.vis = S.vis
  g : S'.g = S.g
  nx : S'.nx = S.nx
  h : S'.h = S.h
  k : S'.k = j
  jk : j ≤ S.k
  nc : S'.nc = S.nc + 1
  onS : ∀ x, S'.onS x = true ↔ S.onS x = true ∧ ¬ ∃ i, j ≤ i ∧ i < S.k ∧ S.s i = x
  cin : ∀ x, (∃ i, j ≤ i ∧ i < S.k ∧ S.s i = x) → S'.comp x = S.nc
  cout : ∀ x, (¬ ∃ i, j ≤ i ∧ i < S.k ∧ S.s i = x) → S'.comp x = S.comp x
  sin : S'.size S.nc = S.k - j
  sout : ∀ c, c < S.nc → S'.size c = S.size c

theorem TS.Popping.init (S : TS) : S.Popping S.openC S.k :=
  ⟨rfl, rfl, rfl, rfl, rfl, rfl, rfl, rfl, Nat.le_refl _, rfl, fun x => ⟨fun h => ⟨h, fun ⟨i, h1, h2, _⟩ => by omega⟩, fun h => h.1⟩, fun x ⟨i, h1, h2, _⟩ => by omega, fun _ _ => rfl, by simp [TS.openC], fun c hc => by simp [TS.openC, Nat.ne_of_lt hc]⟩

theorem TS.Popping.step {S S' : TS} {j : Nat} (H : S.Popping S' j) (hj : 0 < j) : S.Popping (S'.pop1 S.nc) (j - 1) := by
  have jk := H.jk
  have es : S'.s (S'.k - 1) = S.s (j - 1) := by rw [H.s, H.k]
  have ex : ∀ x, (∃ i, j - 1 ≤ i ∧ i < S.k ∧ S.s i = x) ↔ x = S.s (j - 1) ∨ ∃ i, j ≤ i ∧ i < S.k ∧ S.s i = x := by
    intro x
    constructor
    · rintro ⟨i, h1, h2, rfl⟩
      by_cases e : i = j - 1
      · exact .inl (by rw [e])
      · exact .inr ⟨i, by omega, h2, rfl⟩
    · rintro (rfl | ⟨i, h1, h2, rfl⟩)
      · exact ⟨j - 1, by omega, by omega, rfl⟩
      · exact ⟨i, by omega, h2, rfl⟩
  refine ⟨H.idx, H.low, H.s, H.vis, H.g, H.nx, H.h, by simp only [TS.pop1]; rw [H.k], by omega, H.nc, ?_, ?_, ?_, ?_, ?_⟩
  · intro x
    rw [ex]
    simp only [TS.pop1]
    rw [es]
    by_cases e : x = S.s (j - 1)
    · simp [e]
    · simp only [e, if_false, false_or]; exact H.onS x
  · intro x hx
    rw [ex] at hx
    simp only [TS.pop1]
    rw [es]
    by_cases e : x = S.s (j - 1)
    · simp [e]
    · simp only [e, if_false, false_or] at hx ⊢; exact H.cin x hx
  · intro x hx
    rw [ex] at hx
    simp only [TS.pop1]
    rw [es]
    by_cases e : x = S.s (j - 1)
    · exact absurd (.inl e) hx
    · simp only [e, if_false, false_or] at hx ⊢; exact H.cout x hx
  · simp only [TS.pop1, if_true]; rw [H.sin]; omega
  · intro c hc
    simp only [TS.pop1, if_neg (Nat.ne_of_lt hc)]; exact H.sout c hc

theorem TS.Inv.sinj {S : TS} {G : Gr} {n : Nat} (H : S.Inv G n) {i j : Nat} (hi : i < S.k) (hj : j < S.k) (e : S.s i = S.s j) : i = j := by
  rcases Nat.lt_trichotomy i j with h | h | h
  · have := H.smono i j h hj; rw [e] at this; omega
  · exact h
  · have := H.smono j i h hi; rw [e] at this; omega

theorem TS.Popping.fin {T S' : TS} {G : Gr} {n p : Nat} (I : T.Inv G n) (H : T.back.Popping S' p) (hp : p < T.k) (hs : T.s p = T.g (T.h - 1)) : T.PopTo S' p := by
  have key : ∀ x, T.onS x = true → ((∃ i, p ≤ i ∧ i < T.k ∧ T.s i = x) ↔ T.idx (T.g (T.h - 1)) ≤ T.idx x) := by
    intro x hx
    obtain ⟨i, hi, rfl⟩ := (I.ons x).1 hx
    rw [← hs]
    constructor
    · rintro ⟨i', h1, h2, e⟩
      have := I.sinj h2 hi e
      subst this
      by_cases e : p = i'
      · rw [e]; exact Nat.le_refl _
      · exact Nat.le_of_lt (I.smono p i' (by omega) hi)
    · intro h
      refine ⟨i, ?_, hi, rfl⟩
      by_cases e : p ≤ i
      · exact e
      · have := I.smono i p (by omega) hp; omega
  refine ⟨H.idx, H.low, H.s, H.vis, H.g, H.nx, H.h, H.k, H.nc, ?_, ?_, ?_, H.sin, H.sout⟩
  · intro x
    rw [H.onS x]
    constructor
    · rintro ⟨h1, h2⟩
      have h1 : T.onS x = true := h1
      refine ⟨h1, ?_⟩
      by_cases e : T.idx x < T.idx (T.g (T.h - 1))
      · exact e
      · exact absurd ((key x h1).2 (by omega)) h2
    · rintro ⟨h1, h2⟩
      refine ⟨h1, fun h => ?_⟩
      have := (key x h1).1 h
      omega
  · intro x h1 h2
    exact H.cin x ((key x h1).2 h2)
  · intro x h1
    refine H.cout x fun ⟨i, _, h2, e⟩ => ?_
    rw [(I.ons x).2 ⟨i, h2, e⟩] at h1
    cases h1
end Go.Proofs.Qxb6605452a
