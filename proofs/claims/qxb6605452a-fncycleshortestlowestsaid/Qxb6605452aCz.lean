import Derived.Test.Qxb6605452aCx
namespace Go.Proofs.Qxb6605452a

/-- The search inside the list of v, the first j done: either p k still waits, or v is p k and its successor on p is not yet met. -/
def InSt (G : Gr) (s L : Nat) (p : Nat → Nat) (v j a b : Nat) (q : Nat → Nat) (par : Nat → Int) : Prop :=
  (∃ k c, BSt G s L p k a b c q par ∧ ∀ y, G.E v y → G.dge s y (L - k)) ∨
  (∃ k, BPt G s L p k a b q par ∧ v = p k ∧ ∀ j', j' < j → G.of v j' ≠ (if k + 1 < L then p (k + 1) else s))

/-- Lists in index order. -/
def Gr.Asc (G : Gr) (n : Nat) : Prop := ∀ v, v < n → ∀ i j, i ≤ j → j < G.ol v → G.of v i ≤ G.of v j

theorem InSt.start {G : Gr} {s L : Nat} {p : Nat → Nat} {k a b c : Nat} {q : Nat → Nat} {par : Nat → Int} (H : BSt G s L p k a b c q par) : InSt G s L p (q a) 0 (a + 1) b q par := by
  by_cases h : a < c
  · refine .inl ⟨k, c, H.pop h, fun y e => ?_⟩
    exact (H.fore a (Nat.le_refl _) h).step e
  · have e : a = c := by have := H.ac; omega
    refine .inr ⟨k, H.take e, by rw [e]; exact H.qc, fun j' h => by omega⟩

theorem dge_one {G : Gr} {s y : Nat} (h : y ≠ s) : G.dge s y 1 := fun j hj => by
  cases j with
  | zero => exact absurd hj h
  | succ j => omega

theorem InSt.skip {G : Gr} {n s L : Nat} {p : Nat → Nat} {v j a b : Nat} {q : Nat → Nat} {par : Nat → Int} {comp size : Nat → Nat} {nc : Nat} (H : InSt G s L p v j a b q par) (P : GP G s L p) (hG : G.In n) (hs : s < n) (C : Scc G n comp size nc)
    (hy : G.of v j ≠ s) (hc : ¬ (comp (G.of v j) = comp s ∧ par (G.of v j) < 0)) : InSt G s L p v (j + 1) a b q par := by
  rcases H with ⟨k, c, h1, h2⟩ | ⟨k, h1, h2, h3⟩
  · exact .inl ⟨k, c, h1, h2⟩
  · refine .inr ⟨k, h1, h2, fun j' hj' => ?_⟩
    by_cases e : j' = j
    · subst e
      by_cases hk : k + 1 < L
      · rw [if_pos hk]
        intro e
        apply hc
        rw [e]
        refine ⟨(C.same _ _ (P.lt hG hs _ hk) hs).2 ⟨P.back _ hk, P.reach _ hk⟩, ?_⟩
        rw [h1.fresh P hk]; omega
      · rw [if_neg hk]; exact hy
    · exact h3 j' (by omega)

theorem InSt.enq {G : Gr} {n s L : Nat} {p : Nat → Nat} {v j a b : Nat} {q q' : Nat → Nat} {par par' : Nat → Int} (H : InSt G s L p v j a b q par) (P : GP G s L p) (hA : G.Asc n) (hv : v < n) (hj : j < G.ol v)
    (hy : G.of v j ≠ s) (hw : par (G.of v j) = -1) (hp : ∀ x, par' x = if x = G.of v j then (v : Int) else par x) (hq : ∀ i, q' i = if i = b then G.of v j else q i) : InSt G s L p v (j + 1) a (b + 1) q' par' := by
  rcases H with ⟨k, c, h1, h2⟩ | ⟨k, h1, h2, h3⟩
  · exact .inl ⟨k, c, h1.enq hw (h2 _ ⟨j, hj, rfl⟩) v hp hq, h2⟩
  · have kl := h1.kl
    by_cases hk : k + 1 < L
    · by_cases e : G.of v j = p (k + 1)
      · rw [e] at hp hq
        refine .inl ⟨k + 1, b, h1.find P hk (by rw [← h2]; exact hp) hq, fun y hE => ?_⟩
        rw [h2] at hE
        have := P.sub kl hE
        rwa [show L - (k + 1) = L - k - 1 by omega]
      · have hd : G.dge s (G.of v j) (L - k) := by
          refine P.least k hk _ (by rw [← h2]; exact ⟨j, hj, rfl⟩) ?_
          obtain ⟨j0, hj0, e0⟩ := P.edge k hk
          rw [← h2] at hj0 e0
          have : ¬ j0 < j := fun h => by
            have := h3 j0 h
            rw [if_pos hk] at this
            exact this e0
          have := hA v hv j j0 (by omega) hj0
          omega
        refine .inr ⟨k, h1.enq hw hd v hp hq, h2, fun j' hj' => ?_⟩
        by_cases ej : j' = j
        · subst ej; rw [if_pos hk]; exact e
        · exact h3 j' (by omega)
    · refine .inr ⟨k, h1.enq hw (by rw [show L - k = 1 by omega]; exact dge_one hy) v hp hq, h2, fun j' hj' => ?_⟩
      by_cases ej : j' = j
      · subst ej; rw [if_neg hk]; exact hy
      · exact h3 j' (by omega)

theorem InSt.fin {G : Gr} {s L : Nat} {p : Nat → Nat} {v a b : Nat} {q : Nat → Nat} {par : Nat → Int} (H : InSt G s L p v (G.ol v) a b q par) (P : GP G s L p) : ∃ k c, BSt G s L p k a b c q par := by
  rcases H with ⟨k, c, h1, h2⟩ | ⟨k, h1, h2, h3⟩
  · exact ⟨k, c, h1⟩
  · have kl := h1.kl
    by_cases hk : k + 1 < L
    · obtain ⟨j0, hj0, e0⟩ := P.edge k hk
      rw [← h2] at hj0 e0
      have := h3 j0 hj0
      rw [if_pos hk] at this
      exact absurd e0 this
    · obtain ⟨j0, hj0, e0⟩ := P.last
      rw [show L - 1 = k by omega, ← h2] at hj0 e0
      have := h3 j0 hj0
      rw [if_neg hk] at this
      exact absurd e0 this

theorem InSt.found {G : Gr} {s L : Nat} {p : Nat → Nat} {v j a b : Nat} {q : Nat → Nat} {par : Nat → Int} (H : InSt G s L p v j a b q par) (P : GP G s L p) (hj : j < G.ol v) (hy : G.of v j = s) : v = p (L - 1) ∧ Chain p (L - 1) par := by
  rcases H with ⟨k, c, h1, h2⟩ | ⟨k, h1, h2, h3⟩
  · have kl := h1.kl
    have := h2 s ⟨j, hj, hy⟩ 0 rfl
    omega
  · have kl := h1.kl
    by_cases hk : k + 1 < L
    · have := P.sub kl (y := s) (by rw [← h2]; exact ⟨j, hj, hy⟩) 0 rfl
      omega
    · have e : k = L - 1 := by omega
      rw [← e]
      exact ⟨h2, h1.ch⟩

/-- How many have no parent yet. -/
def noPar (n : Nat) (par : Nat → Int) : Nat := sumTo n (fun u => if par u = -1 then 1 else 0)

theorem noPar_le (n : Nat) (par : Nat → Int) : noPar n par ≤ n := sumTo_le n fun i => by split <;> omega

theorem noPar_set {n : Nat} {par par' : Nat → Int} {y v : Nat} (hy : y < n) (hw : par y = -1) (hp : ∀ x, par' x = if x = y then (v : Int) else par x) : noPar n par' + 1 = noPar n par := by
  have := sumTo_one (n := n) (f := fun u => if par' u = -1 then 1 else 0) (g := fun u => if par u = -1 then 1 else 0) hy fun i _ hne => by simp [hp, hne]
  have e : ¬ par' y = -1 := by rw [hp, if_pos rfl]; omega
  simp only [hw, if_neg e, if_true] at this
  show sumTo n (fun u => if par' u = -1 then 1 else 0) + 1 = sumTo n (fun u => if par u = -1 then 1 else 0)
  omega
end Go.Proofs.Qxb6605452a
