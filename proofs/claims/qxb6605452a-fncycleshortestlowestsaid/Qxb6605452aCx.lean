import Derived.Test.Qxb6605452aCy
namespace Go.Proofs.Qxb6605452a

/-- v lies on a cycle through another node. -/
def Gr.On (G : Gr) (v : Nat) : Prop := ∃ y, G.E v y ∧ y ≠ v ∧ G.R y v

theorem Gr.R.leave {G : Gr} {v w : Nat} (h : G.R v w) (hne : w ≠ v) : ∃ y, G.E v y ∧ y ≠ v ∧ G.R y w := by
  induction h with
  | refl => exact absurd rfl hne
  | @step a b c e r ih =>
    by_cases hb : b = a
    · subst hb; exact ih hne
    · exact ⟨b, e, hb, r⟩

theorem Gr.on_iff {G : Gr} {v : Nat} : G.On v ↔ ∃ w, w ≠ v ∧ G.R v w ∧ G.R w v := by
  constructor
  · rintro ⟨y, e, hne, r⟩; exact ⟨y, hne, .edge e, r⟩
  · rintro ⟨w, hne, r1, r2⟩
    obtain ⟨y, e, h, r⟩ := r1.leave hne
    exact ⟨y, e, h, r.trans r2⟩

/-- s is the lowest node on a cycle (n if none), p its least shortest cycle. -/
structure Cyc (G : Gr) (n s L : Nat) (p : Nat → Nat) : Prop where
  lo : ∀ u, u < s → ¬ G.On u
  le : s ≤ n
  on : s < n → G.On s
  gp : s < n → GP G s L p
  nx : s < n → ∀ k, k + 1 < L → IsNext G s (p k) (L - 1 - k) (p (k + 1))

theorem cyc_exists (G : Gr) (n : Nat) : ∃ s L p, Cyc G n s L p := by
  by_cases h : ∃ v, v < n ∧ G.On v
  · obtain ⟨s, ⟨hs, ho⟩, hl⟩ := least_of h
    obtain ⟨y, e, hne, r⟩ := ho
    obtain ⟨m, hm⟩ := r.w
    obtain ⟨L, ⟨h1, hw⟩, hL⟩ := least_of (q := fun L => 1 ≤ L ∧ G.W s L s) ⟨m + 1, by omega, y, e, hm⟩
    obtain ⟨p, hp, hx⟩ := gp_exists h1 hw (fun y e j hj => by
      have := hL (j + 1) ⟨by omega, y, e, hj⟩
      omega)
    exact ⟨s, L, p, fun u hu ho => by have := hl u ⟨by omega, ho⟩; omega, by omega, fun _ => ⟨y, e, hne, r⟩, fun _ => hp, fun _ => hx⟩
  · exact ⟨n, 0, fun _ => 0, fun u hu ho => h ⟨u, hu, ho⟩, Nat.le_refl _, fun h => absurd h (Nat.lt_irrefl _), fun h => absurd h (Nat.lt_irrefl _), fun h => absurd h (Nat.lt_irrefl _)⟩

theorem GP.inj {G : Gr} {s L : Nat} {p : Nat → Nat} (H : GP G s L p) {i j : Nat} (hij : i < j) (hj : j < L) : p i ≠ p j := by
  intro e
  by_cases h0 : i = 0
  · subst h0
    rw [H.p0] at e
    have := H.ge j (by omega) hj 0 e.symm
    omega
  · have h1 := H.ge i (by omega) (by omega) (L - j) (by rw [e]; exact H.far hj)
    omega

theorem GP.lt {G : Gr} {n s L : Nat} {p : Nat → Nat} (H : GP G s L p) (hG : G.In n) (hs : s < n) : ∀ k, k < L → p k < n := by
  intro k
  induction k with
  | zero => intro _; rw [H.p0]; exact hs
  | succ k ih => intro h; exact hG _ _ (ih (by omega)) (H.edge k h)

theorem sumTo_le (n : Nat) {f : Nat → Nat} (h : ∀ i, f i ≤ 1) : sumTo n f ≤ n := by
  induction n with
  | zero => exact Nat.le_refl _
  | succ n ih => have := h n; simp only [sumTo]; omega

theorem sumTo_zero (n : Nat) {f : Nat → Nat} (h : ∀ i, f i = 0) : sumTo n f = 0 := by
  induction n with
  | zero => rfl
  | succ n ih => simp only [sumTo]; rw [ih, h n]

open Classical in
theorem pigeon {n L : Nat} {p : Nat → Nat} (hp : ∀ k, k < L → p k < n) (hi : ∀ i j, i < j → j < L → p i ≠ p j) : L ≤ n := by
  have key : ∀ m, m ≤ L → sumTo n (fun v => if ∃ i, i < m ∧ p i = v then 1 else 0) = m := by
    intro m
    induction m with
    | zero =>
      intro _
      exact sumTo_zero n fun i => by simp
    | succ m ih =>
      intro hm
      have a := ih (by omega)
      have b := sumTo_one (n := n) (f := fun v => if ∃ i, i < m + 1 ∧ p i = v then 1 else 0) (g := fun v => if ∃ i, i < m ∧ p i = v then 1 else 0) (hp m (by omega)) (fun v _ hne => by
        have : (∃ i, i < m + 1 ∧ p i = v) ↔ ∃ i, i < m ∧ p i = v := by
          constructor
          · rintro ⟨i, hi, rfl⟩
            have : i ≠ m := fun e => hne (by rw [e])
            exact ⟨i, by omega, rfl⟩
          · rintro ⟨i, hi, rfl⟩; exact ⟨i, by omega, rfl⟩
        simp only [this])
      have c : ¬ ∃ i, i < m ∧ p i = p m := by rintro ⟨i, him, e⟩; exact hi i m him (by omega) e
      have d : ∃ i, i < m + 1 ∧ p i = p m := ⟨m, by omega, rfl⟩
      simp only [if_neg c, if_pos d] at b
      omega
  have := key L (Nat.le_refl _)
  have := sumTo_le n (f := fun v => if ∃ i, i < L ∧ p i = v then 1 else 0) (fun i => by split <;> omega)
  omega

theorem GP.len {G : Gr} {n s L : Nat} {p : Nat → Nat} (H : GP G s L p) (hG : G.In n) (hs : s < n) : L ≤ n := pigeon (H.lt hG hs) fun _ _ => H.inj

/-! ### the model's searches -/

structure MS (G : Gr) (d : Nat → Int) (n k j : Nat) (Lc : Int) (b : Bool) : Prop where
  on : b = true ↔ ∃ j', j' < j ∧ G.of k j' ≠ k ∧ 0 ≤ d (G.of k j')
  lo : (Lc = 0 ∧ ∀ j', j' < j → d (G.of k j') < 0) ∨ (1 ≤ Lc ∧ Lc ≤ n ∧ (∃ j', j' < j ∧ 0 ≤ d (G.of k j') ∧ d (G.of k j') + 1 = Lc) ∧ ∀ j', j' < j → 0 ≤ d (G.of k j') → Lc ≤ d (G.of k j') + 1)

theorem MS.init (G : Gr) (d : Nat → Int) (n k : Nat) : MS G d n k 0 0 false :=
  ⟨⟨fun h => (by cases h), fun ⟨j', h, _⟩ => by omega⟩, .inl ⟨rfl, fun j' h => by omega⟩⟩

theorem MS.bd {G : Gr} {d : Nat → Int} {n k j : Nat} {Lc : Int} {b : Bool} (H : MS G d n k j Lc b) : 0 ≤ Lc ∧ Lc ≤ n := by
  rcases H.lo with ⟨h, _⟩ | ⟨h1, h2, _⟩ <;> omega

theorem MS.skip {G : Gr} {d : Nat → Int} {n k j : Nat} {Lc : Int} {b : Bool} (H : MS G d n k j Lc b) (h : d (G.of k j) < 0) : MS G d n k (j + 1) Lc b := by
  refine ⟨H.on.trans ⟨fun ⟨j', a, b⟩ => ⟨j', by omega, b⟩, fun ⟨j', a, b, c⟩ => ⟨j', ?_, b, c⟩⟩, ?_⟩
  · have : j' ≠ j := fun e => by rw [e] at c; omega
    omega
  · rcases H.lo with ⟨h1, h2⟩ | ⟨h1, h2, ⟨j', h3, h4⟩, h5⟩
    · refine .inl ⟨h1, fun j' hj => ?_⟩
      by_cases e : j' = j
      · rw [e]; exact h
      · exact h2 j' (by omega)
    · refine .inr ⟨h1, h2, ⟨j', by omega, h4⟩, fun j'' hj hd => ?_⟩
      by_cases e : j'' = j
      · rw [e] at hd; omega
      · exact h5 j'' (by omega) hd

theorem MS.step {G : Gr} {d : Nat → Int} {n k j : Nat} {Lc : Int} {b : Bool} (H : MS G d n k j Lc b) (h : 0 ≤ d (G.of k j)) (hn : d (G.of k j) < n) {Lc' : Int} {b' : Bool}
    (hb : (G.of k j ≠ k ∧ b' = true) ∨ (G.of k j = k ∧ b' = b)) (hL : ((Lc = 0 ∨ d (G.of k j) + 1 < Lc) ∧ Lc' = d (G.of k j) + 1) ∨ (Lc ≠ 0 ∧ Lc ≤ d (G.of k j) + 1 ∧ Lc' = Lc)) : MS G d n k (j + 1) Lc' b' := by
  refine ⟨?_, .inr ?_⟩
  · rcases hb with ⟨h1, rfl⟩ | ⟨h1, rfl⟩
    · exact ⟨fun _ => ⟨j, by omega, h1, h⟩, fun _ => rfl⟩
    · refine H.on.trans ⟨fun ⟨j', a, b⟩ => ⟨j', by omega, b⟩, fun ⟨j', a, b, c⟩ => ⟨j', ?_, b, c⟩⟩
      have : j' ≠ j := fun e => by rw [e] at b; exact b h1
      omega
  · rcases hL with ⟨hc, rfl⟩ | ⟨hc, hc2, rfl⟩
    · refine ⟨by omega, by omega, ⟨j, by omega, h, rfl⟩, fun j' hj hd => ?_⟩
      by_cases e : j' = j
      · rw [e]; exact Int.le_refl _
      · rcases H.lo with ⟨h1, h2⟩ | ⟨h1, h2, ⟨j'', h3, h4⟩, h5⟩
        · have := h2 j' (by omega); omega
        · have := h5 j' (by omega) hd; omega
    · rcases H.lo with ⟨h1, h2⟩ | ⟨h1, h2, ⟨j'', h3, h4⟩, h5⟩
      · exact absurd h1 hc
      · refine ⟨h1, h2, ⟨j'', by omega, h4⟩, fun j' hj hd => ?_⟩
        by_cases e : j' = j
        · rw [e]; exact hc2
        · exact h5 j' (by omega) hd

theorem IsDist.pos {G : Gr} {n t : Nat} {d : Nat → Int} (H : IsDist G n t d) {u : Nat} (hu : u < n) : 0 ≤ d u ↔ G.R u t := by
  rcases H u hu with ⟨a, b⟩ | ⟨k, a, b, _⟩
  · exact ⟨fun h => by omega, fun h => by obtain ⟨m, hm⟩ := h.w; exact absurd hm (b m)⟩
  · exact ⟨fun _ => b.r, fun _ => by omega⟩

theorem IsDist.eq {G : Gr} {n t : Nat} {d : Nat → Int} (H : IsDist G n t d) {u : Nat} (hu : u < n) (k : Nat) : d u = k ↔ G.W t k u ∧ G.dge t u k := by
  rcases H u hu with ⟨a, b⟩ | ⟨k', a, b, c⟩
  · exact ⟨fun h => by omega, fun h => absurd h.1 (b _)⟩
  · constructor
    · intro h
      have : k = k' := by omega
      subst this
      exact ⟨b, c⟩
    · rintro ⟨h1, h2⟩
      have := h2 k' b
      have := c k h1
      omega

theorem MS.fin_on {G : Gr} {d : Nat → Int} {n k : Nat} {Lc : Int} {b : Bool} (H : MS G d n k (G.ol k) Lc b) (hd : IsDist G n k d) (hG : G.In n) (hk : k < n) : b = true ↔ G.On k := by
  refine H.on.trans ⟨fun ⟨j, h1, h2, h3⟩ => ⟨_, ⟨j, h1, rfl⟩, h2, ?_⟩, fun ⟨y, ⟨j, h1, e⟩, h2, h3⟩ => ⟨j, h1, ?_, ?_⟩⟩
  · exact (hd.pos (hG _ _ hk ⟨j, h1, rfl⟩)).1 h3
  · rw [e]; exact h2
  · rw [e]; exact (hd.pos (hG _ _ hk ⟨j, h1, e⟩)).2 h3

theorem MS.fin_L {G : Gr} {d : Nat → Int} {n s L : Nat} {Lc : Int} {b : Bool} {p : Nat → Nat} (H : MS G d n s (G.ol s) Lc b) (hd : IsDist G n s d) (hG : G.In n) (hs : s < n) (P : GP G s L p) : Lc = L := by
  have l1 := P.l1
  have hw := P.far (k := 0) (by omega)
  rw [P.p0] at hw
  obtain ⟨m, rfl⟩ : ∃ m, L = m + 1 := ⟨L - 1, by omega⟩
  obtain ⟨y, ⟨j, hj, rfl⟩, hy⟩ := hw
  have hdy := (hd.eq (hG _ _ hs ⟨j, hj, rfl⟩) m).2 ⟨hy, P.base _ ⟨j, hj, rfl⟩⟩
  rcases H.lo with ⟨h1, h2⟩ | ⟨h1, h2, ⟨j', h3, h4, h5⟩, h6⟩
  · have := h2 j hj; omega
  · have a := h6 j hj (by omega)
    rcases hd _ (hG _ _ hs ⟨j', h3, rfl⟩) with ⟨b1, _⟩ | ⟨k', b1, b2, _⟩
    · omega
    · have := P.base _ ⟨j', h3, rfl⟩ k' b2
      omega

structure NS (G : Gr) (d : Nat → Int) (cur j : Nat) (r x : Int) : Prop where
  h : (x = -1 ∧ ∀ j', j' < j → d (G.of cur j') ≠ r) ∨ ∃ y : Nat, x = y ∧ (∃ j', j' < j ∧ G.of cur j' = y) ∧ d y = r ∧ ∀ j', j' < j → d (G.of cur j') = r → y ≤ G.of cur j'

theorem NS.init (G : Gr) (d : Nat → Int) (cur : Nat) (r : Int) : NS G d cur 0 r (-1) := ⟨.inl ⟨rfl, fun j' h => by omega⟩⟩

theorem NS.skip {G : Gr} {d : Nat → Int} {cur j : Nat} {r x : Int} (H : NS G d cur j r x) (h : d (G.of cur j) ≠ r) : NS G d cur (j + 1) r x := by
  rcases H.h with ⟨h1, h2⟩ | ⟨y, h1, ⟨j', h2, h3⟩, h4, h5⟩
  · refine ⟨.inl ⟨h1, fun j' hj => ?_⟩⟩
    by_cases e : j' = j
    · rw [e]; exact h
    · exact h2 j' (by omega)
  · refine ⟨.inr ⟨y, h1, ⟨j', by omega, h3⟩, h4, fun j'' hj hd => ?_⟩⟩
    by_cases e : j'' = j
    · rw [e] at hd; exact absurd hd h
    · exact h5 j'' (by omega) hd

theorem NS.take {G : Gr} {d : Nat → Int} {cur j : Nat} {r x : Int} (H : NS G d cur j r x) (h : d (G.of cur j) = r) (hx : x < 0 ∨ (G.of cur j : Int) < x) : NS G d cur (j + 1) r (G.of cur j : Int) := by
  refine ⟨.inr ⟨_, rfl, ⟨j, by omega, rfl⟩, h, fun j' hj hd => ?_⟩⟩
  by_cases e : j' = j
  · rw [e]; exact Nat.le_refl _
  · rcases H.h with ⟨h1, h2⟩ | ⟨y, h1, ⟨_, h2, h3⟩, h4, h5⟩
    · exact absurd hd (h2 _ (by omega))
    · have := h5 _ (by omega) hd
      omega

theorem NS.stay {G : Gr} {d : Nat → Int} {cur j : Nat} {r x : Int} (H : NS G d cur j r x) (h0 : ¬ x < 0) (hx : ¬ (G.of cur j : Int) < x) : NS G d cur (j + 1) r x := by
  rcases H.h with ⟨h1, h2⟩ | ⟨y, h1, ⟨j', h2, h3⟩, h4, h5⟩
  · omega
  · refine ⟨.inr ⟨y, h1, ⟨j', by omega, h3⟩, h4, fun j'' hj hd => ?_⟩⟩
    by_cases e : j'' = j
    · rw [e]; omega
    · exact h5 j'' (by omega) hd

theorem NS.fin {G : Gr} {d : Nat → Int} {n s cur r z : Nat} {x : Int} (H : NS G d cur (G.ol cur) r x) (hd : IsDist G n s d) (hG : G.In n) (hc : cur < n) (hz : IsNext G s cur r z) : x = z := by
  obtain ⟨⟨j, hj, rfl⟩, hw, hl⟩ := hz
  have dz := (hd.eq (hG _ _ hc ⟨j, hj, rfl⟩) r).2 hw
  rcases H.h with ⟨h1, h2⟩ | ⟨y, h1, ⟨j', h2, rfl⟩, h4, h5⟩
  · exact absurd dz (h2 j hj)
  · have a := h5 j hj dz
    obtain ⟨b1, b2⟩ := (hd.eq (hG _ _ hc ⟨j', h2, rfl⟩) r).1 h4
    have := hl _ ⟨j', h2, rfl⟩ b1 b2
    omega
end Go.Proofs.Qxb6605452a
