import Derived.Test.Qxb6605452aBf
namespace Go.Proofs.Qxb6605452a

/-- No way from x to s is shorter than m. -/
def Gr.dge (G : Gr) (s x m : Nat) : Prop := ∀ j, G.W s j x → m ≤ j

theorem Gr.dge.step {G : Gr} {s x y m : Nat} (h : G.dge s x (m + 1)) (e : G.E x y) : G.dge s y m := fun j hj => by
  have := h (j + 1) ⟨y, e, hj⟩
  omega

theorem Gr.dge.mono {G : Gr} {s x m m' : Nat} (h : G.dge s x m) (hm : m' ≤ m) : G.dge s x m' := fun j hj => Nat.le_trans hm (h j hj)
theorem Gr.dge.ne {G : Gr} {s x m : Nat} (h : G.dge s x (m + 1)) : x ≠ s := fun e => by
  have := h 0 e
  omega

/-- The least shortest cycle through s: its nodes p 0 = s, .., p (L - 1). -/
structure GP (G : Gr) (s L : Nat) (p : Nat → Nat) : Prop where
  l1 : 1 ≤ L
  p0 : p 0 = s
  edge : ∀ k, k + 1 < L → G.E (p k) (p (k + 1))
  last : G.E (p (L - 1)) s
  ge : ∀ k, 1 ≤ k → k < L → G.dge s (p k) (L - k)
  base : ∀ y, G.E s y → G.dge s y (L - 1)
  least : ∀ k, k + 1 < L → ∀ y, G.E (p k) y → y < p (k + 1) → G.dge s y (L - k)

theorem GP.reach {G : Gr} {s L : Nat} {p : Nat → Nat} (H : GP G s L p) : ∀ k, k < L → G.R s (p k) := by
  intro k
  induction k with
  | zero => intro _; rw [H.p0]; exact .refl _
  | succ k ih => intro h; exact (ih (by omega)).trans (.edge (H.edge k h))

theorem GP.way {G : Gr} {s L : Nat} {p : Nat → Nat} (H : GP G s L p) : ∀ m k, k + m + 1 = L → G.W s (m + 1) (p k) := by
  intro m
  induction m with
  | zero => intro k h; refine ⟨s, ?_, rfl⟩; rw [show k = L - 1 by omega]; exact H.last
  | succ m ih => intro k h; exact ⟨_, H.edge k (by omega), ih (k + 1) (by omega)⟩

theorem GP.back {G : Gr} {s L : Nat} {p : Nat → Nat} (H : GP G s L p) (k : Nat) (h : k < L) : G.R (p k) s := (H.way (L - k - 1) k (by omega)).r

/-- The next node's distance to s: exactly L - k. -/
theorem GP.far {G : Gr} {s L : Nat} {p : Nat → Nat} (H : GP G s L p) {k : Nat} (h : k < L) : G.W s (L - k) (p k) := by
  have := H.way (L - k - 1) k (by omega)
  rwa [show L - k - 1 + 1 = L - k by omega] at this

theorem GP.sub {G : Gr} {s L : Nat} {p : Nat → Nat} (H : GP G s L p) {k : Nat} (h : k < L) {y : Nat} (e : G.E (p k) y) : G.dge s y (L - k - 1) := by
  by_cases k0 : k = 0
  · subst k0; rw [H.p0] at e; exact H.base y e
  · exact Gr.dge.step (by rw [show L - k - 1 + 1 = L - k by omega]; exact H.ge k (by omega) h) e

/-! ### the search inside the component -/

/-- The parents found so far lead back along p. -/
def Chain (p : Nat → Nat) (k : Nat) (par : Nat → Int) : Prop := ∀ j, 1 ≤ j → j ≤ k → par (p j) = p (j - 1)

theorem Chain.set {p : Nat → Nat} {k : Nat} {par par' : Nat → Int} (h : Chain p k par) {w : Nat} (hw : par w = -1) (v : Int) (hp : ∀ x, par' x = if x = w then v else par x) : Chain p k par' := by
  intro j h1 h2
  have a := h j h1 h2
  have : p j ≠ w := fun e => by rw [e, hw] at a; omega
  rw [hp, if_neg this]; exact a

/-- p k waits in the queue (q a .. q (b - 1)) at place c. -/
structure BSt (G : Gr) (s L : Nat) (p : Nat → Nat) (k a b c : Nat) (q : Nat → Nat) (par : Nat → Int) : Prop where
  kl : k < L
  ac : a ≤ c
  cb : c < b
  qc : q c = p k
  fore : ∀ i, a ≤ i → i < c → G.dge s (q i) (L - k + 1)
  aft : ∀ i, c < i → i < b → par (q i) ≠ -1
  dis : ∀ y, par y ≠ -1 → G.dge s y (L - k)
  ch : Chain p k par

/-- p k is being looked at: the rest of the queue. -/
structure BPt (G : Gr) (s L : Nat) (p : Nat → Nat) (k a b : Nat) (q : Nat → Nat) (par : Nat → Int) : Prop where
  kl : k < L
  ab : a ≤ b
  rest : ∀ i, a ≤ i → i < b → par (q i) ≠ -1
  dis : ∀ y, par y ≠ -1 → G.dge s y (L - k)
  ch : Chain p k par

theorem BSt.init {G : Gr} {s L : Nat} {p : Nat → Nat} (H : GP G s L p) (q : Nat → Nat) (hq : q 0 = s) (par : Nat → Int) (hp : ∀ y, par y = -1) : BSt G s L p 0 0 1 0 q par :=
  ⟨H.l1, by omega, by omega, by rw [hq, H.p0], fun i h1 h2 => by omega, fun i h1 h2 => by omega, fun y h => absurd (hp y) h, fun j h1 h2 => by omega⟩

/-- A node ahead of p k is taken. -/
theorem BSt.pop {G : Gr} {s L : Nat} {p : Nat → Nat} {k a b c : Nat} {q : Nat → Nat} {par : Nat → Int} (H : BSt G s L p k a b c q par) (h : a < c) : BSt G s L p k (a + 1) b c q par :=
  ⟨H.kl, by omega, H.cb, H.qc, fun i h1 h2 => H.fore i (by omega) h2, H.aft, H.dis, H.ch⟩

/-- p k is taken. -/
theorem BSt.take {G : Gr} {s L : Nat} {p : Nat → Nat} {k a b c : Nat} {q : Nat → Nat} {par : Nat → Int} (H : BSt G s L p k a b c q par) (h : a = c) : BPt G s L p k (a + 1) b q par :=
  ⟨H.kl, by have := H.cb; omega, fun i h1 h2 => H.aft i (by omega) h2, H.dis, H.ch⟩

theorem BSt.enq {G : Gr} {s L : Nat} {p : Nat → Nat} {k a b c : Nat} {q q' : Nat → Nat} {par par' : Nat → Int} (H : BSt G s L p k a b c q par) {w : Nat} (hw : par w = -1) (hd : G.dge s w (L - k)) (v : Nat)
    (hp : ∀ x, par' x = if x = w then (v : Int) else par x) (hq : ∀ i, q' i = if i = b then w else q i) : BSt G s L p k a (b + 1) c q' par' := by
  have cb := H.cb
  refine ⟨H.kl, H.ac, by omega, by rw [hq, if_neg (by omega)]; exact H.qc, ?_, ?_, ?_, H.ch.set hw v hp⟩
  · intro i h1 h2
    rw [hq, if_neg (by omega)]; exact H.fore i h1 h2
  · intro i h1 h2
    by_cases e : i = b
    · rw [hq, if_pos e, hp, if_pos rfl]; omega
    · rw [hq, if_neg e, hp]
      split
      · omega
      · exact H.aft i h1 (by omega)
  · intro y hy
    rw [hp] at hy
    by_cases e : y = w
    · rw [e]; exact hd
    · rw [if_neg e] at hy; exact H.dis y hy

theorem BPt.enq {G : Gr} {s L : Nat} {p : Nat → Nat} {k a b : Nat} {q q' : Nat → Nat} {par par' : Nat → Int} (H : BPt G s L p k a b q par) {w : Nat} (hw : par w = -1) (hd : G.dge s w (L - k)) (v : Nat)
    (hp : ∀ x, par' x = if x = w then (v : Int) else par x) (hq : ∀ i, q' i = if i = b then w else q i) : BPt G s L p k a (b + 1) q' par' := by
  have ab := H.ab
  refine ⟨H.kl, by omega, ?_, ?_, H.ch.set hw v hp⟩
  · intro i h1 h2
    by_cases e : i = b
    · rw [hq, if_pos e, hp, if_pos rfl]; omega
    · rw [hq, if_neg e, hp]
      split
      · omega
      · exact H.rest i h1 (by omega)
  · intro y hy
    rw [hp] at hy
    by_cases e : y = w
    · rw [e]; exact hd
    · rw [if_neg e] at hy; exact H.dis y hy

/-- p (k + 1) is not yet known while p k is looked at. -/
theorem BPt.fresh {G : Gr} {s L : Nat} {p : Nat → Nat} {k a b : Nat} {q : Nat → Nat} {par : Nat → Int} (H : BPt G s L p k a b q par) (P : GP G s L p) (hk : k + 1 < L) : par (p (k + 1)) = -1 := by
  by_cases h : par (p (k + 1)) = -1
  · exact h
  · have := H.dis _ h (L - (k + 1)) (P.far hk)
    omega

/-- p (k + 1) is found. -/
theorem BPt.find {G : Gr} {s L : Nat} {p : Nat → Nat} {k a b : Nat} {q q' : Nat → Nat} {par par' : Nat → Int} (H : BPt G s L p k a b q par) (P : GP G s L p) (hk : k + 1 < L)
    (hp : ∀ x, par' x = if x = p (k + 1) then (p k : Int) else par x) (hq : ∀ i, q' i = if i = b then p (k + 1) else q i) : BSt G s L p (k + 1) a (b + 1) b q' par' := by
  have fr := H.fresh P hk
  refine ⟨hk, H.ab, by omega, by rw [hq, if_pos rfl], ?_, fun i h1 h2 => by omega, ?_, ?_⟩
  · intro i h1 h2
    rw [hq, if_neg (by omega)]
    exact (H.dis _ (H.rest i h1 h2)).mono (by omega)
  · intro y hy
    rw [hp] at hy
    by_cases e : y = p (k + 1)
    · rw [e]; exact P.ge (k + 1) (by omega) hk
    · rw [if_neg e] at hy; exact (H.dis y hy).mono (by omega)
  · have c := H.ch.set fr (p k : Int) hp
    intro j h1 h2
    by_cases e : j = k + 1
    · subst e; rw [hp, if_pos rfl]; rfl
    · exact c j h1 (by omega)

/-! ### the path exists -/

/-- The least w with q w, where there is one. -/
theorem least_of {q : Nat → Prop} (h : ∃ w, q w) : ∃ w, q w ∧ ∀ y, q y → w ≤ y := by
  obtain ⟨w, hw⟩ := h
  induction w using Nat.strongRecOn with
  | _ w ih =>
    by_cases hx : ∃ y, y < w ∧ q y
    · obtain ⟨y, hy, hq⟩ := hx; exact ih y hy hq
    · exact ⟨w, hw, fun y hy => by
        by_cases e : w ≤ y
        · exact e
        · exact absurd ⟨y, by omega, hy⟩ hx⟩

/-- One step of the greedy walk. -/
def IsNext (G : Gr) (s cur r w : Nat) : Prop := G.E cur w ∧ (G.W s r w ∧ G.dge s w r) ∧ ∀ y, G.E cur y → G.W s r y → G.dge s y r → w ≤ y

open Classical in
theorem gp_exists {G : Gr} {s L : Nat} (h1 : 1 ≤ L) (hw : G.W s L s) (hb : ∀ y, G.E s y → G.dge s y (L - 1)) : ∃ p, GP G s L p ∧ ∀ k, k + 1 < L → IsNext G s (p k) (L - 1 - k) (p (k + 1)) := by
  obtain ⟨f, hf⟩ : ∃ f : Nat → Nat → Nat, ∀ cur r, (∃ w, G.E cur w ∧ G.W s r w ∧ G.dge s w r) → IsNext G s cur r (f cur r) := by
    refine ⟨fun cur r => if h : ∃ w, G.E cur w ∧ G.W s r w ∧ G.dge s w r then Classical.choose (least_of h) else 0, fun cur r h => ?_⟩
    simp only [dif_pos h]
    have := Classical.choose_spec (least_of h)
    exact ⟨this.1.1, this.1.2, fun y a b c => this.2 y ⟨a, b, c⟩⟩
  obtain ⟨p, p0, ps⟩ : ∃ p : Nat → Nat, p 0 = s ∧ ∀ k, p (k + 1) = f (p k) (L - 1 - k) := ⟨fun k => Nat.rec s (fun k x => f x (L - 1 - k)) k, rfl, fun _ => rfl⟩
  have key : ∀ k, k + 1 < L → IsNext G s (p k) (L - 1 - k) (p (k + 1)) := by
    intro k
    induction k with
    | zero =>
      intro h
      rw [ps]
      refine hf _ _ ?_
      rw [p0]
      obtain ⟨m, rfl⟩ : ∃ m, L = m + 1 := ⟨L - 1, by omega⟩
      obtain ⟨w, e, hw'⟩ := hw
      exact ⟨w, e, hw', hb w e⟩
    | succ k ih =>
      intro h
      have := ih (by omega)
      rw [ps (k + 1)]
      refine hf _ _ ?_
      obtain ⟨_, ⟨a, b⟩, _⟩ := this
      obtain ⟨m, hm⟩ : ∃ m, L - 1 - k = m + 1 := ⟨L - 1 - k - 1, by omega⟩
      rw [hm] at a b
      obtain ⟨w, e, hw'⟩ := a
      have : L - 1 - (k + 1) = m := by omega
      rw [this]
      exact ⟨w, e, hw', b.step e⟩
  refine ⟨p, ⟨h1, p0, fun k h => (key k h).1, ?_, ?_, hb, ?_⟩, key⟩
  · by_cases e : L = 1
    · subst e
      obtain ⟨w, e, rfl⟩ := hw
      rw [show 1 - 1 = 0 from rfl, p0]; exact e
    · have := (key (L - 2) (by omega)).2.1.1
      rw [show L - 2 + 1 = L - 1 by omega, show L - 1 - (L - 2) = 1 by omega] at this
      obtain ⟨w, e, rfl⟩ := this
      exact e
  · intro k h1 h2
    have := (key (k - 1) (by omega)).2.1.2
    rw [show k - 1 + 1 = k by omega, show L - 1 - (k - 1) = L - k by omega] at this
    exact this
  · intro k h y e hlt j hj
    have hn := key k h
    have hd : G.dge s y (L - 1 - k) := by
      by_cases k0 : k = 0
      · subst k0; rw [p0] at e; exact hb y e
      · have := (key (k - 1) (by omega)).2.1.2
        rw [show k - 1 + 1 = k by omega, show L - 1 - (k - 1) = L - 1 - k + 1 by omega] at this
        exact this.step e
    have := hd j hj
    by_cases ej : j = L - 1 - k
    · subst ej
      have := hn.2.2 y e hj hd
      omega
    · omega
end Go.Proofs.Qxb6605452a
