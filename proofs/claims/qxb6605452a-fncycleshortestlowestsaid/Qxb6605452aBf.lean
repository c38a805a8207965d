/-
  Distances and the least shortest cycle, over plain functions: no Go here.
-/
import Derived.Test.Qxb6605452aTm
namespace Go.Proofs.Qxb6605452a

/-- A way of m edges from u to t. -/
def Gr.W (G : Gr) (t : Nat) : Nat → Nat → Prop
  | 0, u => u = t
  | m + 1, u => ∃ v, G.E u v ∧ G.W t m v

theorem Gr.W.r {G : Gr} {t : Nat} : ∀ {m u : Nat}, G.W t m u → G.R u t
  | 0, _, h => by cases h; exact .refl _
  | _ + 1, _, ⟨_, e, h⟩ => .step e h.r

theorem Gr.R.w {G : Gr} {u t : Nat} (h : G.R u t) : ∃ m, G.W t m u := by
  induction h with
  | refl => exact ⟨0, rfl⟩
  | step e _ ih => obtain ⟨m, hm⟩ := ih; exact ⟨m + 1, _, e, hm⟩

/-- d tells the distances to t. -/
def IsDist (G : Gr) (n t : Nat) (d : Nat → Int) : Prop := ∀ u, u < n → (d u = -1 ∧ ∀ m, ¬ G.W t m u) ∨ ∃ k : Nat, d u = k ∧ G.W t k u ∧ ∀ m, G.W t m u → k ≤ m

/-- Every successor is a node. -/
def Gr.In (G : Gr) (n : Nat) : Prop := ∀ u w, u < n → G.E u w → w < n

/-! ### the search for distances -/

/-- The search: the queue q up to tail, head being looked at, the first j of its list done. -/
structure Ds (G T : Gr) (n t : Nat) (d : Nat → Int) (q : Nat → Nat) (head tail j : Nat) : Prop where
  q0 : 0 < tail ∧ q 0 = t
  dt : d t = 0
  dq : ∀ i, i < tail → q i < n ∧ ∃ k : Nat, d (q i) = k ∧ G.W t k (q i)
  un : ∀ u, u < n → (∃ i, i < tail ∧ q i = u) ∨ d u = -1
  so : ∀ i i', i ≤ i' → i' < tail → d (q i) ≤ d (q i')
  near : head < tail → ∀ i, i < tail → d (q i) ≤ d (q head) + 1
  done : ∀ i, i < head → i < tail → ∀ u, T.E (q i) u → (∃ i', i' < tail ∧ q i' = u) ∧ d u ≤ d (q i) + 1
  part : head < tail → ∀ j', j' < j → (∃ i', i' < tail ∧ q i' = T.of (q head) j') ∧ d (T.of (q head) j') ≤ d (q head) + 1
  ht : head ≤ tail
  cnt : tail + sumTo n (fun u => if d u = -1 then 1 else 0) = n

theorem Ds.tail_le {G T : Gr} {n t : Nat} {d : Nat → Int} {q : Nat → Nat} {head tail j : Nat} (H : Ds G T n t d q head tail j) : tail ≤ n := by have := H.cnt; omega

theorem Ds.init (G T : Gr) {n t : Nat} (ht : t < n) (q : Nat → Nat) (hq : q 0 = t) : Ds G T n t (fun u => if u = t then 0 else -1) q 0 1 0 := by
  refine ⟨⟨by omega, hq⟩, by simp, ?_, ?_, ?_, ?_, ?_, ?_, by omega, ?_⟩
  · intro i hi
    obtain rfl : i = 0 := by omega
    rw [hq]
    exact ⟨ht, 0, by simp, rfl⟩
  · intro u _
    by_cases e : u = t
    · exact .inl ⟨0, by omega, by rw [hq, e]⟩
    · exact .inr (by simp [e])
  · intro i i' h h'
    obtain rfl : i' = 0 := by omega
    obtain rfl : i = 0 := by omega
    exact Int.le_refl _
  · intro _ i hi
    obtain rfl : i = 0 := by omega
    omega
  · intro i h; omega
  · intro _ j' h; omega
  · have := sumTo_one (n := n) (f := fun u => if (if u = t then (0 : Int) else -1) = -1 then 1 else 0) (g := fun _ => 1) ht fun i _ hne => by simp [hne]
    rw [sumTo_ones] at this
    rw [show (if (if t = t then (0 : Int) else -1) = -1 then 1 else 0) = 0 by simp] at this
    omega

/-- The list's next is known already. -/
theorem Ds.skip {G T : Gr} {n t : Nat} {d : Nat → Int} {q : Nat → Nat} {head tail j : Nat} (H : Ds G T n t d q head tail j) (h0 : head < tail) (hu : T.of (q head) j < n) (hd : ¬ d (T.of (q head) j) < 0) : Ds G T n t d q head tail (j + 1) := by
  refine ⟨H.q0, H.dt, H.dq, H.un, H.so, H.near, H.done, fun _ j' hj' => ?_, H.ht, H.cnt⟩
  by_cases e : j' = j
  · subst e
    rcases H.un _ hu with ⟨i, hi, he⟩ | h
    · refine ⟨⟨i, hi, he⟩, ?_⟩
      rw [← he]; exact H.near h0 i hi
    · omega
  · exact H.part h0 j' (by omega)

/-- The list's next is new. -/
theorem Ds.found {G T : Gr} {n t : Nat} {d d' : Nat → Int} {q q' : Nat → Nat} {head tail j : Nat} (H : Ds G T n t d q head tail j) (h0 : head < tail) (hu : T.of (q head) j < n) (he : G.E (T.of (q head) j) (q head)) (hd : d (T.of (q head) j) < 0)
    (hd' : ∀ x, d' x = if x = T.of (q head) j then d (q head) + 1 else d x) (hq' : ∀ i, q' i = if i = tail then T.of (q head) j else q i) : Ds G T n t d' q' head (tail + 1) (j + 1) := by
  obtain ⟨u, hue⟩ : ∃ u, u = T.of (q head) j := ⟨_, rfl⟩
  rw [← hue] at hu he hd hd' hq'
  have ne : ∀ i, i < tail → q i ≠ u := by
    intro i hi e
    obtain ⟨_, k, hk, _⟩ := H.dq i hi
    rw [e] at hk; omega
  have un1 : d u = -1 := by
    rcases H.un u hu with ⟨i, hi, e⟩ | h
    · exact absurd e (ne i hi)
    · exact h
  have qo : ∀ i, i < tail → q' i = q i := fun i hi => by rw [hq', if_neg (by omega)]
  have dold : ∀ i, i < tail → d' (q i) = d (q i) := fun i hi => by rw [hd', if_neg (ne i hi)]
  have qt : q' tail = u := by rw [hq', if_pos rfl]
  have du : d' u = d (q head) + 1 := by rw [hd', if_pos rfl]
  refine ⟨⟨by omega, by rw [qo 0 H.q0.1]; exact H.q0.2⟩, ?_, ?_, ?_, ?_, ?_, ?_, ?_, by have := H.ht; omega, ?_⟩
  · have := ne 0 H.q0.1
    rw [H.q0.2] at this
    rw [hd', if_neg this]; exact H.dt
  · intro i hi
    by_cases e : i = tail
    · rw [e, qt]
      obtain ⟨_, k, hk, hw⟩ := H.dq head h0
      exact ⟨hu, k + 1, by rw [du, hk]; omega, _, he, hw⟩
    · rw [qo i (by omega), dold i (by omega)]; exact H.dq i (by omega)
  · intro x hx
    by_cases e : x = u
    · exact .inl ⟨tail, by omega, by rw [qt, e]⟩
    · rcases H.un x hx with ⟨i, hi, hq⟩ | h
      · exact .inl ⟨i, by omega, by rw [qo i hi]; exact hq⟩
      · exact .inr (by rw [hd', if_neg e]; exact h)
  · intro i i' hii hi'
    by_cases e : i' = tail
    · rw [e, qt, du]
      by_cases e2 : i = tail
      · rw [e2, qt, du]; exact Int.le_refl _
      · rw [qo i (by omega), dold i (by omega)]; exact H.near h0 i (by omega)
    · rw [qo i (by omega), qo i' (by omega), dold i (by omega), dold i' (by omega)]; exact H.so i i' hii (by omega)
  · intro _ i hi
    rw [qo head h0, dold head h0]
    by_cases e : i = tail
    · rw [e, qt, du]; exact Int.le_refl _
    · rw [qo i (by omega), dold i (by omega)]; exact H.near h0 i (by omega)
  · intro i hi hit x hx
    rw [qo i (by omega)] at hx ⊢
    rw [dold i (by omega)]
    obtain ⟨⟨i', h1, h2⟩, h3⟩ := H.done i hi (by omega) x hx
    refine ⟨⟨i', by omega, by rw [qo i' h1]; exact h2⟩, ?_⟩
    have := ne i' h1
    rw [h2] at this
    rw [hd', if_neg this]; exact h3
  · intro _ j' hj'
    rw [qo head h0, dold head h0]
    by_cases e : j' = j
    · subst e
      rw [← hue]
      exact ⟨⟨tail, by omega, qt⟩, by rw [du]; exact Int.le_refl _⟩
    · obtain ⟨⟨i', h1, h2⟩, h3⟩ := H.part h0 j' (by omega)
      refine ⟨⟨i', by omega, by rw [qo i' h1]; exact h2⟩, ?_⟩
      have := ne i' h1
      rw [h2] at this
      rw [hd', if_neg this]; exact h3
  · have := sumTo_one (n := n) (f := fun x => if d' x = -1 then 1 else 0) (g := fun x => if d x = -1 then 1 else 0) hu fun i _ hne => by simp [hd', hne]
    have a : ¬ d' u = -1 := by
      obtain ⟨_, k, hk, _⟩ := H.dq head h0
      rw [du, hk]; omega
    simp only [un1, if_true, if_neg a] at this
    have := H.cnt
    omega

/-- The list is done. -/
theorem Ds.next {G T : Gr} {n t : Nat} {d : Nat → Int} {q : Nat → Nat} {head tail : Nat} (H : Ds G T n t d q head tail (T.ol (q head))) (h0 : head < tail) : Ds G T n t d q (head + 1) tail 0 := by
  refine ⟨H.q0, H.dt, H.dq, H.un, H.so, ?_, ?_, fun _ j' h => by omega, by omega, H.cnt⟩
  · intro h1 i hi
    have := H.near h0 i hi
    have := H.so head (head + 1) (by omega) h1
    omega
  · intro i hi hit u hu
    by_cases e : i = head
    · subst e
      obtain ⟨j', hj', rfl⟩ := hu
      exact H.part h0 j' hj'
    · exact H.done i (by omega) hit u hu

theorem Ds.fin {G T : Gr} {n t : Nat} {d : Nat → Int} {q : Nat → Nat} {head tail : Nat} (H : Ds G T n t d q head tail 0) (h0 : ¬ head < tail) (hG : G.In n) (hT : ∀ u w, u < n → G.E u w → T.E w u) : IsDist G n t d := by
  have key : ∀ m u, u < n → G.W t m u → (∃ i, i < tail ∧ q i = u) ∧ d u ≤ m := by
    intro m
    induction m with
    | zero =>
      intro u hu hw
      have hw : u = t := hw
      rw [hw]
      exact ⟨⟨0, H.q0⟩, by rw [H.dt]; exact Int.le_refl _⟩
    | succ m ih =>
      rintro u hu ⟨v, he, hw⟩
      obtain ⟨⟨i, hi, rfl⟩, hd⟩ := ih v (hG u v hu he) hw
      obtain ⟨a, b⟩ := H.done i (by omega) hi u (hT u _ hu he)
      exact ⟨a, by omega⟩
  intro u hu
  rcases H.un u hu with ⟨i, hi, rfl⟩ | h
  · obtain ⟨_, k, hk, hw⟩ := H.dq i hi
    exact .inr ⟨k, hk, hw, fun m hm => by have := (key m _ hu hm).2; omega⟩
  · refine .inl ⟨h, fun m hm => ?_⟩
    obtain ⟨⟨i, hi, rfl⟩, _⟩ := key m u hu hm
    obtain ⟨_, k, hk, _⟩ := H.dq i hi
    omega
end Go.Proofs.Qxb6605452a
