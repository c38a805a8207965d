/-
  PLAIN: run sets: lists of pairs (from, to), ascending, none touching the next; the positions they hold; a list is told by its positions.
-/
namespace Go.Proofs.Qxb6605208a.UP

abbrev Span := Int × Int

/-- The position k lies in a run of l. -/
def mem (k : Int) (l : List Span) : Prop := ∃ p ∈ l, p.1 ≤ k ∧ k ≤ p.2

/-- Each run has from ≤ to, and its ends fit an int, the greatest int left out. -/
def Fit (p : Span) : Prop := -9223372036854775808 ≤ p.1 ∧ p.1 ≤ p.2 ∧ p.2 ≤ 9223372036854775806

/-- Well formed: ascending, each run at least two past the end of the one before. -/
def Canon (l : List Span) : Prop := (∀ p ∈ l, Fit p) ∧ l.Pairwise (fun p q => p.2 + 1 < q.1)

theorem Canon.nil : Canon [] := ⟨fun _ h => absurd h List.not_mem_nil, List.Pairwise.nil⟩

theorem Canon.tail {p : Span} {r : List Span} (h : Canon (p :: r)) : Canon r :=
  ⟨fun q hq => h.1 q (List.mem_cons_of_mem _ hq), (List.pairwise_cons.1 h.2).2⟩

theorem Canon.head_lt {p : Span} {r : List Span} (h : Canon (p :: r)) : ∀ q ∈ r, p.2 + 1 < q.1 := (List.pairwise_cons.1 h.2).1

theorem Canon.head_le {p : Span} {r : List Span} (h : Canon (p :: r)) : ∀ q ∈ p :: r, p.1 ≤ q.1 := by
  intro q hq
  rcases List.mem_cons.1 hq with rfl | hq
  · exact Int.le_refl _
  · have := h.head_lt q hq
    have := h.1 p List.mem_cons_self
    unfold Fit at this; omega

/-- The least position is the first run's start. -/
theorem head_fst {p q : Span} {r s : List Span} (hp : Canon (p :: r)) (hq : Canon (q :: s)) (h : ∀ k, mem k (p :: r) → mem k (q :: s)) : q.1 ≤ p.1 := by
  have hf := hp.1 p List.mem_cons_self
  obtain ⟨x, hx, h1, _⟩ := h p.1 ⟨p, List.mem_cons_self, Int.le_refl _, hf.2.1⟩
  have := hq.head_le x hx
  omega

theorem head_snd {p q : Span} {r s : List Span} (hp : Canon (p :: r)) (e : p.1 = q.1) (h : ∀ k, mem k (q :: s) → mem k (p :: r)) : q.2 ≤ p.2 := by
  have fp := hp.1 p List.mem_cons_self
  unfold Fit at fp
  by_cases c : q.2 ≤ p.2
  · exact c
  · exfalso
    obtain ⟨x, hx, h1, h2⟩ := h (p.2 + 1) ⟨q, List.mem_cons_self, by omega, by omega⟩
    rcases List.mem_cons.1 hx with rfl | hx
    · omega
    · have := hp.head_lt x hx; omega

theorem tail_mem {p q : Span} {r s : List Span} (hp : Canon (p :: r)) (e : p = q) (h : ∀ k, mem k (p :: r) → mem k (q :: s)) : ∀ k, mem k r → mem k s := by
  subst e
  intro k ⟨x, hx, h1, h2⟩
  obtain ⟨y, hy, h3, h4⟩ := h k ⟨x, List.mem_cons_of_mem _ hx, h1, h2⟩
  rcases List.mem_cons.1 hy with rfl | hy
  · have := hp.head_lt x hx; omega
  · exact ⟨y, hy, h3, h4⟩

/-- A run set is told by its positions. -/
theorem canon_unique : ∀ {l m : List Span}, Canon l → Canon m → (∀ k, mem k l ↔ mem k m) → l = m
  | [], [], _, _, _ => rfl
  | [], q :: s, _, hm, h => by
    have hf := hm.1 q List.mem_cons_self
    obtain ⟨x, hx, _⟩ := (h q.1).2 ⟨q, List.mem_cons_self, Int.le_refl _, hf.2.1⟩
    exact absurd hx List.not_mem_nil
  | p :: r, [], hl, _, h => by
    have hf := hl.1 p List.mem_cons_self
    obtain ⟨x, hx, _⟩ := (h p.1).1 ⟨p, List.mem_cons_self, Int.le_refl _, hf.2.1⟩
    exact absurd hx List.not_mem_nil
  | p :: r, q :: s, hl, hm, h => by
    have e1 : p.1 = q.1 := Int.le_antisymm (head_fst hm hl fun k => (h k).2) (head_fst hl hm fun k => (h k).1)
    have e2 : p.2 = q.2 := Int.le_antisymm (head_snd hm e1.symm fun k => (h k).1) (head_snd hl e1 fun k => (h k).2)
    have e : p = q := Prod.ext e1 e2
    rw [e, canon_unique hl.tail hm.tail fun k => ⟨tail_mem hl e (fun k => (h k).1) k, tail_mem hm e.symm (fun k => (h k).2) k⟩]

/-! ### one run more -/

theorem mem_append {k : Int} {l m : List Span} : mem k (l ++ m) ↔ mem k l ∨ mem k m := by
  unfold mem
  constructor
  · rintro ⟨p, hp, h⟩
    rcases List.mem_append.1 hp with hp | hp
    · exact .inl ⟨p, hp, h⟩
    · exact .inr ⟨p, hp, h⟩
  · rintro (⟨p, hp, h⟩ | ⟨p, hp, h⟩)
    · exact ⟨p, List.mem_append.2 (.inl hp), h⟩
    · exact ⟨p, List.mem_append.2 (.inr hp), h⟩

theorem mem_one {k : Int} {p : Span} : mem k [p] ↔ p.1 ≤ k ∧ k ≤ p.2 := by
  unfold mem
  constructor
  · rintro ⟨q, hq, h⟩
    rw [List.mem_singleton.1 hq] at h; exact h
  · exact fun h => ⟨p, List.mem_singleton.2 rfl, h⟩

theorem mem_nil {k : Int} : ¬ mem k [] := fun ⟨_, h, _⟩ => absurd h List.not_mem_nil

theorem canon_append {l m : List Span} (hl : Canon l) (hm : Canon m) (h : ∀ p ∈ l, ∀ q ∈ m, p.2 + 1 < q.1) : Canon (l ++ m) := by
  refine ⟨fun p hp => ?_, List.pairwise_append.2 ⟨hl.2, hm.2, h⟩⟩
  rcases List.mem_append.1 hp with hp | hp
  · exact hl.1 p hp
  · exact hm.1 p hp

theorem canon_one {p : Span} (h : Fit p) : Canon [p] := ⟨fun q hq => by rw [List.mem_singleton.1 hq]; exact h, List.pairwise_singleton _ _⟩

theorem canon_left {l m : List Span} (h : Canon (l ++ m)) : Canon l := ⟨fun p hp => h.1 p (List.mem_append.2 (.inl hp)), (List.pairwise_append.1 h.2).1⟩
theorem canon_right {l m : List Span} (h : Canon (l ++ m)) : Canon m := ⟨fun p hp => h.1 p (List.mem_append.2 (.inr hp)), (List.pairwise_append.1 h.2).2.1⟩

/-- The run s goes behind the run set: it opens a new run .. -/
theorem ins_new {u : List Span} {s : Span} (hu : Canon u) (hs : Fit s) (h : ∀ v p, u = v ++ [p] → p.2 + 1 < s.1) :
    Canon (u ++ [s]) ∧ (∀ k, mem k (u ++ [s]) ↔ mem k u ∨ (s.1 ≤ k ∧ k ≤ s.2)) := by
  refine ⟨canon_append hu (canon_one hs) ?_, fun k => by rw [mem_append, mem_one]⟩
  intro p hp q hq
  rw [List.mem_singleton.1 hq]
  rcases List.eq_nil_or_concat u with rfl | ⟨v, x, rfl⟩
  · exact absurd hp List.not_mem_nil
  · rw [List.concat_eq_append] at *
    have hx := h v x rfl
    rcases List.mem_append.1 hp with hp | hp
    · have h1 := (List.pairwise_append.1 hu.2).2.2 p hp x (List.mem_singleton.2 rfl)
      have h2 := hu.1 x (List.mem_append.2 (.inr (List.mem_singleton.2 rfl)))
      unfold Fit at h2; omega
    · rw [List.mem_singleton.1 hp]; exact hx

/-- .. or it is joined to the last one. -/
theorem ins_join {v : List Span} {p s : Span} (hu : Canon (v ++ [p])) (hs : Fit s) (h1 : p.1 ≤ s.1) (h2 : s.1 ≤ p.2 + 1) :
    Canon (v ++ [(p.1, max p.2 s.2)]) ∧ (∀ k, mem k (v ++ [(p.1, max p.2 s.2)]) ↔ mem k (v ++ [p]) ∨ (s.1 ≤ k ∧ k ≤ s.2)) := by
  have hp : Fit p := hu.1 p (List.mem_append.2 (.inr (List.mem_singleton.2 rfl)))
  have hf : Fit (p.1, max p.2 s.2) := by unfold Fit at *; simp only; omega
  refine ⟨canon_append (canon_left hu) (canon_one hf) ?_, fun k => ?_⟩
  · intro x hx q hq
    rw [List.mem_singleton.1 hq]
    exact (List.pairwise_append.1 hu.2).2.2 x hx p (List.mem_singleton.2 rfl)
  · rw [mem_append, mem_append, mem_one, mem_one, or_assoc]
    refine or_congr_right ?_
    unfold Fit at hp hs
    simp only
    omega

/-! ### the merge -/

/-- Ahead of a round: i runs of A and j runs of B are in u. -/
structure PInv (A B : List Span) (i j : Nat) (u : List Span) : Prop where
  canon : Canon u
  iA : i ≤ A.length
  jB : j ≤ B.length
  mem : ∀ k, mem k u ↔ mem k (A.take i) ∨ mem k (B.take j)
  lastA : ∀ p ∈ u, ∀ h : i < A.length, p.1 ≤ A[i].1
  lastB : ∀ p ∈ u, ∀ h : j < B.length, p.1 ≤ B[j].1
  len : u.length ≤ i + j

theorem PInv.start (A B : List Span) : PInv A B 0 0 [] :=
  ⟨Canon.nil, Nat.zero_le _, Nat.zero_le _, fun k => by simp [UP.mem], fun _ h => absurd h List.not_mem_nil, fun _ h => absurd h List.not_mem_nil, Nat.le_refl _⟩

theorem take_mem {A : List Span} {i : Nat} (h : i < A.length) (k : Int) : mem k (A.take (i + 1)) ↔ mem k (A.take i) ∨ (A[i].1 ≤ k ∧ k ≤ A[i].2) := by
  rw [List.take_succ_eq_append_getElem h, mem_append, mem_one]

theorem canon_next {A : List Span} (hA : Canon A) {i : Nat} (h : i + 1 < A.length) : A[i].1 ≤ A[i + 1].1 := by
  have h1 := List.pairwise_iff_getElem.1 hA.2 i (i + 1) (by omega) h (by omega)
  have h2 := hA.1 A[i] (List.getElem_mem _)
  unfold Fit at h2; omega

theorem PInv.symm {A B : List Span} {i j : Nat} {u : List Span} (h : PInv A B i j u) : PInv B A j i u :=
  ⟨h.canon, h.jB, h.iA, fun k => (h.mem k).trans or_comm, h.lastB, h.lastA, by have := h.len; omega⟩

/-- A's next run is taken: its own run. -/
theorem PInv.takeNew {A B : List Span} {i j : Nat} {u : List Span} (h : PInv A B i j u) (hA : Canon A) (hi : i < A.length) (hle : ∀ hj : j < B.length, A[i].1 ≤ B[j].1)
    (hn : ∀ v p, u = v ++ [p] → p.2 + 1 < A[i].1) : PInv A B (i + 1) j (u ++ [A[i]]) := by
  obtain ⟨h1, h2⟩ := ins_new h.canon (hA.1 _ (List.getElem_mem hi)) hn
  refine ⟨h1, hi, h.jB, fun k => ?_, fun p hp hx => ?_, fun p hp hj => ?_, by have := h.len; simp; omega⟩
  · rw [h2, h.mem, take_mem hi]; constructor
    · rintro ((a | b) | c); exact .inl (.inl a); exact .inr b; exact .inl (.inr c)
    · rintro ((a | c) | b); exact .inl (.inl a); exact .inr c; exact .inl (.inr b)
  · have hc := canon_next hA hx
    rcases List.mem_append.1 hp with hp | hp
    · have := h.lastA p hp hi; omega
    · rw [List.mem_singleton.1 hp]; exact hc
  · rcases List.mem_append.1 hp with hp | hp
    · exact h.lastB p hp hj
    · rw [List.mem_singleton.1 hp]; exact hle hj

/-- A's next run is taken: joined to the last one. -/
theorem PInv.takeJoin {A B : List Span} {i j : Nat} {v : List Span} {p : Span} (h : PInv A B i j (v ++ [p])) (hA : Canon A) (hi : i < A.length) (hle : ∀ hj : j < B.length, A[i].1 ≤ B[j].1)
    (hn : A[i].1 ≤ p.2 + 1) : PInv A B (i + 1) j (v ++ [(p.1, max p.2 A[i].2)]) := by
  have hpi := h.lastA p (List.mem_append.2 (.inr (List.mem_singleton.2 rfl))) hi
  obtain ⟨h1, h2⟩ := ins_join h.canon (hA.1 _ (List.getElem_mem hi)) hpi hn
  refine ⟨h1, hi, h.jB, fun k => ?_, fun x hp hx => ?_, fun x hp hj => ?_, by have := h.len; simp at this ⊢; omega⟩
  · rw [h2, h.mem, take_mem hi]; constructor
    · rintro ((a | b) | c); exact .inl (.inl a); exact .inr b; exact .inl (.inr c)
    · rintro ((a | c) | b); exact .inl (.inl a); exact .inr c; exact .inl (.inr b)
  · have hc := canon_next hA hx
    rcases List.mem_append.1 hp with hp | hp
    · have := h.lastA x (List.mem_append.2 (.inl hp)) hi; omega
    · rw [List.mem_singleton.1 hp]; simp only; omega
  · have hc := hle hj
    rcases List.mem_append.1 hp with hp | hp
    · have := h.lastB x (List.mem_append.2 (.inl hp)) hj; omega
    · rw [List.mem_singleton.1 hp]; simp only; omega

/-- WHAT union ANSWERS: a run set that holds just the positions of both. -/
def IsUnion (A B u : List Span) : Prop := Canon u ∧ ∀ k, mem k u ↔ mem k A ∨ mem k B

theorem PInv.done {A B : List Span} {u : List Span} (h : PInv A B A.length B.length u) : IsUnion A B u :=
  ⟨h.canon, fun k => by rw [h.mem, List.take_length, List.take_length]⟩

theorem isUnion_nil_left {B : List Span} (h : Canon B) : IsUnion [] B B := ⟨h, fun _ => ⟨.inr, fun h => h.resolve_left mem_nil⟩⟩
theorem isUnion_nil_right {A : List Span} (h : Canon A) : IsUnion A [] A := ⟨h, fun _ => ⟨.inl, fun h => h.resolve_right mem_nil⟩⟩

/-! ### the law -/

theorem union_comm {A B u v : List Span} (h : IsUnion A B u) (k : IsUnion B A v) : u = v := canon_unique h.1 k.1 fun x => by rw [h.2, k.2, or_comm]
theorem union_idem {A u : List Span} (hA : Canon A) (h : IsUnion A A u) : u = A := canon_unique h.1 hA fun x => by rw [h.2, or_self]
theorem union_assoc {A B C u v x y : List Span} (h1 : IsUnion A B u) (h2 : IsUnion u C v) (h3 : IsUnion B C x) (h4 : IsUnion A x y) : v = y :=
  canon_unique h2.1 h4.1 fun k => by rw [h2.2, h1.2, h4.2, h3.2, or_assoc]
end Go.Proofs.Qxb6605208a.UP
