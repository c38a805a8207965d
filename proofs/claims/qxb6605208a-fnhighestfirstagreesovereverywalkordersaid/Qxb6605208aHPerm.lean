/-
  PLAIN: all entities by ascending height are a walk; the counted list holds the members, each as often.
-/
import Derived.Test.Qxb6605208aHSort
import Derived.Test.Qxb6605208aHPlain
namespace Go.Proofs.Qxb6605208a.HS
open HP (WOK IsH)

theorem fil_at (dep M : Nat → Nat) {m i : Nat} (h : i < m) : (fil dep M m (dep i))[cnt dep i (dep i)]? = some (M i) := by
  induction m with
  | zero => omega
  | succ m ih =>
    rw [fil_succ]
    by_cases e : i = m
    · subst e
      rw [if_pos rfl, List.getElem?_append_right (by rw [fil_len]; omega), fil_len]
      simp
    · have h1 := cnt_lt dep (show i < m by omega)
      rw [List.getElem?_append_left (by rw [fil_len]; exact h1)]
      exact ih (by omega)

/-- What stands where the i-th goes. -/
theorem sorted_pos (dep M : Nat → Nat) {m D i : Nat} (hi : i < m) (hD : dep i < D) : (sorted dep M m D)[pos dep m i]? = some (M i) := by
  unfold pos
  rw [sorted_at dep M m (cnt_lt dep hi) D hD]
  exact fil_at dep M hi

theorem pos_inj (dep : Nat → Nat) {m i j : Nat} (hi : i < m) (hj : j < m) (h : pos dep m i = pos dep m j) : i = j := by
  rcases Nat.lt_trichotomy i j with c | c | c
  · exfalso
    refine pos_ne dep m hj (cnt_lt dep hi) ?_ h
    by_cases e : dep i = dep j
    · right
      have := cnt_lt dep c
      rw [e] at this ⊢
      omega
    · left; exact e
  · exact c
  · exfalso
    refine pos_ne dep m hi (cnt_lt dep hj) ?_ h.symm
    by_cases e : dep j = dep i
    · right
      have := cnt_lt dep c
      rw [e] at this ⊢
      omega
    · left; exact e

theorem pos_below (dep : Nat → Nat) {m i j : Nat} (hi : i < m) (h : dep i < dep j) : pos dep m i < pos dep m j := by
  have h1 := cnt_lt dep hi
  have h2 := base_mono dep m (show dep i + 1 ≤ dep j by omega)
  simp only [base] at h2
  unfold pos
  omega

/-- ALL ENTITIES BY ASCENDING HEIGHT: EACH AFTER ITS PARENTS. -/
theorem byHeight_wok {n D : Nat} {cn : Nat → Nat} {P : Nat → Nat → Nat} {H W : Nat → Nat} (hH : IsH n cn P H) (hP : ∀ k, k < n → ∀ c, c < cn k → P k c < n) (hD : ∀ k, k < n → H k < D)
    (hW : ∀ i, i < n → (sorted H (fun x => x) n D)[i]? = some (W i)) : WOK n cn P W n := by
  have hat : ∀ k, k < n → W (pos H n k) = k := by
    intro k hk
    have h1 := sorted_pos H (fun x => x) hk (hD k hk)
    rw [hW _ (pos_lt H hD hk)] at h1
    exact Option.some.inj h1
  have hsur : ∀ i, i < n → ∃ k, k < n ∧ pos H n k = i := fun i hi =>
    HP.all_of_diff (W := fun k => pos H n k) (fun k hk => pos_lt H hD hk) (fun a b hab hb e => by have := pos_inj H (by omega) hb e; omega) i hi
  refine ⟨fun i hi => ?_, fun k hk => ⟨_, pos_lt H hD hk, hat k hk⟩⟩
  obtain ⟨k, hk, rfl⟩ := hsur i hi
  rw [hat k hk]
  refine ⟨hk, fun c hc => ?_⟩
  have hp := hP k hk c hc
  have hu := hH.up hk hc
  exact ⟨pos H n (P k c), pos_below H hp (by omega), hat _ hp⟩

/-! ### counting what a list holds -/

theorem cnt_filter (A : Nat → Nat) (x m : Nat) : cnt A m x = ((lst m A).filter (· == x)).length := by
  induction m with
  | zero => simp [cnt, lst]
  | succ m ih =>
    rw [lst_succ, List.filter_append, List.length_append, ← ih]
    simp only [cnt]
    congr 1
    by_cases e : A m = x
    · simp [e]
    · simp [e]

theorem filter_sub (h : Nat → Nat) (x : Nat) (l : List Nat) : l.filter (· == x) = (l.filter (h · == h x)).filter (· == x) := by
  rw [List.filter_filter]
  refine List.filter_congr fun y _ => ?_
  by_cases e : y = x
  · subst e; simp
  · simp [e]

/-- The same members, key by key: each as often. -/
theorem cnt_same {h A M : Nat → Nat} {m : Nat} (hf : ∀ d, (lst m A).filter (h · == d) = (lst m M).filter (h · == d)) (x : Nat) : cnt A m x = cnt M m x := by
  rw [cnt_filter, cnt_filter, filter_sub h, hf, ← filter_sub h]

theorem desc_next {h A : Nat → Nat} {m : Nat} (hd : Desc h (lst m A)) : ∀ i, i + 1 < m → h (A (i + 1)) ≤ h (A i) := by
  intro i hi
  have := List.pairwise_iff_getElem.1 hd i (i + 1) (by rw [lst_len]; omega) (by rw [lst_len]; omega) (by omega)
  simpa [lst] using this

/-- Whatever stands in the list is one of the members. -/
theorem mem_same {h A M : Nat → Nat} {m : Nat} (hf : ∀ d, (lst m A).filter (h · == d) = (lst m M).filter (h · == d)) {i : Nat} (hi : i < m) : ∃ j, j < m ∧ M j = A i := by
  have h1 : A i ∈ (lst m A).filter (h · == h (A i)) := List.mem_filter.2 ⟨List.mem_map.2 ⟨i, List.mem_range.2 hi, rfl⟩, by simp⟩
  rw [hf] at h1
  obtain ⟨j, hj, e⟩ := List.mem_map.1 (List.mem_filter.1 h1).1
  exact ⟨j, List.mem_range.1 hj, e⟩
end Go.Proofs.Qxb6605208a.HS
