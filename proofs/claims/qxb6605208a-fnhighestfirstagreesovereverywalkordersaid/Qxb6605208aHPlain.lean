/-
  PLAIN: heights in a graph without cycles. Entity k has the parents P k 0 .. P k (cnt k - 1). No Go in sight.
-/
namespace Go.Proofs.Qxb6605208a.HP

/-- The greatest of g p + 1 over the first c parents p of k; 0 where there is none. -/
def mx (P : Nat → Nat → Nat) (g : Nat → Nat) (k : Nat) : Nat → Nat
  | 0 => 0
  | c + 1 => max (mx P g k c) (g (P k c) + 1)

/-- H is the height. -/
def IsH (n : Nat) (cnt : Nat → Nat) (P : Nat → Nat → Nat) (H : Nat → Nat) : Prop := ∀ k, k < n → H k = mx P H k (cnt k)

/-- W 0 .. W (m - 1): every entity, each after its parents. -/
def WOK (n : Nat) (cnt : Nat → Nat) (P : Nat → Nat → Nat) (W : Nat → Nat) (m : Nat) : Prop :=
  (∀ i, i < m → W i < n ∧ ∀ c, c < cnt (W i) → ∃ j, j < i ∧ W j = P (W i) c) ∧ ∀ k, k < n → ∃ i, i < m ∧ W i = k

theorem mx_le {P : Nat → Nat → Nat} {g : Nat → Nat} {k c : Nat} (c' : Nat) (h : c' < c) : g (P k c') + 1 ≤ mx P g k c := by
  induction c with
  | zero => omega
  | succ c ih =>
    simp only [mx]
    by_cases e : c' = c
    · subst e; omega
    · have := ih (by omega); omega

theorem mx_bound {P : Nat → Nat → Nat} {g : Nat → Nat} {k c B : Nat} (h : ∀ c', c' < c → g (P k c') + 1 ≤ B) : mx P g k c ≤ B := by
  induction c with
  | zero => simp [mx]
  | succ c ih =>
    simp only [mx]
    have h1 := ih (fun c' hc => h c' (by omega))
    have h2 := h c (by omega)
    omega

theorem mx_congr {P : Nat → Nat → Nat} {g g' : Nat → Nat} {k c : Nat} (h : ∀ c', c' < c → g (P k c') = g' (P k c')) : mx P g k c = mx P g' k c := by
  induction c with
  | zero => rfl
  | succ c ih => simp only [mx]; rw [ih (fun c' hc => h c' (by omega)), h c (by omega)]

theorem mx_at {P : Nat → Nat → Nat} {g : Nat → Nat} {k c : Nat} (h : 0 < mx P g k c) : ∃ c', c' < c ∧ mx P g k c = g (P k c') + 1 := by
  induction c with
  | zero => simp [mx] at h
  | succ c ih =>
    simp only [mx] at h ⊢
    by_cases e : mx P g k c ≤ g (P k c) + 1
    · exact ⟨c, by omega, by omega⟩
    · obtain ⟨c', h1, h2⟩ := ih (by omega)
      exact ⟨c', by omega, by omega⟩

/-! ### there is a height -/

def Hn (cnt : Nat → Nat) (P : Nat → Nat → Nat) : Nat → Nat → Nat
  | 0, _ => 0
  | r + 1, k => mx P (Hn cnt P r) k (cnt k)

theorem Hn_le (cnt : Nat → Nat) (P : Nat → Nat → Nat) : ∀ r k, Hn cnt P r k ≤ r
  | 0, _ => by simp [Hn]
  | r + 1, k => mx_bound fun c' _ => by have := Hn_le cnt P r (P k c'); omega

theorem Hn_stable {n m : Nat} {cnt : Nat → Nat} {P : Nat → Nat → Nat} {W : Nat → Nat} (h : WOK n cnt P W m) : ∀ i, i < m → ∀ r, i + 1 ≤ r → Hn cnt P r (W i) = Hn cnt P (i + 1) (W i) := by
  intro i
  induction i using Nat.strongRecOn with
  | _ i ih =>
    intro hi r hr
    obtain ⟨r, rfl⟩ : ∃ q, r = q + 1 := ⟨r - 1, by omega⟩
    simp only [Hn]
    refine mx_congr fun c hc => ?_
    obtain ⟨j, hj, e⟩ := (h.1 i hi).2 c hc
    rw [← e, ih j hj (by omega) r (by omega), ih j hj (by omega) i (by omega)]

theorem isH_exists {n m : Nat} {cnt : Nat → Nat} {P : Nat → Nat → Nat} {W : Nat → Nat} (h : WOK n cnt P W m) : ∃ H, IsH n cnt P H ∧ ∀ k, H k ≤ m := by
  refine ⟨Hn cnt P m, fun k hk => ?_, fun k => Hn_le cnt P m k⟩
  obtain ⟨i, hi, rfl⟩ := h.2 k hk
  have h1 := Hn_stable h i hi m (by omega)
  have h2 := Hn_stable h i hi (m + 1) (by omega)
  rw [h1, ← h2]
  rfl

/-! ### what a height is like -/

theorem IsH.up {n : Nat} {cnt : Nat → Nat} {P : Nat → Nat → Nat} {H : Nat → Nat} (h : IsH n cnt P H) {k c : Nat} (hk : k < n) (hc : c < cnt k) : H (P k c) + 1 ≤ H k := by
  rw [h k hk]; exact mx_le c hc

theorem IsH.at {n : Nat} {cnt : Nat → Nat} {P : Nat → Nat → Nat} {H : Nat → Nat} (h : IsH n cnt P H) {k : Nat} (hk : k < n) (h0 : 0 < H k) : ∃ c, c < cnt k ∧ H k = H (P k c) + 1 := by
  rw [h k hk] at h0
  obtain ⟨c, h1, h2⟩ := mx_at h0
  exact ⟨c, h1, by rw [h k hk]; exact h2⟩

/-- Nothing is left to relax: at least the height. -/
theorem relaxed {n : Nat} {cnt : Nat → Nat} {P : Nat → Nat → Nat} {H ht : Nat → Nat} (h : IsH n cnt P H) (hP : ∀ k, k < n → ∀ c, c < cnt k → P k c < n)
    (hr : ∀ k, k < n → ∀ c, c < cnt k → ht (P k c) + 1 ≤ ht k) : ∀ d k, k < n → H k = d → d ≤ ht k := by
  intro d
  induction d using Nat.strongRecOn with
  | _ d ih =>
    intro k hk e
    by_cases h0 : d = 0
    · omega
    · obtain ⟨c, hc, e2⟩ := h.at hk (by omega)
      have h1 := ih (H (P k c)) (by omega) (P k c) (hP k hk c hc) rfl
      have h2 := hr k hk c hc
      omega

/-- A round more. -/
theorem round_more {n r : Nat} {cnt : Nat → Nat} {P : Nat → Nat → Nat} {H h0 ht : Nat → Nat} (h : IsH n cnt P H) (hP : ∀ k, k < n → ∀ c, c < cnt k → P k c < n)
    (hl : ∀ k, k < n → min (H k) r ≤ h0 k) (hr : ∀ k, k < n → ∀ c, c < cnt k → h0 (P k c) + 1 ≤ ht k) : ∀ k, k < n → min (H k) (r + 1) ≤ ht k := by
  intro k hk
  by_cases e : H k = 0
  · omega
  · obtain ⟨c, hc, e2⟩ := h.at hk (by omega)
    have h1 := hl (P k c) (hP k hk c hc)
    have h2 := hr k hk c hc
    omega

/-! ### a list of n different numbers below n holds each of them -/

theorem nodup_length : ∀ (n : Nat) (l : List Nat), l.Nodup → (∀ x ∈ l, x < n) → l.length ≤ n
  | 0, l, _, h => by
    cases l with
    | nil => simp
    | cons a r => exact absurd (h a List.mem_cons_self) (by omega)
  | n + 1, l, hn, h => by
    have h1 := nodup_length n (l.filter (· ≠ n)) (hn.filter _) (fun x hx => by
      have := List.mem_filter.1 hx
      have h2 := h x this.1
      have h3 : x ≠ n := by simpa using this.2
      omega)
    have h2 : l.length ≤ (l.filter (· ≠ n)).length + 1 := by
      clear h1 h
      induction l with
      | nil => simp
      | cons a r ih =>
        have hr := (List.nodup_cons.1 hn)
        by_cases e : a = n
        · subst e
          have e2 : (a :: r).filter (· ≠ a) = r := by
            rw [List.filter_cons_of_neg (by simp)]
            refine List.filter_eq_self.2 fun x hx => ?_
            have : x ≠ a := fun e => hr.1 (e ▸ hx)
            simpa using this
          rw [e2]; simp
        · rw [List.filter_cons_of_pos (by simpa using e)]
          have := ih hr.2
          simp only [List.length_cons]
          omega
    omega

theorem nodup_all {n : Nat} {l : List Nat} (hn : l.Nodup) (h : ∀ x ∈ l, x < n) (hl : l.length = n) (k : Nat) (hk : k < n) : k ∈ l := by
  by_cases hm : k ∈ l
  · exact hm
  · exfalso
    have := nodup_length n (k :: l) (List.nodup_cons.2 ⟨hm, hn⟩) (fun x hx => by
      rcases List.mem_cons.1 hx with rfl | hx
      · exact hk
      · exact h x hx)
    simp at this
    omega

/-- n different entities: every one. -/
theorem all_of_diff {n : Nat} {W : Nat → Nat} (h : ∀ i, i < n → W i < n) (hd : ∀ i j, i < j → j < n → W i ≠ W j) (k : Nat) (hk : k < n) : ∃ i, i < n ∧ W i = k := by
  have hl : ((List.range n).map W).Nodup := by
    rw [List.nodup_iff_pairwise_ne, List.pairwise_map]
    refine List.pairwise_iff_getElem.2 fun i j hi hj hij => ?_
    simp only [List.getElem_range]
    exact hd i j hij (by simpa using hj)
  have := nodup_all hl (fun x hx => by
    obtain ⟨i, hi, rfl⟩ := List.mem_map.1 hx
    exact h i (List.mem_range.1 hi)) (by simp) k hk
  obtain ⟨i, hi, e⟩ := List.mem_map.1 this
  exact ⟨i, List.mem_range.1 hi, e⟩
end Go.Proofs.Qxb6605208a.HP
