/-
  PLAIN: stable sorting by a key, highest first: told by order and by what each key's members are; insertion; counting. No Go in sight.
-/
namespace Go.Proofs.Qxb6605208a.HS

/-- Keys never rise. -/
def Desc (h : Nat → Nat) (l : List Nat) : Prop := l.Pairwise fun a b => h b ≤ h a

/-- One order, one list. -/
theorem desc_unique (h : Nat → Nat) : ∀ {l m : List Nat}, Desc h l → Desc h m → (∀ d, l.filter (h · == d) = m.filter (h · == d)) → l = m
  | [], [], _, _, _ => rfl
  | [], y :: s, _, _, e => by
    have := e (h y)
    simp at this
  | x :: r, [], _, _, e => by
    have := e (h x)
    simp at this
  | x :: r, y :: s, hl, hm, e => by
    have hx : x ∈ y :: s := by
      have h1 : x ∈ (x :: r).filter (h · == h x) := by simp
      rw [e] at h1
      exact (List.mem_filter.1 h1).1
    have hy : y ∈ x :: r := by
      have h1 : y ∈ (y :: s).filter (h · == h y) := by simp
      rw [← e] at h1
      exact (List.mem_filter.1 h1).1
    have g1 : h x ≤ h y := by
      rcases List.mem_cons.1 hx with rfl | hx
      · exact Nat.le_refl _
      · exact (List.pairwise_cons.1 hm).1 x hx
    have g2 : h y ≤ h x := by
      rcases List.mem_cons.1 hy with rfl | hy
      · exact Nat.le_refl _
      · exact (List.pairwise_cons.1 hl).1 y hy
    have g : h x = h y := by omega
    have e1 := e (h x)
    rw [List.filter_cons_of_pos (by simp), List.filter_cons_of_pos (by simp [g])] at e1
    have exy : x = y := (List.cons.inj e1).1
    subst exy
    refine congrArg (x :: ·) (desc_unique h (List.pairwise_cons.1 hl).2 (List.pairwise_cons.1 hm).2 fun d => ?_)
    have e2 := e d
    by_cases c : h x = d
    · rw [List.filter_cons_of_pos (by simpa using c), List.filter_cons_of_pos (by simpa using c)] at e2
      exact (List.cons.inj e2).2
    · rw [List.filter_cons_of_neg (by simpa using c), List.filter_cons_of_neg (by simpa using c)] at e2
      exact e2

/-- The first m of o. -/
def lst (m : Nat) (o : Nat → Nat) : List Nat := (List.range m).map o

theorem lst_len (m : Nat) (o : Nat → Nat) : (lst m o).length = m := by simp [lst]
theorem lst_get (m : Nat) (o : Nat → Nat) (i : Nat) (h : i < m) : (lst m o)[i]? = some (o i) := by simp [lst, h]
theorem lst_succ (m : Nat) (o : Nat → Nat) : lst (m + 1) o = lst m o ++ [o m] := by simp [lst, List.range_succ]

theorem lst_congr {m : Nat} {o o' : Nat → Nat} (h : ∀ i, i < m → o i = o' i) : lst m o = lst m o' := by
  unfold lst
  exact List.map_congr_left fun i hi => h i (List.mem_range.1 hi)

theorem lst_add (p q : Nat) (o : Nat → Nat) : lst (p + q) o = lst p o ++ lst q (fun x => o (p + x)) := by
  simp [lst, List.range_add]

/-! ### insertion -/

/-- Neighbours j, j + 1 change places. -/
def swp (o : Nat → Nat) (j : Nat) : Nat → Nat := fun x => if x = j then o (j + 1) else if x = j + 1 then o j else o x

theorem swp_filter (h : Nat → Nat) (o : Nat → Nat) (j m d : Nat) (hj : j + 1 < m) (hne : h (o j) ≠ h (o (j + 1))) : (lst m (swp o j)).filter (h · == d) = (lst m o).filter (h · == d) := by
  obtain ⟨q, rfl⟩ : ∃ q, m = j + (2 + q) := ⟨m - j - 2, by omega⟩
  rw [lst_add, lst_add j, lst_add 2, lst_add 2]
  have e1 : lst j (swp o j) = lst j o := lst_congr fun i hi => by simp [swp, show i ≠ j by omega, show i ≠ j + 1 by omega]
  have e2 : lst q (fun x => swp o j (j + (2 + x))) = lst q (fun x => o (j + (2 + x))) := lst_congr fun i _ => by simp [swp, show ¬ 2 + i = 1 by omega]
  have e3 : lst 2 (fun x => swp o j (j + x)) = [o (j + 1), o j] := by simp [lst, List.range_succ, swp]
  have e4 : lst 2 (fun x => o (j + x)) = [o j, o (j + 1)] := by simp [lst, List.range_succ]
  rw [e1, e2, e3, e4]
  simp only [List.filter_append]
  congr 1
  congr 1
  by_cases c1 : h (o j) = d
  · have c2 : ¬ h (o (j + 1)) = d := by omega
    simp [c1, c2]
  · by_cases c2 : h (o (j + 1)) = d
    · simp [c1, c2]
    · simp [c1, c2]

/-- The first i are in order. -/
def Upto (h o : Nat → Nat) (i : Nat) : Prop := ∀ a b, a < b → b < i → h (o b) ≤ h (o a)

/-- The first i + 1 are in order but for what stands at j. -/
def But (h o : Nat → Nat) (i j : Nat) : Prop := ∀ a b, a < b → b ≤ i → b ≠ j → h (o b) ≤ h (o a)

theorem but_start {h o : Nat → Nat} {i : Nat} (k : Upto h o i) : But h o i i := fun a b hab hb hne => k a b hab (by omega)

theorem but_swap {h o : Nat → Nat} {i j : Nat} (k : But h o i (j + 1)) (hj : j + 1 ≤ i) (hlt : h (o j) < h (o (j + 1))) : But h (swp o j) i j := by
  intro a b hab hb hne
  unfold swp
  by_cases b1 : b = j + 1
  · subst b1
    by_cases a1 : a = j
    · subst a1; simp; omega
    · have := k a j (by omega) (by omega) (by omega)
      simp [a1, show a ≠ j + 1 by omega]; exact this
  · rw [if_neg hne, if_neg b1]
    by_cases a1 : a = j
    · subst a1; rw [if_pos rfl]; exact k (a + 1) b (by omega) hb b1
    · rw [if_neg a1]
      by_cases a2 : a = j + 1
      · subst a2; rw [if_pos rfl]; exact k j b (by omega) hb b1
      · rw [if_neg a2]; exact k a b hab hb b1

theorem but_end {h o : Nat → Nat} {i j : Nat} (k : But h o i j) (he : j = 0 ∨ h (o j) ≤ h (o (j - 1))) : Upto h o (i + 1) := by
  intro a b hab hb
  by_cases b1 : b = j
  · subst b1
    rcases he with he | he
    · omega
    · by_cases a1 : a = b - 1
      · subst a1; exact he
      · have := k a (b - 1) (by omega) (by omega) (by omega)
        omega
  · exact k a b hab (by omega) b1

theorem upto_desc {h o : Nat → Nat} {m : Nat} (k : Upto h o m) : Desc h (lst m o) := by
  refine List.pairwise_iff_getElem.2 fun i j hi hj hij => ?_
  simp only [lst, List.getElem_map, List.getElem_range]
  exact k i j hij (by simpa [lst] using hj)

/-! ### counting -/

/-- How many of the first i have depth d. -/
def cnt (dep : Nat → Nat) : Nat → Nat → Nat
  | 0, _ => 0
  | i + 1, d => cnt dep i d + if dep i = d then 1 else 0

/-- Where those of depth d start, of m. -/
def base (dep : Nat → Nat) (m : Nat) : Nat → Nat
  | 0 => 0
  | d + 1 => base dep m d + cnt dep m d

theorem cnt_mono (dep : Nat → Nat) (d : Nat) {i j : Nat} (h : i ≤ j) : cnt dep i d ≤ cnt dep j d := by
  induction j with
  | zero => have : i = 0 := by omega
            subst this; exact Nat.le_refl _
  | succ j ih =>
    by_cases e : i = j + 1
    · subst e; exact Nat.le_refl _
    · have := ih (by omega)
      simp only [cnt]; omega

theorem cnt_le (dep : Nat → Nat) (i d : Nat) : cnt dep i d ≤ i := by
  induction i with
  | zero => simp [cnt]
  | succ i ih => simp only [cnt]; split <;> omega

theorem cnt_lt (dep : Nat → Nat) {i m : Nat} (h : i < m) : cnt dep i (dep i) < cnt dep m (dep i) := by
  have := cnt_mono dep (dep i) (show i + 1 ≤ m by omega)
  simp only [cnt, if_true] at this
  omega

theorem base_mono (dep : Nat → Nat) (m : Nat) {d e : Nat} (h : d ≤ e) : base dep m d ≤ base dep m e := by
  induction e with
  | zero => have : d = 0 := by omega
            subst this; exact Nat.le_refl _
  | succ e ih =>
    by_cases c : d = e + 1
    · subst c; exact Nat.le_refl _
    · have := ih (by omega)
      simp only [base]; omega

theorem base_all (dep : Nat → Nat) (D : Nat) : ∀ m, (∀ i, i < m → dep i < D) → base dep m D = m := by
  have hs : ∀ m D', base dep (m + 1) D' = base dep m D' + if dep m < D' then 1 else 0 := by
    intro m D'
    induction D' with
    | zero => simp [base]
    | succ D' ih =>
      simp only [base, ih, cnt]
      by_cases c1 : dep m < D'
      · simp [c1, show dep m < D' + 1 by omega, show ¬ dep m = D' by omega]; omega
      · by_cases c2 : dep m = D'
        · simp [c2]; omega
        · simp [c1, c2, show ¬ dep m < D' + 1 by omega]
  intro m
  induction m with
  | zero =>
    intro _
    have : ∀ D', base dep 0 D' = 0 := by
      intro D'
      induction D' with
      | zero => rfl
      | succ D' ih => simp [base, ih, cnt]
    exact this D
  | succ m ih =>
    intro h
    rw [hs, ih (fun i hi => h i (by omega)), if_pos (h m (by omega))]

/-- Where the i-th goes. -/
def pos (dep : Nat → Nat) (m i : Nat) : Nat := base dep m (dep i) + cnt dep i (dep i)

theorem pos_ne (dep : Nat → Nat) (m : Nat) {i : Nat} (hi : i < m) {d c : Nat} (hc : c < cnt dep m d) (h : d ≠ dep i ∨ c ≠ cnt dep i (dep i)) : base dep m d + c ≠ pos dep m i := by
  unfold pos
  have h1 := cnt_lt dep hi
  rcases Nat.lt_trichotomy d (dep i) with h2 | h2 | h2
  · have h3 := base_mono dep m (show d + 1 ≤ dep i by omega)
    simp only [base] at h3
    omega
  · subst h2; omega
  · have h3 := base_mono dep m (show dep i + 1 ≤ d by omega)
    simp only [base] at h3
    omega

theorem pos_lt (dep : Nat → Nat) {m D : Nat} (hD : ∀ i, i < m → dep i < D) {i : Nat} (hi : i < m) : pos dep m i < m := by
  have h1 := cnt_lt dep hi
  have h2 := base_mono dep m (show dep i + 1 ≤ D from hD i hi)
  rw [base_all dep D m hD] at h2
  simp only [base] at h2
  unfold pos
  omega

/-- Those of depth d among the first i, in order. -/
def fil (dep M : Nat → Nat) (i d : Nat) : List Nat := ((List.range i).filter (dep · == d)).map M

theorem fil_succ (dep M : Nat → Nat) (i d : Nat) : fil dep M (i + 1) d = fil dep M i d ++ if dep i = d then [M i] else [] := by
  unfold fil
  rw [List.range_succ, List.filter_append, List.map_append]
  congr 1
  by_cases c : dep i = d
  · simp [c]
  · simp [c]

theorem fil_len (dep M : Nat → Nat) (i d : Nat) : (fil dep M i d).length = cnt dep i d := by
  induction i with
  | zero => simp [fil, cnt]
  | succ i ih =>
    rw [fil_succ, List.length_append, ih]
    simp only [cnt]
    congr 1
    by_cases c : dep i = d
    · simp [c]
    · simp [c]

/-- All of them, depth by depth. -/
def sorted (dep M : Nat → Nat) (m : Nat) : Nat → List Nat
  | 0 => []
  | d + 1 => sorted dep M m d ++ fil dep M m d

theorem sorted_len (dep M : Nat → Nat) (m D : Nat) : (sorted dep M m D).length = base dep m D := by
  induction D with
  | zero => rfl
  | succ D ih => simp only [sorted, base, List.length_append, ih, fil_len]

theorem sorted_at (dep M : Nat → Nat) (m : Nat) {d c : Nat} (hc : c < cnt dep m d) : ∀ D, d < D → (sorted dep M m D)[base dep m d + c]? = (fil dep M m d)[c]? := by
  intro D
  induction D with
  | zero => intro h; omega
  | succ D ih =>
    intro h
    simp only [sorted]
    by_cases e : d = D
    · subst e
      rw [List.getElem?_append_right (by rw [sorted_len]; omega), sorted_len]
      congr 1
      omega
    · have h1 := base_mono dep m (show d + 1 ≤ D by omega)
      simp only [base] at h1
      rw [List.getElem?_append_left (by rw [sorted_len]; omega)]
      exact ih (by omega)

theorem place_of (dep : Nat → Nat) (m : Nat) : ∀ D x, x < base dep m D → ∃ d c, d < D ∧ c < cnt dep m d ∧ x = base dep m d + c := by
  intro D
  induction D with
  | zero => intro x h; simp [base] at h
  | succ D ih =>
    intro x h
    by_cases e : x < base dep m D
    · obtain ⟨d, c, h1, h2, h3⟩ := ih x e
      exact ⟨d, c, by omega, h2, h3⟩
    · simp only [base] at h
      exact ⟨D, x - base dep m D, by omega, by omega, by omega⟩

/-- What has been placed after i rounds. -/
def Placed (dep M : Nat → Nat) (m i : Nat) (A : Nat → Nat) : Prop := ∀ d c, c < cnt dep i d → (fil dep M i d)[c]? = some (A (base dep m d + c))

theorem placed_start (dep M : Nat → Nat) (m : Nat) (A : Nat → Nat) : Placed dep M m 0 A := fun d c h => by simp [cnt] at h

theorem placed_step {dep M : Nat → Nat} {m i : Nat} {A : Nat → Nat} (h : Placed dep M m i A) (hi : i < m) :
    Placed dep M m (i + 1) (fun x => if x = pos dep m i then M i else A x) := by
  intro d c hc
  rw [fil_succ]
  simp only [cnt] at hc
  by_cases e : c < cnt dep i d
  · rw [List.getElem?_append_left (by rw [fil_len]; exact e), h d c e]
    have hc' : c < cnt dep m d := by have := cnt_mono dep d (show i ≤ m by omega); omega
    have : base dep m d + c ≠ pos dep m i := by
      refine pos_ne dep m hi hc' ?_
      by_cases e2 : d = dep i
      · subst e2; right; omega
      · left; exact e2
    simp only [this, if_false]
  · by_cases e2 : dep i = d
    · subst e2
      rw [if_pos rfl] at hc
      obtain rfl : c = cnt dep i (dep i) := by omega
      rw [List.getElem?_append_right (by rw [fil_len]; omega), fil_len]
      simp [pos]
    · rw [if_neg e2] at hc; omega

theorem placed_end {dep M : Nat → Nat} {m D : Nat} {A : Nat → Nat} (h : Placed dep M m m A) (hD : ∀ i, i < m → dep i < D) : lst m A = sorted dep M m D := by
  refine List.ext_getElem? fun x => ?_
  by_cases hx : x < m
  · rw [lst_get m A x hx]
    obtain ⟨d, c, h1, h2, rfl⟩ := place_of dep m D x (by rw [base_all dep D m hD]; exact hx)
    rw [sorted_at dep M m h2 D h1, h d c h2]
  · rw [List.getElem?_eq_none (by rw [lst_len]; omega), List.getElem?_eq_none (by rw [sorted_len, base_all dep D m hD]; omega)]

/-! ### the counted list is the stable one -/

theorem fil_mem {dep M : Nat → Nat} {m d x : Nat} (h : x ∈ fil dep M m d) : ∃ i, i < m ∧ dep i = d ∧ M i = x := by
  obtain ⟨i, hi, e⟩ := List.mem_map.1 h
  have := List.mem_filter.1 hi
  exact ⟨i, List.mem_range.1 this.1, by simpa using this.2, e⟩

/-- depth: how far below the highest. -/
theorem sorted_desc {dep M h : Nat → Nat} {m hh : Nat} (hd : ∀ i, i < m → h (M i) + dep i = hh) : ∀ D, Desc h (sorted dep M m D)
  | 0 => List.Pairwise.nil
  | D + 1 => by
    refine List.pairwise_append.2 ⟨sorted_desc hd D, ?_, ?_⟩
    · refine List.pairwise_iff_forall_sublist.2 ?_
      intro a b hab
      obtain ⟨i, h1, h2, rfl⟩ := fil_mem (hab.subset (List.mem_cons_self))
      obtain ⟨j, g1, g2, rfl⟩ := fil_mem (hab.subset (List.mem_cons_of_mem _ List.mem_cons_self))
      have := hd i h1
      have := hd j g1
      omega
    · intro a ha b hb
      obtain ⟨j, g1, g2, rfl⟩ := fil_mem hb
      have hmem : ∀ D', ∀ a ∈ sorted dep M m D', ∃ i, i < m ∧ dep i < D' ∧ M i = a := by
        intro D'
        induction D' with
        | zero => intro a h; exact absurd h List.not_mem_nil
        | succ D' ih =>
          intro a h
          rcases List.mem_append.1 h with h | h
          · obtain ⟨i, h1, h2, h3⟩ := ih a h
            exact ⟨i, h1, by omega, h3⟩
          · obtain ⟨i, h1, h2, h3⟩ := fil_mem h
            exact ⟨i, h1, by omega, h3⟩
      obtain ⟨i, h1, h2, rfl⟩ := hmem D a ha
      have := hd i h1
      have := hd j g1
      omega

theorem fil_filter {dep M h : Nat → Nat} {m hh : Nat} (hd : ∀ i, i < m → h (M i) + dep i = hh) (d v : Nat) (hdh : d ≤ hh) : (fil dep M m d).filter (h · == v) = if hh - d = v then fil dep M m d else [] := by
  by_cases c : hh - d = v
  · rw [if_pos c]
    refine List.filter_eq_self.2 fun x hx => ?_
    obtain ⟨i, h1, h2, rfl⟩ := fil_mem hx
    have := hd i h1
    have : h (M i) = v := by omega
    simpa using this
  · rw [if_neg c]
    refine List.filter_eq_nil_iff.2 fun x hx => ?_
    obtain ⟨i, h1, h2, rfl⟩ := fil_mem hx
    have := hd i h1
    have : ¬ h (M i) = v := by omega
    simpa using this

theorem sorted_filter {dep M h : Nat → Nat} {m hh : Nat} (hd : ∀ i, i < m → h (M i) + dep i = hh) (v : Nat) : ∀ D, D ≤ hh + 1 → (sorted dep M m D).filter (h · == v) = if v ≤ hh ∧ hh - v < D then fil dep M m (hh - v) else [] := by
  intro D
  induction D with
  | zero => intro _; simp [sorted]
  | succ D ih =>
    intro hD
    simp only [sorted, List.filter_append]
    rw [ih (by omega), fil_filter hd D v (by omega)]
    by_cases c1 : hh - D = v
    · have e : hh - v = D := by omega
      rw [if_neg (by omega), if_pos c1, if_pos (by omega), e]
      rfl
    · rw [if_neg c1, List.append_nil]
      by_cases c2 : v ≤ hh ∧ hh - v < D
      · rw [if_pos c2, if_pos (by omega)]
      · rw [if_neg c2, if_neg (by omega)]

theorem lst_filter {dep M h : Nat → Nat} {hh : Nat} (v : Nat) : ∀ m, (∀ i, i < m → h (M i) + dep i = hh) → (lst m M).filter (h · == v) = if v ≤ hh then fil dep M m (hh - v) else [] := by
  intro m
  induction m with
  | zero => intro _; simp [lst, fil]
  | succ m ih =>
    intro hd
    have h1 := hd m (by omega)
    rw [lst_succ, List.filter_append, ih (fun i hi => hd i (by omega)), fil_succ]
    by_cases c : v ≤ hh
    · rw [if_pos c, if_pos c]
      congr 1
      by_cases e : h (M m) = v
      · rw [if_pos (by omega)]; simp [e]
      · rw [if_neg (by omega)]; simp [e]
    · rw [if_neg c, if_neg c]
      have e : ¬ h (M m) = v := by omega
      simp [e]

/-- THE COUNTED LIST IS THE ONE STABLE ORDER. -/
theorem sorted_stable {dep M h : Nat → Nat} {m hh : Nat} (hd : ∀ i, i < m → h (M i) + dep i = hh) (d : Nat) : (sorted dep M m (hh + 1)).filter (h · == d) = (lst m M).filter (h · == d) := by
  rw [sorted_filter hd d (hh + 1) (Nat.le_refl _), lst_filter d m hd]
  by_cases c : d ≤ hh
  · rw [if_pos ⟨c, by omega⟩, if_pos c]
  · rw [if_neg (fun h => c h.1), if_neg c]

theorem sorted_eq {dep M h o : Nat → Nat} {m hh : Nat} (hd : ∀ i, i < m → h (M i) + dep i = hh) (ho : Desc h (lst m o)) (hf : ∀ d, (lst m o).filter (h · == d) = (lst m M).filter (h · == d)) :
    sorted dep M m (hh + 1) = lst m o :=
  desc_unique h (sorted_desc hd _) ho fun d => by rw [sorted_stable hd, hf]
end Go.Proofs.Qxb6605208a.HS
