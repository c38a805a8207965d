/-
  Strong components by the walk with two stacks, over plain functions: no Go here.
-/
import Derived.WalkKit
namespace Go.Proofs.Qxb6605452a

/-- A graph: node u has ol u successors, of u 0 .. -/
structure Gr where
  ol : Nat → Nat
  of : Nat → Nat → Nat

/-- An edge. -/
def Gr.E (G : Gr) (u w : Nat) : Prop := ∃ j, j < G.ol u ∧ G.of u j = w

/-- A way, of any length. -/
inductive Gr.R (G : Gr) : Nat → Nat → Prop
  | refl (u : Nat) : Gr.R G u u
  | step {u v w : Nat} : G.E u v → Gr.R G v w → Gr.R G u w

theorem Gr.R.trans {G : Gr} {u v w : Nat} (h : G.R u v) (k : G.R v w) : G.R u w := by
  induction h with
  | refl => exact k
  | step e _ ih => exact .step e (ih k)

theorem Gr.R.edge {G : Gr} {u v : Nat} (h : G.E u v) : G.R u v := .step h (.refl _)

/-- The walk's state. -/
structure TS where
  idx : Nat → Nat
  low : Nat → Nat
  comp : Nat → Nat
  onS : Nat → Bool
  s : Nat → Nat
  k : Nat
  vis : Nat
  nc : Nat
  size : Nat → Nat
  g : Nat → Nat
  nx : Nat → Nat
  h : Nat

/-- An edge that has been looked at. -/
def TS.Proc (S : TS) (G : Gr) (u w : Nat) : Prop := ∃ j, j < G.ol u ∧ G.of u j = w ∧ S.idx u ≠ 0 ∧ ∀ i, i < S.h → S.g i = u → j < S.nx i

/-- What holds throughout. -/
structure TS.Inv (S : TS) (G : Gr) (n : Nat) : Prop where
  ilt : ∀ v, S.idx v ≠ 0 → v < n
  ile : ∀ v, S.idx v ≤ S.vis
  inj : ∀ u v, S.idx u ≠ 0 → S.idx u = S.idx v → u = v
  ons : ∀ v, S.onS v = true ↔ ∃ i, i < S.k ∧ S.s i = v
  pos : ∀ v, S.onS v = true → S.idx v ≠ 0
  smono : ∀ i j, i < j → j < S.k → S.idx (S.s i) < S.idx (S.s j)
  gon : ∀ i, i < S.h → S.onS (S.g i) = true
  gmono : ∀ i j, i < j → j < S.h → S.idx (S.g i) < S.idx (S.g j)
  nxle : ∀ i, i < S.h → S.nx i ≤ G.ol (S.g i)
  i3 : ∀ i, i < S.h → ∀ y, S.onS y = true → S.idx (S.g i) ≤ S.idx y → G.R (S.g i) y
  i4 : ∀ y, S.onS y = true → ∃ i, i < S.h ∧ S.idx (S.g i) ≤ S.idx y ∧ G.R y (S.g i)
  i5 : ∀ u w, S.Proc G u w → S.idx w ≠ 0
  i6 : ∀ u w, S.idx u ≠ 0 → S.onS u = false → G.E u w → S.idx w ≠ 0 ∧ S.onS w = false
  i7 : ∀ u w, S.idx u ≠ 0 → S.onS u = false → S.idx w ≠ 0 → S.onS w = false → (S.comp u = S.comp w ↔ G.R u w ∧ G.R w u)
  cnc : ∀ u, S.idx u ≠ 0 → S.onS u = false → S.comp u < S.nc
  siz : ∀ u, S.idx u ≠ 0 → S.onS u = false → (1 < S.size (S.comp u) ↔ ∃ w, w ≠ u ∧ G.R u w ∧ G.R w u)
  i8 : ∀ x, S.onS x = true → S.low x ≤ S.idx x ∧ ∃ y, S.onS y = true ∧ S.idx y = S.low x ∧ G.R x y
  i9 : ∀ i y z, i < S.h → S.idx (S.g i) ≤ S.idx y → (i + 1 < S.h → S.idx y < S.idx (S.g (i + 1))) → S.Proc G y z → S.onS y = true → S.onS z = true → S.low (S.g i) ≤ S.idx z

/-- With no frame left the stack is empty. -/
theorem TS.Inv.empty {S : TS} {G : Gr} {n : Nat} (H : S.Inv G n) (h0 : S.h = 0) : ∀ v, S.onS v = false := by
  intro v
  cases h : S.onS v with
  | false => rfl
  | true => obtain ⟨i, hi, _⟩ := H.i4 v h; omega

theorem TS.Inv.k0 {S : TS} {G : Gr} {n : Nat} (H : S.Inv G n) (h0 : S.h = 0) : S.k = 0 := by
  by_cases hk : S.k = 0
  · exact hk
  · have := H.empty h0 (S.s 0)
    rw [(H.ons (S.s 0)).2 ⟨0, by omega, rfl⟩] at this
    cases this

/-- v is seen for the first time, and a frame laid for it. -/
def TS.visit (S : TS) (v : Nat) : TS :=
  { S with
    idx := fun x => if x = v then S.vis + 1 else S.idx x
    low := fun x => if x = v then S.vis + 1 else S.low x
    onS := fun x => if x = v then true else S.onS x
    s := fun i => if i = S.k then v else S.s i
    k := S.k + 1
    vis := S.vis + 1
    g := fun i => if i = S.h then v else S.g i
    nx := fun i => if i = S.h then 0 else S.nx i
    h := S.h + 1 }

/-- The top frame's next successor. -/
def TS.adv (S : TS) : TS := { S with nx := fun i => if i = S.h - 1 then S.nx i + 1 else S.nx i }

theorem TS.Inv.visit {S : TS} {G : Gr} {n v : Nat} (H : S.Inv G n) (hv : v < n) (h0 : S.idx v = 0) (hr : 0 < S.h → G.E (S.g (S.h - 1)) v) : (S.visit v).Inv G n := by
  have von : S.onS v = false := by
    cases h : S.onS v with
    | false => rfl
    | true => exact absurd h0 (H.pos v h)
  have neq : ∀ x, S.idx x ≠ 0 → x ≠ v := fun x hx e => hx (e ▸ h0)
  have nes : ∀ x, S.onS x = true → x ≠ v := fun x hx => neq x (H.pos x hx)
  have gne : ∀ i, i < S.h → S.g i ≠ v := fun i hi => nes _ (H.gon i hi)
  have proc : ∀ u w, (S.visit v).Proc G u w → u ≠ v ∧ S.Proc G u w := by
    rintro u w ⟨j, hj, he, hu, hg⟩
    have une : u ≠ v := by
      intro e
      subst e
      have := hg S.h (by simp [TS.visit]) (by simp [TS.visit])
      simp [TS.visit] at this
    refine ⟨une, j, hj, he, by simpa [TS.visit, une] using hu, fun i hi hgi => ?_⟩
    have ne : i ≠ S.h := by omega
    have := hg i (by simp [TS.visit]; omega) (by simp [TS.visit, ne]; exact hgi)
    simpa [TS.visit, ne] using this
  constructor
  · intro x hx
    by_cases e : x = v
    · exact e ▸ hv
    · exact H.ilt x (by simpa [TS.visit, e] using hx)
  · intro x
    have := H.ile x
    by_cases e : x = v <;> simp [TS.visit, e]
    omega
  · intro x y hx hxy
    have ax := H.ile x
    have ay := H.ile y
    by_cases e : x = v
    · by_cases e' : y = v
      · rw [e, e']
      · simp [TS.visit, e, e'] at hxy; omega
    · by_cases e' : y = v
      · simp [TS.visit, e, e'] at hxy; omega
      · simp [TS.visit, e, e'] at hxy hx
        exact H.inj x y hx hxy
  · intro x
    by_cases e : x = v
    · simp only [TS.visit, e, if_true, true_iff]
      exact ⟨S.k, by omega, by simp⟩
    · simp only [TS.visit, e, if_false, H.ons x]
      constructor
      · rintro ⟨i, hi, hs⟩
        exact ⟨i, by omega, by rw [if_neg (by omega)]; exact hs⟩
      · rintro ⟨i, hi, hs⟩
        by_cases ei : i = S.k
        · rw [if_pos ei] at hs; exact absurd hs.symm e
        · rw [if_neg ei] at hs; exact ⟨i, by omega, hs⟩
  · intro x hx
    by_cases e : x = v
    · simp [TS.visit, e]
    · simp only [TS.visit, e, if_false] at hx ⊢
      exact H.pos x hx
  · intro i j hij hj
    have hs : ∀ i, i < S.k → S.s i ≠ v := fun i hi => nes _ ((H.ons _).2 ⟨i, hi, rfl⟩)
    simp only [TS.visit] at hj ⊢
    rw [if_neg (show i ≠ S.k by omega), if_neg (hs i (by omega))]
    by_cases ej : j = S.k
    · rw [if_pos ej, if_pos rfl]
      have := H.ile (S.s i)
      omega
    · rw [if_neg ej, if_neg (hs j (by omega))]
      exact H.smono i j hij (by omega)
  · intro i hi
    simp only [TS.visit] at hi ⊢
    by_cases e : i = S.h
    · simp [e]
    · rw [if_neg e]
      have := H.gon i (by omega)
      split <;> first | rfl | exact this
  · intro i j hij hj
    simp only [TS.visit] at hj ⊢
    rw [if_neg (show i ≠ S.h by omega), if_neg (gne i (by omega))]
    by_cases ej : j = S.h
    · rw [if_pos ej, if_pos rfl]
      have := H.ile (S.g i)
      omega
    · rw [if_neg ej, if_neg (gne j (by omega))]
      exact H.gmono i j hij (by omega)
  · intro i hi
    simp only [TS.visit] at hi ⊢
    by_cases e : i = S.h
    · simp [e]
    · simp only [e, if_false]
      exact H.nxle i (by omega)
  · -- i3
    intro i hi y hy hle
    simp only [TS.visit] at hi hy hle ⊢
    by_cases ei : i = S.h
    · simp only [ei, if_true] at hle ⊢
      by_cases ey : y = v
      · rw [ey]; exact .refl _
      · rw [if_neg ey] at hle
        have := H.ile y
        omega
    · simp only [ei, if_false] at hle ⊢
      by_cases ey : y = v
      · rw [ey]
        have hh : S.onS (S.g (S.h - 1)) = true := H.gon _ (by omega)
        have : G.R (S.g i) (S.g (S.h - 1)) := by
          by_cases e1 : i = S.h - 1
          · rw [e1]; exact .refl _
          · exact H.i3 i (by omega) _ hh (Nat.le_of_lt (H.gmono i (S.h - 1) (by omega) (by omega)))
        exact this.trans (.edge (hr (by omega)))
      · rw [if_neg (gne i (by omega)), if_neg ey] at hle
        rw [if_neg ey] at hy
        exact H.i3 i (by omega) y hy hle
  · -- i4
    intro y hy
    simp only [TS.visit] at hy ⊢
    by_cases ey : y = v
    · exact ⟨S.h, by omega, by simp [ey], by rw [if_pos rfl, ey]; exact .refl _⟩
    · rw [if_neg ey] at hy
      obtain ⟨i, hi, hle, hr'⟩ := H.i4 y hy
      refine ⟨i, by omega, ?_, ?_⟩
      · rw [if_neg (show i ≠ S.h by omega), if_neg (gne i hi), if_neg ey]; exact hle
      · rw [if_neg (show i ≠ S.h by omega)]; exact hr'
  · -- i5
    intro u w hp
    have := H.i5 u w (proc u w hp).2
    simp only [TS.visit]
    split
    · omega
    · exact this
  · -- i6
    intro u w hu hs he
    simp only [TS.visit] at hu hs ⊢
    by_cases eu : u = v
    · rw [if_pos eu] at hs; cases hs
    · rw [if_neg eu] at hu hs
      obtain ⟨a, b⟩ := H.i6 u w hu hs he
      rw [if_neg (neq w a), if_neg (neq w a)]
      exact ⟨a, b⟩
  · -- i7
    intro u w hu hs hw ht
    simp only [TS.visit] at hu hs hw ht ⊢
    by_cases eu : u = v
    · rw [if_pos eu] at hs; cases hs
    · by_cases ew : w = v
      · rw [if_pos ew] at ht; cases ht
      · rw [if_neg eu] at hu hs
        rw [if_neg ew] at hw ht
        exact H.i7 u w hu hs hw ht
  · intro u hu hs
    simp only [TS.visit] at hu hs ⊢
    by_cases eu : u = v
    · rw [if_pos eu] at hs; cases hs
    · rw [if_neg eu] at hu hs
      exact H.cnc u hu hs
  · intro u hu hs
    simp only [TS.visit] at hu hs ⊢
    by_cases eu : u = v
    · rw [if_pos eu] at hs; cases hs
    · rw [if_neg eu] at hu hs
      exact H.siz u hu hs
  · -- i8
    intro x hx
    simp only [TS.visit] at hx ⊢
    by_cases ex : x = v
    · exact ⟨by simp [ex], v, by simp, by simp [ex], by rw [ex]; exact .refl _⟩
    · rw [if_neg ex] at hx
      obtain ⟨a, y, b, c, d⟩ := H.i8 x hx
      refine ⟨by simp [ex]; exact a, y, ?_, ?_, d⟩
      · rw [if_neg (nes y b)]; exact b
      · rw [if_neg (nes y b), if_neg ex]; exact c
  · -- i9
    intro i y z hi hle hown hp hy hz
    obtain ⟨yne, hp'⟩ := proc y z hp
    simp only [TS.visit] at hi hle hown hy hz ⊢
    rw [if_neg yne] at hle hy
    by_cases ei : i = S.h
    · simp only [ei, if_true] at hle
      have := H.ile y
      omega
    · simp only [ei, if_false] at hle ⊢
      rw [if_neg (gne i (by omega))] at hle ⊢
      by_cases ez : z = v
      · rw [if_pos ez]
        have a := (H.i8 (S.g i) (H.gon i (by omega))).1
        have b := H.ile (S.g i)
        omega
      · rw [if_neg ez] at hz ⊢
        refine H.i9 i y z (by omega) hle (fun h1 => ?_) hp' hy hz
        have := hown (by omega)
        rw [if_neg yne, if_neg (show i + 1 ≠ S.h by omega), if_neg (gne _ h1)] at this
        exact this
end Go.Proofs.Qxb6605452a
