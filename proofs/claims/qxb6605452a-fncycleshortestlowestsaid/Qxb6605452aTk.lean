import Derived.Test.Qxb6605452aTj
namespace Go.Proofs.Qxb6605452a

/-- Frame i has looked at one more successor. -/
def TS.advAt (S : TS) (i : Nat) : TS := { S with nx := fun j => if j = i then S.nx j + 1 else S.nx j }
/-- v's low mark sinks to m. -/
def TS.lowAt (S : TS) (v m : Nat) : TS := { S with low := fun x => if x = v then min (S.low v) m else S.low x }
/-- The top frame goes. -/
def TS.back (S : TS) : TS := { S with h := S.h - 1 }

theorem TS.Inv.ginj {S : TS} {G : Gr} {n : Nat} (H : S.Inv G n) {i j : Nat} (hi : i < S.h) (hj : j < S.h) (e : S.g i = S.g j) : i = j := by
  rcases Nat.lt_trichotomy i j with h | h | h
  · have := H.gmono i j h hj; rw [e] at this; omega
  · exact h
  · have := H.gmono j i h hi; rw [e] at this; omega

theorem TS.Inv.advAt {S : TS} {G : Gr} {n i : Nat} (H : S.Inv G n) (hi : i < S.h) (hn : S.nx i < G.ol (S.g i)) (hd : S.idx (G.of (S.g i) (S.nx i)) ≠ 0)
    (hl : S.onS (G.of (S.g i) (S.nx i)) = true → S.low (S.g i) ≤ S.idx (G.of (S.g i) (S.nx i))) : (S.advAt i).Inv G n := by
  have proc : ∀ u w, (S.advAt i).Proc G u w → S.Proc G u w ∨ (u = S.g i ∧ w = G.of (S.g i) (S.nx i)) := by
    rintro u w ⟨j, hj, he, hu, hg⟩
    by_cases hx : u = S.g i ∧ j = S.nx i
    · obtain ⟨rfl, rfl⟩ := hx
      exact .inr ⟨rfl, he.symm⟩
    · refine .inl ⟨j, hj, he, hu, fun i' hi' hg' => ?_⟩
      have := hg i' hi' hg'
      simp only [TS.advAt] at this
      by_cases e : i' = i
      · subst e
        rw [if_pos rfl] at this
        have : j ≠ S.nx i' := fun ej => hx ⟨hg'.symm, ej⟩
        omega
      · rw [if_neg e] at this; exact this
  refine ⟨H.ilt, H.ile, H.inj, H.ons, H.pos, H.smono, H.gon, H.gmono, ?_, H.i3, H.i4, ?_, H.i6, H.i7, H.cnc, H.siz, H.i8, ?_⟩
  · intro i' hi'
    have := H.nxle i' hi'
    simp only [TS.advAt]
    by_cases e : i' = i
    · subst e; rw [if_pos rfl]; omega
    · rw [if_neg e]; exact this
  · intro u w hp
    rcases proc u w hp with h | ⟨_, rfl⟩
    · exact H.i5 u w h
    · exact hd
  · intro i' y z hi' hle hown hp hy hz
    rcases proc y z hp with h | ⟨rfl, rfl⟩
    · exact H.i9 i' y z hi' hle hown h hy hz
    · have hi'' : i' < S.h := hi'
      have hle' : S.idx (S.g i') ≤ S.idx (S.g i) := hle
      have hown' : i' + 1 < S.h → S.idx (S.g i) < S.idx (S.g (i' + 1)) := hown
      have e : i' = i := by
        rcases Nat.lt_trichotomy i' i with h | h | h
        · have a := hown' (by omega)
          by_cases e1 : i' + 1 = i
          · rw [e1] at a; omega
          · have := H.gmono (i' + 1) i (by omega) hi; omega
        · exact h
        · have := H.gmono i i' h hi''; omega
      subst e
      exact hl hz

theorem TS.Inv.lowAt {S : TS} {G : Gr} {n v m : Nat} (H : S.Inv G n) {y : Nat} (hy : S.onS y = true) (hm : S.idx y = m) (hr : G.R v y) : (S.lowAt v m).Inv G n := by
  refine ⟨H.ilt, H.ile, H.inj, H.ons, H.pos, H.smono, H.gon, H.gmono, H.nxle, H.i3, H.i4, H.i5, H.i6, H.i7, H.cnc, H.siz, ?_, ?_⟩
  · intro x hx
    obtain ⟨a, y', b, c, d⟩ := H.i8 x hx
    simp only [TS.lowAt]
    by_cases e : x = v
    · subst e
      rw [if_pos rfl]
      refine ⟨by omega, ?_⟩
      by_cases hc : S.low x ≤ m
      · exact ⟨y', b, by rw [Nat.min_eq_left hc]; exact c, d⟩
      · exact ⟨y, hy, by rw [Nat.min_eq_right (by omega)]; exact hm, hr⟩
    · rw [if_neg e]
      exact ⟨a, y', b, c, d⟩
  · intro i y z hi hle hown hp hy hz
    have := H.i9 i y z hi hle hown hp hy hz
    simp only [TS.lowAt]
    by_cases e : S.g i = v
    · rw [if_pos e, ← e]; omega
    · rw [if_neg e]; exact this

theorem TS.back_proc {S : TS} {G : Gr} (h0 : 0 < S.h) (hn : S.nx (S.h - 1) = G.ol (S.g (S.h - 1))) {u w : Nat} {T : TS} (hT : T.idx = S.idx) (hg : T.g = S.g) (hnx : T.nx = S.nx) (hh : T.h = S.h - 1) (hp : T.Proc G u w) : S.Proc G u w := by
  obtain ⟨j, hj, he, hu, hq⟩ := hp
  refine ⟨j, hj, he, by rw [← hT]; exact hu, fun i hi hgi => ?_⟩
  by_cases e : i = S.h - 1
  · subst e
    rw [hn, hgi]; exact hj
  · have := hq i (by omega) (by rw [hg]; exact hgi)
    rw [hnx] at this; exact this

theorem TS.Inv.back {S : TS} {G : Gr} {n : Nat} (H : S.Inv G n) (h0 : 0 < S.h) (hn : S.nx (S.h - 1) = G.ol (S.g (S.h - 1))) (hl : S.low (S.g (S.h - 1)) < S.idx (S.g (S.h - 1)))
    (hp : 2 ≤ S.h → S.low (S.g (S.h - 2)) ≤ S.low (S.g (S.h - 1))) : S.back.Inv G n := by
  have proc : ∀ u w, S.back.Proc G u w → S.Proc G u w := fun u w h => TS.back_proc (T := S.back) h0 hn rfl rfl rfl rfl h
  refine ⟨H.ilt, H.ile, H.inj, H.ons, H.pos, H.smono, ?_, ?_, ?_, ?_, ?_, ?_, H.i6, H.i7, H.cnc, H.siz, H.i8, ?_⟩
  · exact fun i hi => H.gon i (by simp only [TS.back] at hi; omega)
  · exact fun i j hij hj => H.gmono i j hij (by simp only [TS.back] at hj; omega)
  · exact fun i hi => H.nxle i (by simp only [TS.back] at hi; omega)
  · exact fun i hi => H.i3 i (by simp only [TS.back] at hi; omega)
  · intro y hy
    obtain ⟨i, hi, hle, hr⟩ := H.i4 y hy
    by_cases e : i = S.h - 1
    · subst e
      obtain ⟨_, y0, a, b, c⟩ := H.i8 _ (H.gon (S.h - 1) (by omega))
      obtain ⟨i0, hi0, hle0, hr0⟩ := H.i4 y0 a
      refine ⟨i0, ?_, ?_, (hr.trans c).trans hr0⟩
      · simp only [TS.back]
        have : i0 ≠ S.h - 1 := by intro e; rw [e] at hle0; omega
        omega
      · simp only [TS.back]; omega
    · exact ⟨i, by simp only [TS.back]; omega, hle, hr⟩
  · exact fun u w h => H.i5 u w (proc u w h)
  · intro i y z hi hle hown hpr hy hz
    simp only [TS.back] at hi hle hown hy hz ⊢
    by_cases e : i + 1 < S.h - 1
    · exact H.i9 i y z (by omega) hle (fun _ => hown e) (proc y z hpr) hy hz
    · have ei : i = S.h - 2 := by omega
      by_cases hc : S.idx y < S.idx (S.g (S.h - 1))
      · exact H.i9 i y z (by omega) hle (fun _ => by rw [show i + 1 = S.h - 1 by omega]; exact hc) (proc y z hpr) hy hz
      · have := H.i9 (S.h - 1) y z (by omega) (by omega) (fun h => by omega) (proc y z hpr) hy hz
        have := hp (by omega)
        rw [ei]; omega

/-- With one frame alone, its low mark is its index. -/
theorem TS.Inv.root_low {S : TS} {G : Gr} {n : Nat} (H : S.Inv G n) (h1 : S.h = 1) : S.low (S.g 0) = S.idx (S.g 0) := by
  obtain ⟨a, y, b, c, d⟩ := H.i8 (S.g 0) (H.gon 0 (by omega))
  obtain ⟨i, hi, hle, _⟩ := H.i4 y b
  have : i = 0 := by omega
  subst this
  omega

/-- A component is taken off the stack. -/
structure TS.PopTo (S S' : TS) (p : Nat) : Prop where
  idx : S'.idx = S.idx
  low : S'.low = S.low
  s : S'.s = S.s
  vis : S'.vis = S.vis
  g : S'.g = S.g
  nx : S'.nx = S.nx
  h : S'.h = S.h - 1
  k : S'.k = p
  nc : S'.nc = S.nc + 1
  onS : ∀ x, S'.onS x = true ↔ S.onS x = true ∧ S.idx x < S.idx (S.g (S.h - 1))
  cin : ∀ x, S.onS x = true → S.idx (S.g (S.h - 1)) ≤ S.idx x → S'.comp x = S.nc
  cout : ∀ x, S.onS x = false → S'.comp x = S.comp x
  sin : S'.size S.nc = S.k - p
  sout : ∀ c, c < S.nc → S'.size c = S.size c

theorem TS.Inv.asg_closed {S : TS} {G : Gr} {n : Nat} (H : S.Inv G n) {u w : Nat} (hr : G.R u w) : S.idx u ≠ 0 → S.onS u = false → S.idx w ≠ 0 ∧ S.onS w = false := by
  induction hr with
  | refl => exact fun a b => ⟨a, b⟩
  | step e _ ih => exact fun a b => by obtain ⟨c, d⟩ := H.i6 _ _ a b e; exact ih c d

theorem TS.Inv.pop {S S' : TS} {G : Gr} {n p : Nat} (H : S.Inv G n) (h0 : 0 < S.h) (hn : S.nx (S.h - 1) = G.ol (S.g (S.h - 1))) (hl : S.low (S.g (S.h - 1)) = S.idx (S.g (S.h - 1)))
    (hpk : p < S.k) (hsp : S.s p = S.g (S.h - 1)) (P : S.PopTo S' p) : S'.Inv G n := by
  obtain ⟨v, hv⟩ : ∃ v, v = S.g (S.h - 1) := ⟨_, rfl⟩
  rw [← hv] at hn hl hsp
  have Pon := P.onS
  have Pcin := P.cin
  rw [← hv] at Pcin
  have Pon' : ∀ x, S'.onS x = true ↔ S.onS x = true ∧ S.idx x < S.idx v := fun x => by rw [Pon x, hv]
  have vst : S.onS v = true := hv ▸ H.gon _ (by omega)
  have F1 : ∀ x, S.onS x = true → S.idx v ≤ S.idx x → G.R v x := fun x a b => by rw [hv]; exact H.i3 (S.h - 1) (by omega) x a (by rw [← hv]; exact b)
  have F2 : ∀ x, S.onS x = true → S.idx v ≤ S.idx x → G.R x v := by
    intro x a b
    obtain ⟨i, hi, hle, hr⟩ := H.i4 x a
    refine hr.trans (H.i3 i hi v vst ?_)
    by_cases e : i = S.h - 1
    · rw [e, hv]; exact Nat.le_refl _
    · rw [hv]; exact Nat.le_of_lt (H.gmono i (S.h - 1) (by omega) (by omega))
  have F3 : ∀ y z, S.onS y = true → S.idx v ≤ S.idx y → G.E y z → S.idx z ≠ 0 ∧ (S.onS z = true → S.idx v ≤ S.idx z) := by
    rintro y z a b ⟨j, hj, he⟩
    have hp : S.Proc G y z := by
      refine ⟨j, hj, he, H.pos y a, fun i hi hg => ?_⟩
      have : i = S.h - 1 := by
        by_cases e : i = S.h - 1
        · exact e
        · have := H.gmono i (S.h - 1) (by omega) (by omega)
          rw [hg, ← hv] at this
          omega
      subst this
      rw [← hv] at hg
      rw [hn, hg]
      exact hj
    refine ⟨H.i5 y z hp, fun c => ?_⟩
    have := H.i9 (S.h - 1) y z (by omega) (by rw [← hv]; exact b) (fun h => by omega) hp a c
    rw [← hv] at this
    omega
  have F5 : ∀ y z, G.R y z → S.onS y = true → S.idx v ≤ S.idx y → S.idx z ≠ 0 ∧ (S.onS z = true → S.idx v ≤ S.idx z) := by
    intro y z hr
    induction hr with
    | refl => exact fun a b => ⟨H.pos _ a, fun _ => b⟩
    | @step _ m _ e hr' ih =>
      intro a b
      obtain ⟨c, d⟩ := F3 _ _ a b e
      by_cases hm : S.onS m = true
      · exact ih hm (d hm)
      · have := H.asg_closed hr' c (by simpa using hm)
        exact ⟨this.1, fun h => by rw [this.2] at h; cases h⟩
  have F6 : ∀ x w, S.onS x = true → S.idx v ≤ S.idx x → G.R x w → G.R w x → S.onS w = true ∧ S.idx v ≤ S.idx w := by
    intro x w a b c d
    obtain ⟨e, f⟩ := F5 x w c a b
    by_cases hw : S.onS w = true
    · exact ⟨hw, f hw⟩
    · have := H.asg_closed d e (by simpa using hw)
      rw [this.2] at a; cases a
  have off : ∀ x, S'.idx x ≠ 0 → S'.onS x = false → (S.idx x ≠ 0 ∧ S.onS x = false) ∨ (S.onS x = true ∧ S.idx v ≤ S.idx x) := by
    intro x a b
    rw [P.idx] at a
    by_cases c : S.onS x = true
    · right
      refine ⟨c, ?_⟩
      by_cases d : S.idx x < S.idx v
      · rw [(Pon' x).2 ⟨c, d⟩] at b; cases b
      · omega
    · exact .inl ⟨a, by simpa using c⟩
  have off' : ∀ x, S.idx x ≠ 0 → (S.onS x = true → S.idx v ≤ S.idx x) → S'.idx x ≠ 0 ∧ S'.onS x = false := by
    intro x a b
    refine ⟨by rw [P.idx]; exact a, ?_⟩
    cases c : S'.onS x with
    | false => rfl
    | true => obtain ⟨d, e⟩ := (Pon' x).1 c; have := b d; omega
  have sub : ∀ x, S'.onS x = true → S.onS x = true := fun x h => ((Pon' x).1 h).1
  have slt : ∀ x, S'.onS x = true → S.idx x < S.idx v := fun x h => ((Pon' x).1 h).2
  have proc : ∀ u w, S'.Proc G u w → S.Proc G u w := fun u w h => TS.back_proc h0 (by rw [← hv]; exact hn) P.idx P.g P.nx P.h h
  have sge : ∀ i, i < S.k → S.idx v ≤ S.idx (S.s i) → p ≤ i := by
    intro i hi hle
    by_cases e : p ≤ i
    · exact e
    · have := H.smono i p (by omega) hpk
      rw [hsp] at this; omega
  have sge' : ∀ i, i < S.k → p ≤ i → S.idx v ≤ S.idx (S.s i) := by
    intro i hi hle
    by_cases e : i = p
    · rw [e, hsp]; exact Nat.le_refl _
    · have := H.smono p i (by omega) hi
      rw [hsp] at this; omega
  constructor
  · rw [P.idx]; exact H.ilt
  · rw [P.idx, P.vis]; exact H.ile
  · rw [P.idx]; exact H.inj
  · intro x
    rw [Pon' x, P.s, P.k, H.ons x]
    constructor
    · rintro ⟨⟨i, hi, hs⟩, hlt⟩
      refine ⟨i, ?_, hs⟩
      by_cases e : i < p
      · exact e
      · have := sge' i hi (by omega)
        rw [hs] at this; omega
    · rintro ⟨i, hi, hs⟩
      refine ⟨⟨i, by omega, hs⟩, ?_⟩
      have := H.smono i p hi hpk
      rw [hsp, hs] at this; exact this
  · intro x hx; rw [P.idx]; exact H.pos x (sub x hx)
  · intro i j hij hj
    rw [P.idx, P.s]
    rw [P.k] at hj
    exact H.smono i j hij (by omega)
  · intro i hi
    rw [P.h] at hi
    rw [P.g]
    refine (Pon' _).2 ⟨H.gon i (by omega), ?_⟩
    rw [hv]; exact H.gmono i (S.h - 1) (by omega) (by omega)
  · intro i j hij hj
    rw [P.h] at hj
    rw [P.idx, P.g]; exact H.gmono i j hij (by omega)
  · intro i hi
    rw [P.h] at hi
    rw [P.nx, P.g]; exact H.nxle i (by omega)
  · intro i hi y hy hle
    rw [P.h] at hi
    rw [P.idx, P.g] at hle
    rw [P.g]; exact H.i3 i (by omega) y (sub y hy) hle
  · intro y hy
    obtain ⟨i, hi, hle, hr⟩ := H.i4 y (sub y hy)
    have a := slt y hy
    have : i ≠ S.h - 1 := by intro e; rw [e, ← hv] at hle; omega
    exact ⟨i, by rw [P.h]; omega, by rw [P.idx, P.g]; exact hle, by rw [P.g]; exact hr⟩
  · intro u w h
    rw [P.idx]; exact H.i5 u w (proc u w h)
  · intro u w a b e
    rcases off u a b with ⟨c, d⟩ | ⟨c, d⟩
    · obtain ⟨f, k⟩ := H.i6 u w c d e
      exact off' w f (fun h => by rw [k] at h; cases h)
    · obtain ⟨f, k⟩ := F3 u w c d e
      exact off' w f k
  · intro u w a b c d
    rcases off u a b with ⟨a1, a2⟩ | ⟨a1, a2⟩ <;> rcases off w c d with ⟨c1, c2⟩ | ⟨c1, c2⟩
    · rw [P.cout u a2, P.cout w c2]; exact H.i7 u w a1 a2 c1 c2
    · rw [P.cout u a2, Pcin w c1 c2]
      have := H.cnc u a1 a2
      constructor
      · intro h; omega
      · rintro ⟨h, _⟩
        have := H.asg_closed h a1 a2
        rw [this.2] at c1; cases c1
    · rw [P.cout w c2, Pcin u a1 a2]
      have := H.cnc w c1 c2
      constructor
      · intro h; omega
      · rintro ⟨_, h⟩
        have := H.asg_closed h c1 c2
        rw [this.2] at a1; cases a1
    · rw [Pcin u a1 a2, Pcin w c1 c2]
      exact ⟨fun _ => ⟨(F2 u a1 a2).trans (F1 w c1 c2), (F2 w c1 c2).trans (F1 u a1 a2)⟩, fun _ => rfl⟩
  · intro u a b
    rw [P.nc]
    rcases off u a b with ⟨a1, a2⟩ | ⟨a1, a2⟩
    · rw [P.cout u a2]; have := H.cnc u a1 a2; omega
    · rw [Pcin u a1 a2]; omega
  · intro u a b
    rcases off u a b with ⟨a1, a2⟩ | ⟨a1, a2⟩
    · rw [P.cout u a2, P.sout _ (H.cnc u a1 a2)]; exact H.siz u a1 a2
    · rw [Pcin u a1 a2, P.sin]
      constructor
      · intro hk
        have ne : S.s p ≠ S.s (p + 1) := by
          intro e
          have := H.smono p (p + 1) (by omega) (by omega)
          rw [e] at this; omega
        have pick : ∃ i, p ≤ i ∧ i < S.k ∧ S.s i ≠ u := by
          by_cases e : S.s p = u
          · exact ⟨p + 1, by omega, by omega, fun h => ne (by rw [e, h])⟩
          · exact ⟨p, by omega, by omega, e⟩
        obtain ⟨i, i1, i2, i3⟩ := pick
        have c1 : S.onS (S.s i) = true := (H.ons _).2 ⟨i, i2, rfl⟩
        have c2 := sge' i i2 i1
        exact ⟨S.s i, i3, (F2 u a1 a2).trans (F1 _ c1 c2), (F2 _ c1 c2).trans (F1 u a1 a2)⟩
      · rintro ⟨w, wne, r1, r2⟩
        obtain ⟨c1, c2⟩ := F6 u w a1 a2 r1 r2
        obtain ⟨i, hi, rfl⟩ := (H.ons u).1 a1
        obtain ⟨j, hj, rfl⟩ := (H.ons w).1 c1
        have := sge i hi a2
        have := sge j hj c2
        have : i ≠ j := fun e => wne (by rw [e])
        omega
  · intro x hx
    obtain ⟨a, y, b, c, d⟩ := H.i8 x (sub x hx)
    rw [P.low, P.idx]
    exact ⟨a, y, (Pon' y).2 ⟨b, by have := slt x hx; omega⟩, c, d⟩
  · intro i y z hi hle hown hpr hy hz
    rw [P.h] at hi hown
    rw [P.idx, P.g] at hle hown
    rw [P.low, P.g, P.idx]
    refine H.i9 i y z (by omega) hle (fun h => ?_) (proc y z hpr) (sub y hy) (sub z hz)
    by_cases e : i + 1 < S.h - 1
    · exact hown e
    · rw [show i + 1 = S.h - 1 by omega, ← hv]
      exact slt y hy
end Go.Proofs.Qxb6605452a
