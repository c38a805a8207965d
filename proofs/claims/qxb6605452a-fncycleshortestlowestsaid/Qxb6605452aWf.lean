import Derived.Test.Qxb6605452aWe
namespace Go.Proofs.Qxb6605452a
open Go.RowKit

theorem zz_any (ta oa : Option Addr) (n tc oc : Nat) (tf : Nat → Int) (G : Gr) (s L : Nat) (p : Nat → Nat) (w : World) (hn : n ≤ 4096) (hsum : sumTo n G.ol ≤ 131072) (hG : G.In n) (hA : G.Asc n) (hC : Cyc G n s L p)
    (hT : Ints w ta n tf) (hR : Rows w oa n G.ol (fun v j => (G.of v j : Int))) :
    Calls Try.prog 21 #[.slice ta n tc, .slice oa n oc] w fun e w' => Below w.heap.size w w' ∧ CycRes w' n s L p tf e := by
  have B1 := bel_alloc (Below.refl w.heap.size w) (.cells #[.slice ta n tc, .slice oa n oc] 43)
  have R1 := World.rowIs_alloc w #[.slice ta n tc, .slice oa n oc] 43 (fun i => if i = 0 then .slice ta n tc else .slice oa n oc) (fun i hi => by
    have : i < 2 := by simpa using hi
    match i, this with
    | 0, _ => rfl
    | 1, _ => rfl)
  have HCALL : Hid (Calls Try.prog 29 _ _ _) := cycle_any w.heap.size 0 ta oa n tc oc tf G s L p (w.alloc (.cells #[.slice ta n tc, .slice oa n oc] 43)) hn hsum hG hA hC (R1.cell (i := 0) (by simp)) (R1.cell (i := 1) (by simp)) (hT.below B1 (Nat.le_refl _)) (hR.below B1 (Nat.le_refl _))
  have HB1 : Hid (Below w.heap.size w (w.alloc (.cells #[.slice ta n tc, .slice oa n oc] 43))) := B1
  clear B1 R1 hT hR hG hA hC
  go_enter Try.func21, Try.ntmps21
  go_wp2_with fail
  refine HCALL.out.mono ?_
  rintro e w' ⟨hb, hres⟩
  have HB2 : Hid (Below w.heap.size w w') := bel_trans HB1.out hb
  clear hb
  rcases hres with ⟨hs, rfl⟩ | ⟨hs, ad, cap, rfl, hi⟩
  · go_wp2
    go_ret
    exact ⟨HB2.out, .inl ⟨hs, rfl⟩⟩
  · have HI : Hid (Ints w' (some ad) L (fun k => tf (p k))) := hi
    clear hi
    go_wp2
    go_ret
    exact ⟨HB2.out, .inr ⟨hs, ad, cap, rfl, HI.out⟩⟩

theorem Rows.congr {w : World} {a : Option Addr} {n : Nat} {ol : Nat → Nat} {f g : Nat → Nat → Int} (h : Rows w a n ol f) (e : ∀ i, i < n → ∀ j, j < ol i → f i j = g i j) : Rows w a n ol g := by
  rcases h with h | ⟨b, off, sa, sc, ha, hc⟩
  · exact .inl h
  · exact .inr ⟨b, off, sa, sc, ha, fun i hi => ⟨(hc i hi).1, (hc i hi).2.1.congr (e i hi), (hc i hi).2.2⟩⟩

theorem asc_of {G : Gr} {n : Nat} (h : ∀ v, v < n → ∀ j, j + 1 < G.ol v → G.of v j ≤ G.of v (j + 1)) : G.Asc n := by
  intro v hv i j hij
  induction j with
  | zero => intro _; rw [show i = 0 by omega]; exact Nat.le_refl _
  | succ j ih =>
    intro hj
    by_cases e : i = j + 1
    · rw [e]; exact Nat.le_refl _
    · exact Nat.le_trans (ih (by omega) (by omega)) (h v hv j hj)

set_option maxHeartbeats 4000000 in
theorem law_any (ta oa : Option Addr) (m n tc oc : Nat) (tf : Nat → Int) (ol : Nat → Nat) (f : Nat → Nat → Int) (w : World) (hzt : ta.isNone = true → m = 0) (hzo : oa.isNone = true → n = 0) (hT : Ints w ta m tf) (hR : Rows w oa n ol f) :
    Calls Try.prog 5 #[.slice ta m tc, .slice oa n oc] w fun e w' => e = .returned (.bool true) ∧ Below w.heap.size w w' := by
  have HT : Hid (Ints w ta m tf) := hT
  have HR : Hid (Rows w oa n ol f) := hR
  have HZT : Hid (ta.isNone = true → m = 0) := hzt
  have HZO : Hid (oa.isNone = true → n = 0) := hzo
  clear hT hR hzt hzo
  go_enter Try.func5, Try.ntmps5
  go_wp2_with fail
  refine (bytes19_any ta oa m n tc oc ol f w HR.out).mono ?_
  rintro e w1 ⟨r, rfl, d1, -⟩
  have HB1 : Hid (Below w.heap.size w w1) := d1.below _
  have HT1 : Hid (Ints w1 ta m tf) := HT.out.below HB1.out (Nat.le_refl _)
  have HR1 : Hid (Rows w1 oa n ol f) := HR.out.below HB1.out (Nat.le_refl _)
  clear d1 HT HR
  cases r
  · go_wp2
    go_ret
    exact ⟨rfl, HB1.out⟩
  go_wp2_with fail
  refine (bytes8_any ta oa m n tc oc ol f w1 HR1.out).mono ?_
  rintro e w' ⟨z, rfl, rfl, hz⟩
  by_cases hz0 : 1048576 < z
  · have t1 : decide ((1048576 : Int) < z) = true := decide_eq_true (by omega)
    clear hz
    go_wp2
    go_ret
    exact ⟨rfl, HB1.out⟩
  have t1 : decide ((1048576 : Int) < z) = false := decide_eq_false (by omega)
  have hz1 : z ≤ 1048576 := by omega
  have hz2 := hz hz1
  have hsum : sumTo n ol ≤ 131072 := by omega
  have hol : ∀ i, i < n → ol i ≤ 131072 := fun i hi => by
    have := sumTo_mono (f := ol) (k := i + 1) (n := n) (by omega)
    simp only [sumTo] at this; omega
  have HOL : Hid (∀ i, i < n → ol i ≤ 131072) := hol
  clear hz hz1 hz2 hol
  by_cases hm0 : 4096 < m
  · have t2 : decide ((4096 : Int) < (m : Int)) = true := decide_eq_true (by omega)
    go_wp2
    go_ret
    exact ⟨rfl, HB1.out⟩
  have t2 : decide ((4096 : Int) < (m : Int)) = false := decide_eq_false (by omega)
  have hm : m ≤ 4096 := by omega
  by_cases hn0 : 4096 < n
  · have t3 : decide ((4096 : Int) < (n : Int)) = true := decide_eq_true (by omega)
    go_wp2
    go_ret
    exact ⟨rfl, HB1.out⟩
  have t3 : decide ((4096 : Int) < (n : Int)) = false := decide_eq_false (by omega)
  have hn : n ≤ 4096 := by omega
  clear hz0 hm0 hn0
  go_wp2_with fail
  refine (inRange_any ta oa m n tc oc ol f w' hm hn HOL.out HR1.out).mono ?_
  rintro e w2 ⟨r, rfl, d2, hq⟩
  have HB2 : Hid (Below w.heap.size w w2) := bel_trans HB1.out (d2.below _)
  have HT2 : Hid (Ints w2 ta m tf) := HT1.out.below (d2.below _) (Nat.le_refl _)
  have HR2 : Hid (Rows w2 oa n ol f) := HR1.out.below (d2.below _) (Nat.le_refl _)
  clear d2 HT1 HR1
  cases r
  · clear hq
    go_wp2
    go_ret
    exact ⟨rfl, HB2.out⟩
  have hq1 := hq rfl
  clear hq
  obtain ⟨emn, hrg⟩ := hq1
  subst emn
  have HRG : Hid (∀ v, v < n → ∀ j, j < ol v → 0 ≤ f v j ∧ f v j < n) := hrg
  clear hrg t2
  go_wp2_with fail
  refine (ascending_any oa n oc ol f w2 hn HOL.out HR2.out).mono ?_
  rintro e w3 ⟨r, rfl, d3, hq⟩
  have HB3 : Hid (Below w.heap.size w w3) := bel_trans HB2.out (d3.below _)
  have HT3 : Hid (Ints w3 ta n tf) := HT2.out.below (d3.below _) (Nat.le_refl _)
  have hr3 : Rows w3 oa n ol f := HR2.out.below (d3.below _) (Nat.le_refl _)
  clear d3 HT2 HR2
  cases r
  · clear hq
    go_wp2
    go_ret
    exact ⟨rfl, HB3.out⟩
  have hq1 := hq rfl
  clear hq
  obtain ⟨G, hGd⟩ : ∃ G : Gr, G = ⟨ol, fun v j => (f v j).toNat⟩ := ⟨_, rfl⟩
  have hGol : G.ol = ol := by rw [hGd]
  have hGof : ∀ v, v < n → ∀ j, j < ol v → f v j = (G.of v j : Int) := fun v hv j hj => by
    rw [hGd]
    have := (HRG.out v hv j hj).1
    show f v j = ((f v j).toNat : Int)
    omega
  have HG : Hid (G.In n) := fun u x hu ⟨j, hj, e⟩ => by
    rw [hGol] at hj
    have h1 := hGof u hu j hj
    have h2 := (HRG.out u hu j hj).2
    rw [e] at h1
    omega
  have HA : Hid (G.Asc n) := asc_of fun v hv j hj => by
    rw [hGol] at hj
    have h1 := hq1 v hv j hj
    rw [hGof v hv j (by omega), hGof v hv (j + 1) hj] at h1
    omega
  have HR3 : Hid (Rows w3 oa n G.ol (fun v j => (G.of v j : Int))) := by
    rw [hGol]
    exact Rows.congr hr3 hGof
  have HOL' : Hid (∀ i, i < n → G.ol i ≤ 131072) := by rw [hGol]; exact HOL.out
  have hsumG : sumTo n G.ol ≤ 131072 := by rw [hGol]; exact hsum
  obtain ⟨s, L, p, hcyc⟩ := cyc_exists G n
  have HC : Hid (Cyc G n s L p) := hcyc
  have hLn : s < n → L ≤ n := fun hs => (hcyc.gp hs).len HG.out hs
  clear hr3 hq1 hGd hGol hGof HRG HOL hsum hcyc
  go_wp2_with fail
  refine (copyI_any ta n tc tf w3 (by omega) HZT.out HT3.out).mono ?_
  rintro e w4 ⟨ta', tc', rfl, hnn, hb4, hi4, -⟩
  have HB4 : Hid (Below w.heap.size w w4) := bel_trans HB3.out hb4
  have HT4 : Hid (Ints w4 ta' n tf) := hi4
  have HR4 : Hid (Rows w4 oa n G.ol (fun v j => (G.of v j : Int))) := HR3.out.below hb4 (Nat.le_refl _)
  clear hb4 hi4 hnn HR3 HT3
  go_wp2_with fail
  refine (cloneRows_any oa n oc G.ol (fun v j => (G.of v j : Int)) w4 hn HOL'.out HZO.out HR4.out).mono ?_
  rintro e w5 ⟨oa', oc', rfl, hb5, hr5⟩
  have HB5 : Hid (Below w.heap.size w w5) := bel_trans HB4.out hb5
  have HT5 : Hid (Ints w5 ta' n tf) := HT4.out.below hb5 (Nat.le_refl _)
  have HR5 : Hid (Rows w5 oa' n G.ol (fun v j => (G.of v j : Int))) := hr5
  clear hb5 hr5 HR4 HT4
  go_wp2_with fail
  refine (zz_any ta' oa' n tc' oc' tf G s L p w5 hn hsumG HG.out HA.out HC.out HT5.out HR5.out).mono ?_
  rintro e w6 ⟨hb6, hres⟩
  have HB6 : Hid (Below w.heap.size w w6) := bel_trans HB5.out hb6
  have HT6 : Hid (Ints w6 ta' n tf) := HT5.out.below hb6 (Nat.le_refl _)
  have HR6 : Hid (Rows w6 oa' n G.ol (fun v j => (G.of v j : Int))) := HR5.out.below hb6 (Nat.le_refl _)
  clear hb6 HR5 HT5
  rcases hres with ⟨hs, rfl⟩ | ⟨hs, ad, cap, rfl, hi⟩
  · go_wp2_with fail
    refine (model_any ta' oa' n tc' oc' tf G s L p w6 hn hsumG HG.out HC.out HT6.out HR6.out).mono ?_
    rintro e w7 ⟨hb7, hres⟩
    have HB7 : Hid (Below w.heap.size w w7) := bel_trans HB6.out hb7
    clear hb7
    rcases hres with ⟨_, rfl⟩ | ⟨hs2, _⟩
    · go_wp2_with fail
      refine (sameI_any none none 0 0 0 (fun _ => 0) w7 (by omega) rfl (.inl rfl) (.inl rfl)).mono ?_
      rintro e w8 ⟨rfl, d8⟩
      have HB8 : Hid (Below w.heap.size w w8) := bel_trans HB7.out (d8.below _)
      clear d8
      go_wp2
      go_ret
      exact ⟨rfl, HB8.out⟩
    · omega
  · have HI6 : Hid (Ints w6 (some ad) L (fun k => tf (p k))) := hi
    clear hi
    go_wp2_with fail
    refine (model_any ta' oa' n tc' oc' tf G s L p w6 hn hsumG HG.out HC.out HT6.out HR6.out).mono ?_
    rintro e w7 ⟨hb7, hres⟩
    have HB7 : Hid (Below w.heap.size w w7) := bel_trans HB6.out hb7
    have HI7 : Hid (Ints w7 (some ad) L (fun k => tf (p k))) := HI6.out.below hb7 (Nat.le_refl _)
    clear hb7
    rcases hres with ⟨hs2, _⟩ | ⟨_, ad2, cap2, rfl, hi2⟩
    · omega
    · have HI2 : Hid (Ints w7 (some ad2) L (fun k => tf (p k))) := hi2
      have hL := hLn hs
      clear hi2 hLn
      go_wp2_with fail
      refine (sameI_any (some ad) (some ad2) L cap cap2 (fun k => tf (p k)) w7 (by omega) rfl HI7.out HI2.out).mono ?_
      rintro e w8 ⟨rfl, d8⟩
      have HB8 : Hid (Below w.heap.size w w8) := bel_trans HB7.out (d8.below _)
      clear d8
      go_wp2
      go_ret
      exact ⟨rfl, HB8.out⟩
end Go.Proofs.Qxb6605452a
