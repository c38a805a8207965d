import Derived.Test.Qxb6605337aW4
import Derived.Deep.RegionWith
import Derived.Deep.DeepCutAuto
namespace Go.Proofs.Qxb6605337a
open Go.RowKit

/-- A secret in memory of the clone's own: from block lo on, not the keys' own. -/
def OwnS (w : World) (lo bk : Nat) (a : Option Addr) (n : Nat) : Prop := n = 0 ∨ ∃ g m F, a = some ⟨g, 0, none⟩ ∧ lo ≤ g ∧ g ≠ bk ∧ n ≤ m ∧ w.rowIs g 5 m F

/-- The clone's keys at block bk, the first k secrets cloned. -/
def CK (w : World) (lo bk m n k : Nat) (D : KD) : Prop :=
  ∃ (F : Nat → Value) (sa : Nat → Option Addr) (sc : Nat → Nat), w.rowIs bk 38 m F ∧ n * 2 ≤ m ∧ ∀ i, i < n →
    F (i * 2) = .int .u8 (D.id i) ∧ F (i * 2 + 1) = .slice (sa i) (D.sl i) (sc i) ∧ Sec w D i (sa i) ∧ (0 < D.sl i → ∀ x, sa i = some x → x.block ≠ bk) ∧ (i < k → OwnS w lo bk (sa i) (D.sl i))

theorem Bytes.setOther' {w : World} {a : Option Addr} {n : Nat} {f : Nat → Int} (h : Bytes w a n f) {p : Addr} (hp : 0 < n → ∀ x, a = some x → x.block ≠ p.block) (v : Value) : Bytes (w.setCell p v) a n f := by
  by_cases h0 : n = 0
  · exact .inl h0
  · exact h.setOther (hp (by omega)) v

theorem OwnS.below {w w' : World} {lo bk : Nat} {a : Option Addr} {n : Nat} (h : OwnS w lo bk a n) (hb : Below w.heap.size w w') : OwnS w' lo bk a n := by
  rcases h with h | ⟨g, m, F, h1, h2, h3, h4, h5⟩
  · exact .inl h
  · exact .inr ⟨g, m, F, h1, h2, h3, h4, rowIs_below h5 hb h5.lt⟩

theorem OwnS.set {w : World} {lo bk j : Nat} {a : Option Addr} {n : Nat} (h : OwnS w lo bk a n) (v : Value) : OwnS (w.setCell ⟨bk, j, none⟩ v) lo bk a n := by
  rcases h with h | ⟨g, m, F, h1, h2, h3, h4, h5⟩
  · exact .inl h
  · exact .inr ⟨g, m, F, h1, h2, h3, h4, h5.setOther h3 v⟩

theorem CK.below {w w' : World} {lo bk m n k : Nat} {D : KD} (h : CK w lo bk m n k D) (hb : Below w.heap.size w w') : CK w' lo bk m n k D := by
  obtain ⟨F, sa, sc, hr, hm, hi⟩ := h
  refine ⟨F, sa, sc, rowIs_below hr hb hr.lt, hm, fun i hin => ?_⟩
  obtain ⟨h1, h2, h3, h4, h5⟩ := hi i hin
  exact ⟨h1, h2, h3.below hb (Nat.le_refl _), h4, fun hk => (h5 hk).below hb⟩

theorem CK.step {w w2 : World} {lo bk m n k : Nat} {D : KD} (h : CK w lo bk m n k D) (hk : k < n) (hb : Below w.heap.size w w2) {a : Option Addr} {c : Nat} (hs : Sec w2 D k a) (hn : 0 < D.sl k → ∀ x, a = some x → x.block ≠ bk) (ho : OwnS w2 lo bk a (D.sl k)) :
    CK (w2.setCell ⟨bk, k * 2 + 1, none⟩ (.slice a (D.sl k) c)) lo bk m n (k + 1) D := by
  obtain ⟨F, sa, sc, hr, hm, hi⟩ := h
  have hr2 := (rowIs_below hr hb hr.lt).set (k * 2 + 1) (.slice a (D.sl k) c)
  refine ⟨_, fun i => if i = k then a else sa i, fun i => if i = k then c else sc i, hr2, hm, fun i hin => ?_⟩
  obtain ⟨h1, h2, h3, h4, h5⟩ := hi i hin
  by_cases e : i = k
  · subst e
    simp only [if_true]
    refine ⟨?_, trivial, ⟨hs.1, hs.2.setOther' (fun h0 x hx => hn h0 x hx) _⟩, hn, fun _ => ho.set _⟩
    rw [if_neg (by omega)]; exact h1
  · simp only [e, if_false]
    rw [if_neg (by omega), if_neg (by omega)]
    have h3' := h3.below hb (Nat.le_refl _)
    exact ⟨h1, h2, ⟨h3'.1, h3'.2.setOther' (fun h0 x hx => h4 h0 x hx) _⟩, h4, fun hik => ((h5 (by omega)).below hb).set _⟩

theorem CK.keys {w : World} {lo bk m n k : Nat} {D : KD} (h : CK w lo bk m n k D) : Keys w (some ⟨bk, 0, none⟩) n D := by
  obtain ⟨F, sa, sc, hr, hm, hi⟩ := h
  refine .inr ⟨bk, 0, sa, sc, rfl, fun i hin => ?_⟩
  obtain ⟨h1, h2, h3, _⟩ := hi i hin
  refine ⟨?_, ?_, h3⟩
  · rw [Nat.zero_add, hr.cell (by omega), h1]
  · rw [Nat.zero_add, hr.cell (by omega), h2]

theorem CK.setOther {w : World} {lo bk m n : Nat} {D : KD} (h : CK w lo bk m n n D) {p : Addr} (h1 : p.block ≠ bk) (h2 : p.block < lo) (v : Value) : CK (w.setCell p v) lo bk m n n D := by
  obtain ⟨F, sa, sc, hr, hm, hi⟩ := h
  refine ⟨F, sa, sc, hr.setOther (Ne.symm h1) v, hm, fun i hin => ?_⟩
  obtain ⟨i1, i2, i3, i4, i5⟩ := hi i hin
  refine ⟨i1, i2, ⟨i3.1, i3.2.setOther' (fun h0 x hx => ?_) v⟩, i4, fun hk => ?_⟩
  · rcases i5 hin with h | ⟨g, m', G, e, hg, _⟩
    · omega
    · rw [e] at hx; cases hx; simp; omega
  · rcases i5 hin with h | ⟨g, m', G, e, hg, hgb, hgm, hgr⟩
    · exact .inl h
    · exact .inr ⟨g, m', G, e, hg, hgb, hgm, hgr.setOther (by omega) v⟩

/-- slices.Clone of a secret. -/
theorem cloneB_any (a : Option Addr) (n c bk lo : Nat) (f : Nat → Int) (w : World) (hn : n ≤ 1048576) (hz : a.isNone = true → n = 0) (h0 : Bytes w a n f) (hbk : bk < w.heap.size) (hlo : lo ≤ w.heap.size) :
    Calls Try.prog 23 #[.slice a n c] w fun e w' => ∃ a' c', e = .returned (.slice a' n c') ∧ a'.isNone = a.isNone ∧ Below w.heap.size w w' ∧ Bytes w' a' n f ∧ (∀ x, a' = some x → x.block ≠ bk) ∧ OwnS w' lo bk a' n := by
  cases a with
  | none =>
    obtain rfl := hz rfl
    exact (cloneB_nil 0 c w).mono fun e w' ⟨he, hw⟩ => ⟨none, 0, he, rfl, hw ▸ Below.refl _ _, .inl rfl, fun x h => (by cases h), .inl rfl⟩
  | some ad =>
    refine (cloneB_some ad n c f w hn h0).mono ?_
    rintro e w' ⟨g, cap, F, he, hg, hnc, hb, hr, hF⟩
    refine ⟨_, _, he, rfl, hb, .inr ⟨g, 0, rfl, fun i hi => ?_⟩, fun x h => ?_, .inr ⟨g, cap, F, rfl, by omega, by omega, hnc, hr⟩⟩
    · rw [Nat.zero_add, hr.cell (by omega), hF i hi]
    · cases h; simp; omega

/-- Three cells. -/
def F3 (x y z : Value) (j : Nat) : Value := if j = 0 then x else if j = 1 then y else z

theorem row3 (w : World) (x y z : Value) (t : TypeId) : (w.alloc (.cells #[x, y, z] t)).rowIs w.heap.size t 3 (F3 x y z) := by
  refine World.rowIs_alloc w #[x, y, z] t _ fun i hi => ?_
  have : i = 0 ∨ i = 1 ∨ i = 2 := by simp at hi; omega
  rcases this with rfl | rfl | rfl <;> rfl

set_option maxHeartbeats 1000000 in
theorem clone_nil (t s : Int) (c : Nat) (w : World) :
    Calls Try.prog 21 #[.agg #[.int .u8 t, .slice none 0 c, .int .u8 s]] w fun e w' => e = .returned (.agg #[.int .u8 t, .slice none 0 0, .int .u8 s]) ∧ Below w.heap.size w w' := by
  go_enter Try.func21, Try.ntmps21
  go_wp2_with fail
  refine (cloneK_nil 0 c _).mono ?_
  rintro e w' ⟨rfl, rfl⟩
  go_wp2
  refine wp_loop_rounds 1 ?_
  rw [rounds_succ]
  go_wp2
  exact bodyPost_ret (v := .agg #[.int .u8 t, .slice none 0 0, .int .u8 s]) (by simp [results, Try.results21, go_sem]) rfl ⟨rfl, bel_alloc (bel_alloc (Below.refl _ _) _) _⟩

set_option maxRecDepth 100000 in
set_option maxHeartbeats 4000000 in
theorem clone_some (t s : Int) (ad : Addr) (n c : Nat) (D : KD) (w : World) (hn : n ≤ 32768) (hsl : ∀ i, i < n → D.sl i ≤ 1048576) (hnl : ∀ i, i < n → D.nl i = true → D.sl i = 0) (hK : Keys w (some ad) n D) :
    Calls Try.prog 21 #[.agg #[.int .u8 t, .slice (some ad) n c, .int .u8 s]] w fun e w' => ∃ bk m cap, e = .returned (.agg #[.int .u8 t, .slice (some ⟨bk, 0, none⟩) n cap, .int .u8 s]) ∧ w.heap.size ≤ bk ∧ Below w.heap.size w w' ∧ CK w' (w.heap.size + 2) bk m n n D := by
  have HK : Hid (Keys w (some ad) n D) := hK
  have HSL : Hid (∀ i, i < n → D.sl i ≤ 1048576) := hsl
  have HNL : Hid (∀ i, i < n → D.nl i = true → D.sl i = 0) := hnl
  clear hK hsl hnl
  obtain ⟨sa, sc, H0⟩ : ∃ (sa : Nat → Option Addr) (sc : Nat → Nat), Hid ((n = 0 ∨ ∃ b off, ad = ⟨b, off, none⟩ ∧ ∀ i, i < n → w.cell? ⟨b, off + i * 2, none⟩ = some (.int .u8 (D.id i)) ∧ w.cell? ⟨b, off + i * 2 + 1, none⟩ = some (.slice (sa i) (D.sl i) (sc i))) ∧ ∀ i, i < n → Sec w D i (sa i)) := by
    rcases HK.out with h | ⟨b, off, sa, sc, e, hc⟩
    · exact ⟨fun _ => none, fun _ => 0, .inl h, fun i hi => by omega⟩
    · injection e with e
      exact ⟨sa, sc, .inr ⟨b, off, e, fun i hi => ⟨(hc i hi).1, (hc i hi).2.1⟩⟩, fun i hi => (hc i hi).2.2⟩
  have BW : Below w.heap.size w ((w.alloc (.cells #[.int .u8 t, .slice (some ad) n c, .int .u8 s] 29)).alloc (.cells #[.int .u8 0, .slice none 0 0, .int .u8 0] 29)) := bel_alloc (bel_alloc (Below.refl _ _) _) _
  have HPRE : Hid (n = 0 ∨ ∃ b off, ad = ⟨b, off, none⟩ ∧ ∀ i, i < n → ((w.alloc (.cells #[.int .u8 t, .slice (some ad) n c, .int .u8 s] 29)).alloc (.cells #[.int .u8 0, .slice none 0 0, .int .u8 0] 29)).cell? ⟨b, off + i * 2, none⟩ = some (.int .u8 (D.id i)) ∧ ((w.alloc (.cells #[.int .u8 t, .slice (some ad) n c, .int .u8 s] 29)).alloc (.cells #[.int .u8 0, .slice none 0 0, .int .u8 0] 29)).cell? ⟨b, off + i * 2 + 1, none⟩ = some (.slice (sa i) (D.sl i) (sc i))) := by
    rcases H0.out.1 with h | ⟨b, off, e, hc⟩
    · exact .inl h
    · refine .inr ⟨b, off, e, fun i hi => ?_⟩
      obtain ⟨c1, c2⟩ := hc i hi
      have lb : b < w.heap.size := World.block_lt_of_cell? w ⟨b, off + i * 2, none⟩ c1
      exact ⟨(BW.cell (p := ⟨b, off + i * 2, none⟩) lb).trans c1, (BW.cell (p := ⟨b, off + i * 2 + 1, none⟩) lb).trans c2⟩
  have HBW : Hid (Below w.heap.size w ((w.alloc (.cells #[.int .u8 t, .slice (some ad) n c, .int .u8 s] 29)).alloc (.cells #[.int .u8 0, .slice none 0 0, .int .u8 0] 29))) := BW
  have HRA : Hid (((w.alloc (.cells #[.int .u8 t, .slice (some ad) n c, .int .u8 s] 29)).alloc (.cells #[.int .u8 0, .slice none 0 0, .int .u8 0] 29)).rowIs w.heap.size 29 3 (F3 (.int .u8 t) (.slice (some ad) n c) (.int .u8 s))) := (row3 w _ _ _ 29).alloc _
  have HRR : Hid (((w.alloc (.cells #[.int .u8 t, .slice (some ad) n c, .int .u8 s] 29)).alloc (.cells #[.int .u8 0, .slice none 0 0, .int .u8 0] 29)).rowIs (w.heap.size + 1) 29 3 (F3 (.int .u8 0) (.slice none 0 0) (.int .u8 0))) := by
    have h := row3 (w.alloc (.cells #[.int .u8 t, .slice (some ad) n c, .int .u8 s] 29)) (.int .u8 0) (.slice none 0 0) (.int .u8 0) 29
    rw [World.size_alloc] at h
    exact h
  clear BW
  go_enter Try.func21, Try.ntmps21
  go_wp2_with fail
  refine (cloneK_some ad n c D sa sc _ hn HPRE.out).mono ?_
  rintro e w3 ⟨g, cap, F, rfl, hg, hnc, hb3, hrow3, hF3⟩
  have SZ2 : ((w.alloc (.cells #[.int .u8 t, .slice (some ad) n c, .int .u8 s] 29)).alloc (.cells #[.int .u8 0, .slice none 0 0, .int .u8 0] 29)).heap.size = w.heap.size + 2 := by rw [World.size_alloc, World.size_alloc]
  have B3 : Below w.heap.size w w3 := bel_trans HBW.out hb3
  have RA3 := rowIs_below HRA.out hb3 (by rw [SZ2]; omega)
  have RR3 := rowIs_below HRR.out hb3 (by rw [SZ2]; omega)
  rw [SZ2] at hg
  have B4 : Below w.heap.size w (w3.setCell ⟨w.heap.size, 1, none⟩ (.slice (some ⟨g, 0, none⟩) n cap)) := B3.setCell (Nat.le_refl _) _
  have CK4 : Hid (CK (w3.setCell ⟨w.heap.size, 1, none⟩ (.slice (some ⟨g, 0, none⟩) n cap)) (w.heap.size + 2) g (cap * 2) n 0 D) := by
    refine ⟨F, sa, sc, hrow3.setOther (by simp; omega) _, by omega, fun i hi => ⟨?_, ?_, (H0.out.2 i hi).below B4 (Nat.le_refl _), fun hsl x hx => ?_, fun h => by omega⟩⟩
    · rw [hF3 _ (by omega)]; simp [kcell]
    · rw [hF3 _ (by omega)]
      have e2 : (i * 2 + 1) / 2 = i := by omega
      simp [kcell, e2]
    · rcases (H0.out.2 i hi).2 with h | ⟨b, off, e, hc⟩
      · omega
      · have lb : b < w.heap.size := World.block_lt_of_cell? w ⟨b, off + 0, none⟩ (hc 0 hsl)
        rw [e] at hx
        cases hx
        simp
        omega
  have HB4 : Hid (Below w.heap.size w (w3.setCell ⟨w.heap.size, 1, none⟩ (.slice (some ⟨g, 0, none⟩) n cap))) := B4
  have HA4 : Hid ((w3.setCell ⟨w.heap.size, 1, none⟩ (.slice (some ⟨g, 0, none⟩) n cap)).rowIs w.heap.size 29 3 (F3 (.int .u8 t) (.slice (some ⟨g, 0, none⟩) n cap) (.int .u8 s))) := (RA3.set 1 _).congr fun j hj => by
    unfold F3
    by_cases e0 : j = 0
    · subst e0; rfl
    · by_cases e1 : j = 1
      · subst e1; rfl
      · simp [e0, e1]
  have HR4 : Hid ((w3.setCell ⟨w.heap.size, 1, none⟩ (.slice (some ⟨g, 0, none⟩) n cap)).rowIs (w.heap.size + 1) 29 3 (F3 (.int .u8 0) (.slice none 0 0) (.int .u8 0))) := RR3.setOther (by simp) _
  have y1 := RA3.cell (i := 1) (by omega)
  have z1 := RA3.frozen 1
  have gS : w.heap.size ≠ g := by omega
  have gR : w.heap.size + 1 ≠ g := by omega
  clear hb3 hrow3 hF3 B3 RA3 RR3 B4 HPRE HRA HRR HBW
  go_wp2
  clear y1 z1
  go_loopg [11] n (fun g' i wr => ∃ k : Nat, k + g' = n ∧ i = .int .i64 k ∧ Below w.heap.size w wr ∧ wr.rowIs w.heap.size 29 3 (F3 (.int .u8 t) (.slice (some ⟨g, 0, none⟩) n cap) (.int .u8 s)) ∧ wr.rowIs (w.heap.size + 1) 29 3 (F3 (.int .u8 0) (.slice none 0 0) (.int .u8 0)) ∧ CK wr (w.heap.size + 2) g (cap * 2) n k D)
  case atStart => exact ⟨0, by omega, rfl, HB4.out, HA4.out, HR4.out, CK4.out⟩
  case round =>
    obtain ⟨k, hk, rfl, hb, hra, hrr, hck⟩ := hrel
    have BEL : Hid (Below w.heap.size w wr) := hb
    have RA : Hid (wr.rowIs w.heap.size 29 3 (F3 (.int .u8 t) (.slice (some ⟨g, 0, none⟩) n cap) (.int .u8 s))) := hra
    have RR : Hid (wr.rowIs (w.heap.size + 1) 29 3 (F3 (.int .u8 0) (.slice none 0 0) (.int .u8 0))) := hrr
    have CKW : Hid (CK wr (w.heap.size + 2) g (cap * 2) n k D) := hck
    clear HB4 HA4 HR4 CK4 H0
    by_cases hlt : k < n
    · have hlt' : (k : Int) < (n : Int) := by omega
      obtain ⟨G, ta, tc, hG, hm, hi⟩ := hck
      obtain ⟨i1, i2, i3, i4, i5⟩ := hi k hlt
      have x1 : wr.cell? ⟨w.heap.size, 1, none⟩ = some (.slice (some ⟨g, 0, none⟩) n cap) := hra.cell (by omega)
      have x2 : wr.cell? ⟨g, k * 2 + 1, none⟩ = some (.slice (ta k) (D.sl k) (tc k)) := by rw [hG.cell (by omega), i2]
      have lg : g < wr.heap.size := hG.lt
      have CB : Hid (Calls Try.prog 23 #[.slice (ta k) (D.sl k) (tc k)] wr.drew fun e w' => ∃ a' c', e = .returned (.slice a' (D.sl k) c') ∧ w'.cell? ⟨w.heap.size, 1, none⟩ = some (.slice (some ⟨g, 0, none⟩) n cap) ∧ w'.cell? ⟨g, k * 2 + 1, none⟩ = some (.slice (ta k) (D.sl k) (tc k)) ∧ w'.frozen? ⟨g, k * 2 + 1, none⟩ = false ∧
          Hid (Below w.heap.size w w' ∧ w'.rowIs w.heap.size 29 3 (F3 (.int .u8 t) (.slice (some ⟨g, 0, none⟩) n cap) (.int .u8 s)) ∧ w'.rowIs (w.heap.size + 1) 29 3 (F3 (.int .u8 0) (.slice none 0 0) (.int .u8 0)) ∧ CK (w'.setCell ⟨g, k * 2 + 1, none⟩ (.slice a' (D.sl k) c')) (w.heap.size + 2) g (cap * 2) n (k + 1) D)) := by
        refine (cloneB_any (ta k) (D.sl k) (tc k) g (w.heap.size + 2) (D.sb k) wr.drew (HSL.out k hlt) (fun h => HNL.out k hlt (by rw [← i3.1]; exact h)) i3.2 lg RR.out.lt).mono ?_
        rintro e w' ⟨a', c', he, hnn, hb2, hby, hne, hown⟩
        have hb2' : Below wr.heap.size wr w' := ⟨hb2.os, hb2.tape, hb2.output, hb2.size, hb2.block⟩
        have hRA := rowIs_below RA.out hb2' RA.out.lt
        have hRR := rowIs_below RR.out hb2' RR.out.lt
        have hGG := rowIs_below hG hb2' hG.lt
        refine ⟨a', c', he, hRA.cell (i := 1) (by omega), by rw [hGG.cell (by omega), i2], hGG.frozen _, bel_trans BEL.out hb2', hRA, hRR, ?_⟩
        exact CKW.out.step hlt hb2' ⟨hnn.trans i3.1, hby⟩ (fun _ x hx => hne x hx) hown
      have x3 : wr.frozen? ⟨g, k * 2 + 1, none⟩ = false := hG.frozen _
      generalize D.sl k = sl at *
      clear hb hra hrr hi i1 i2 i3 i4 i5 hG
      go_wp2
      go_region_with (go_at_call 23; refine CB.out.mono ?_; rintro e w2 ⟨a', c', rfl, v1, v2, v3, HH⟩)
      all_goals (go_wp2; go_roundg (n - (k + 1)); (case measure => omega); (case rel => exact ⟨k + 1, by omega, by go_num, HH.out.1.setCell (by simp; omega) _, HH.out.2.1.setOther gS _, HH.out.2.2.1.setOther gR _, HH.out.2.2.2⟩))
    · obtain rfl : k = n := by omega
      have x0 : wr.cell? ⟨w.heap.size, 0, none⟩ = some (.int .u8 t) := hra.cell (i := 0) (by omega)
      have x1 : wr.cell? ⟨w.heap.size, 1, none⟩ = some (.slice (some ⟨g, 0, none⟩) k cap) := hra.cell (i := 1) (by omega)
      have x2 : wr.cell? ⟨w.heap.size, 2, none⟩ = some (.int .u8 s) := hra.cell (i := 2) (by omega)
      have v0 : wr.cell? ⟨w.heap.size + 1, 0, none⟩ = some (.int .u8 0) := hrr.cell (i := 0) (by omega)
      have v1 : wr.cell? ⟨w.heap.size + 1, 1, none⟩ = some (.slice none 0 0) := hrr.cell (i := 1) (by omega)
      have v2 : wr.cell? ⟨w.heap.size + 1, 2, none⟩ = some (.int .u8 0) := hrr.cell (i := 2) (by omega)
      have vz : ∀ j, wr.frozen? ⟨w.heap.size + 1, j, none⟩ = false := fun j => hrr.frozen j
      have FIN : Hid (∀ v0 v1 v2, CK (((wr.setCell ⟨w.heap.size + 1, 0, none⟩ v0).setCell ⟨w.heap.size + 1, 1, none⟩ v1).setCell ⟨w.heap.size + 1, 2, none⟩ v2) (w.heap.size + 2) g (cap * 2) k k D) := fun v0 v1 v2 =>
        ((CKW.out.setOther gR (by simp) _).setOther gR (by simp) _).setOther gR (by simp) _
      have hgw : w.heap.size ≤ g := by omega
      clear hb hra hrr hck
      go_wp2
      exact bodyPost_ret (v := .agg #[.int .u8 t, .slice (some ⟨g, 0, none⟩) k cap, .int .u8 s]) (by simp [results, Try.results21, go_sem, v0, v1, v2]) rfl
        ⟨g, cap * 2, cap, rfl, hgw, ((BEL.out.setCell (by simp) _).setCell (by simp) _).setCell (by simp) _, FIN.out _ _ _⟩
end Go.Proofs.Qxb6605337a
