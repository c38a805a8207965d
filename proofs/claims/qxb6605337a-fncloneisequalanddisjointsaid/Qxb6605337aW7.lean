import Derived.Test.Qxb6605337aW6
namespace Go.Proofs.Qxb6605337a
open Go.RowKit

/-- The clone's memory, whatever it holds: block bk the keys, the secrets' headers in place. -/
def DK (w : World) (lo hi bk m n : Nat) (D : KD) (sa : Nat → Option Addr) (sc : Nat → Nat) : Prop :=
  (∃ F : Nat → Value, w.rowIs bk 38 m F ∧ ∀ i, i < n → F (i * 2 + 1) = .slice (sa i) (D.sl i) (sc i)) ∧
  ∀ i, i < n → D.sl i = 0 ∨ ∃ g m' G, sa i = some ⟨g, 0, none⟩ ∧ lo ≤ g ∧ g < hi ∧ g ≠ bk ∧ D.sl i ≤ m' ∧ w.rowIs g 5 m' G

theorem DK.drew {w : World} {lo hi bk m n : Nat} {D : KD} {sa : Nat → Option Addr} {sc : Nat → Nat} (h : DK w lo hi bk m n D sa sc) : DK w.drew lo hi bk m n D sa sc := h
theorem DK.drewN {w : World} {lo hi bk m n : Nat} {D : KD} {sa : Nat → Option Addr} {sc : Nat → Nat} (h : DK w lo hi bk m n D sa sc) (q : Nat) : DK (w.drewN q) lo hi bk m n D sa sc := h

theorem DK.setK {w : World} {lo hi bk m n : Nat} {D : KD} {sa : Nat → Option Addr} {sc : Nat → Nat} (h : DK w lo hi bk m n D sa sc) (k : Nat) (v : Value) : DK (w.setCell ⟨bk, k * 2, none⟩ v) lo hi bk m n D sa sc := by
  obtain ⟨⟨F, hr, hF⟩, hs⟩ := h
  refine ⟨⟨_, hr.set (k * 2) v, fun i hi => ?_⟩, fun i hi => ?_⟩
  · rw [if_neg (by omega)]; exact hF i hi
  · rcases hs i hi with h | ⟨g, m', G, e, h1, h2, h3, h4, h5⟩
    · exact .inl h
    · exact .inr ⟨g, m', G, e, h1, h2, h3, h4, h5.setOther h3 v⟩

theorem DK.setS {w : World} {lo hi bk m n : Nat} {D : KD} {sa : Nat → Option Addr} {sc : Nat → Nat} (h : DK w lo hi bk m n D sa sc) {g : Nat} (hg : g ≠ bk) (k : Nat) (v : Value) : DK (w.setCell ⟨g, k, none⟩ v) lo hi bk m n D sa sc := by
  obtain ⟨⟨F, hr, hF⟩, hs⟩ := h
  refine ⟨⟨F, hr.setOther (Ne.symm hg) v, hF⟩, fun i hi => ?_⟩
  rcases hs i hi with h | ⟨g', m', G, e, h1, h2, h3, h4, h5⟩
  · exact .inl h
  · by_cases eg : g' = g
    · subst eg
      exact .inr ⟨g', m', _, e, h1, h2, h3, h4, h5.set k v⟩
    · exact .inr ⟨g', m', G, e, h1, h2, h3, h4, h5.setOther eg v⟩

theorem Own.dk {w : World} {lo n : Nat} {a : Option Addr} {D : KD} (h : Own w lo a n D) : ∃ bk m sa sc, n = 0 ∨ (a = some ⟨bk, 0, none⟩ ∧ lo ≤ bk ∧ bk < w.heap.size ∧ n * 2 ≤ m ∧ DK w lo w.heap.size bk m n D sa sc) := by
  rcases h with h | ⟨bk, m, e, hl, F, sa, sc, hr, hm, hi⟩
  · exact ⟨0, 0, fun _ => none, fun _ => 0, .inl h⟩
  · refine ⟨bk, m, sa, sc, .inr ⟨e, hl, hr.lt, hm, ⟨F, hr, fun i h => (hi i h).2.1⟩, fun i h => ?_⟩⟩
    rcases (hi i h).2.2.2.2 h with h0 | ⟨g, m', G, e', h1, h2, h3, h4⟩
    · exact .inl h0
    · exact .inr ⟨g, m', G, e', h1, h4.lt, h2, h3, h4⟩

set_option maxRecDepth 100000 in
set_option maxHeartbeats 4000000 in
theorem law_any (t s : Int) (a : Option Addr) (n c : Nat) (D : KD) (w : World) (hsz : ∀ i, i < n → D.sl i ≤ 9223372036854775807) (hnl : ∀ i, i < n → D.nl i = true → D.sl i = 0) (hz : a.isNone = true → n = 0) (hK : Keys w a n D) :
    Calls Try.prog 5 #[.int .u8 t, .slice a n c, .int .u8 s] w fun e w' => e = .returned (.bool true) ∧ Below w.heap.size w w' := by
  have HNL : Hid (∀ i, i < n → D.nl i = true → D.sl i = 0) := hnl
  have HK : Hid (Keys w a n D) := hK
  have HSZ : Hid (∀ i, i < n → D.sl i ≤ 9223372036854775807) := hsz
  have HZ : Hid (a.isNone = true → n = 0) := hz
  clear hnl hK hsz hz
  go_enter Try.func5, Try.ntmps5
  go_wp2_with fail
  refine (bytes15_any t s a n c D w HK.out).mono ?_
  rintro e w' ⟨r, rfl, rfl, -⟩
  cases r
  · go_wp2
    go_ret
    exact ⟨rfl, Below.refl _ _⟩
  go_wp2_with fail
  refine (keysFit_any a n c D w' HK.out HSZ.out).mono ?_
  rintro e w ⟨r, rfl, rfl, hq⟩
  cases r
  · go_wp2
    go_ret
    exact ⟨rfl, Below.refl _ _⟩
  obtain ⟨hn, hsl⟩ := hq rfl
  have HSL : Hid (∀ i, i < n → D.sl i ≤ 1048576) := hsl
  clear hsl hq HSZ
  go_wp2_with fail
  refine (cloneKeys_any a n c D w hn HSL.out HNL.out HZ.out HK.out).mono ?_
  rintro e w1 ⟨a1, c1, rfl, hn1, hb1, hk1⟩
  have HZ1 : Hid (a1.isNone = true → n = 0) := fun h => HZ.out (by rw [← hn1]; exact h)
  have HB1 : Hid (Below w.heap.size w w1) := hb1
  have HK1 : Hid (Keys w1 a1 n D) := hk1
  clear HZ HK hk1 hb1 hn1
  go_wp2_with fail
  refine (build_any t s a1 n c1 D w1 hn HSL.out HNL.out HZ1.out HK1.out).mono ?_
  rintro e w2 ⟨a2, c2, rfl, hn2, hb2, hk2⟩
  have HZ2 : Hid (a2.isNone = true → n = 0) := fun h => HZ1.out (by rw [← hn2]; exact h)
  have HN2 : Hid (a2.isNone = a1.isNone) := hn2
  have HB2 : Hid (Below w.heap.size w w2) := bel_trans HB1.out hb2
  have HK1' : Hid (Keys w2 a1 n D) := HK1.out.below hb2 (Nat.le_refl _)
  have HK2 : Hid (Keys w2 a2 n D) := hk2
  clear HB1 HK1 hk2 hb2 hn2
  go_wp2_with fail
  have BA : Below w2.heap.size w2 (w2.alloc (.cells #[.int .u8 t, .slice a2 n c2, .int .u8 s] 29)) := bel_alloc (Below.refl _ _) _
  have RA0 := row3 w2 (.int .u8 t) (.slice a2 n c2) (.int .u8 s) 29
  have SZA : (w2.alloc (.cells #[.int .u8 t, .slice a2 n c2, .int .u8 s] 29)).heap.size = w2.heap.size + 1 := World.size_alloc _ _
  have K1A := HK1'.out.below BA (Nat.le_refl _)
  have K2A := HK2.out.below BA (Nat.le_refl _)
  have BWA := bel_trans HB2.out BA
  generalize (w2.alloc (.cells #[.int .u8 t, .slice a2 n c2, .int .u8 s] 29)) = wA at *
  generalize hBa : w2.heap.size = Ba at *
  have HRA : Hid (wA.rowIs Ba 29 3 (F3 (.int .u8 t) (.slice a2 n c2) (.int .u8 s))) := RA0
  have HK1A : Hid (Keys wA a1 n D) := K1A
  have HK2A : Hid (Keys wA a2 n D) := K2A
  have HBWA : Hid (Below w.heap.size w wA) := BWA
  have HSZA : Hid (wA.heap.size = Ba + 1) := SZA
  clear BA RA0 K1A K2A BWA SZA HK1' HK2 HB2 hBa
  refine (zzclone_any t s a2 n c2 D wA hn HSL.out HNL.out HZ2.out HK2A.out).mono ?_
  rintro e w3 ⟨a3, c3, rfl, hn3, hb3, ho3⟩
  have HN3 : Hid (a3.isNone = a1.isNone) := hn3.trans HN2.out
  have HB3 : Hid (Below wA.heap.size wA w3) := hb3
  have HO3 : Hid (Own w3 wA.heap.size a3 n D) := ho3
  clear hn3 hb3 ho3
  go_wp2_with fail
  have BC : Below w3.heap.size w3 (w3.alloc (.cells #[.int .u8 t, .slice a3 n c3, .int .u8 s] 29)) := bel_alloc (Below.refl _ _) _
  have RC0 := row3 w3 (.int .u8 t) (.slice a3 n c3) (.int .u8 s) 29
  have OC := HO3.out.below BC
  obtain ⟨bk, m, sa, sc, hdk⟩ := HO3.out.dk
  have B4 := bel_trans HB3.out BC
  have hdk4 : n = 0 ∨ (a3 = some ⟨bk, 0, none⟩ ∧ wA.heap.size ≤ bk ∧ bk < w3.heap.size ∧ n * 2 ≤ m ∧ DK (w3.alloc (.cells #[.int .u8 t, .slice a3 n c3, .int .u8 s] 29)) wA.heap.size w3.heap.size bk m n D sa sc) := by
    rcases hdk with h | ⟨h1, h2, h3, h4, ⟨F, hr, hF⟩, hs⟩
    · exact .inl h
    · refine .inr ⟨h1, h2, h3, h4, ⟨F, hr.alloc _, hF⟩, fun i hi => ?_⟩
      rcases hs i hi with h | ⟨g, m', G, e, j1, j2, j3, j4, j5⟩
      · exact .inl h
      · exact .inr ⟨g, m', G, e, j1, j2, j3, j4, j5.alloc _⟩
  have K14 := HK1A.out.below B4 (Nat.le_refl _)
  have hBc : wA.heap.size ≤ w3.heap.size := HB3.out.size
  generalize (w3.alloc (.cells #[.int .u8 t, .slice a3 n c3, .int .u8 s] 29)) = w4 at *
  generalize w3.heap.size = Bc at *
  refine (same_any t s Bc n c3 c1 a3 a1 D w4 hn HSL.out HN3.out (RC0.cell (i := 0) (by omega)) (RC0.cell (i := 1) (by omega)) (RC0.cell (i := 2) (by omega)) OC.keys K14).mono ?_
  rintro e w5 ⟨rfl, q, rfl⟩
  have HRC : Hid (w4.rowIs Bc 29 3 (F3 (.int .u8 t) (.slice a3 n c3) (.int .u8 s))) := RC0
  have HB4 : Hid (Below wA.heap.size wA w4) := B4
  have HGEO : Hid (n = 0 ∨ (a3 = some ⟨bk, 0, none⟩ ∧ wA.heap.size ≤ bk ∧ bk < Bc ∧ n * 2 ≤ m)) := by
    rcases hdk4 with h | ⟨h1, h2, h3, h4, h5⟩
    · exact .inl h
    · exact .inr ⟨h1, h2, h3, h4⟩
  have HDK4 : Hid (n = 0 ∨ DK w4 wA.heap.size Bc bk m n D sa sc) := by
    rcases hdk4 with h | ⟨h1, h2, h3, h4, h5⟩
    · exact .inl h
    · exact .inr h5
  have HLO : Hid (wA.heap.size ≤ Bc) := hBc
  clear BC RC0 OC hdk B4 hdk4 K14 hBc HO3 HB3
  go_wp2
  go_loopg [9] n (fun g' i wr => ∃ k : Nat, k + g' = n ∧ i = .int .i64 k ∧ Below wA.heap.size wA wr ∧ wr.rowIs Bc 29 3 (F3 (.int .u8 t) (.slice a3 n c3) (.int .u8 s)) ∧ (n = 0 ∨ DK wr wA.heap.size Bc bk m n D sa sc))
  case atStart => exact ⟨0, by omega, rfl, HB4.out.trans (below_drewN _ _ _), HRC.out, HDK4.out⟩
  case round =>
    obtain ⟨k, hk, rfl, hb, hrc, hdk⟩ := hrel
    clear HRC HB4 HDK4
    have BEL : Hid (Below wA.heap.size wA wr) := hb
    have RC : Hid (wr.rowIs Bc 29 3 (F3 (.int .u8 t) (.slice a3 n c3) (.int .u8 s))) := hrc
    have DKW : Hid (n = 0 ∨ DK wr wA.heap.size Bc bk m n D sa sc) := hdk
    clear hb hrc hdk
    by_cases hlt : k < n
    · have hlt' : (k : Int) < (n : Int) := by omega
      rcases DKW.out with h | dk
      · omega
      rcases HGEO.out with h | ⟨rfl, g1, g2, g3⟩
      · omega
      rcases HK1A.out with h | ⟨b1, o1, s1, q1, rfl, hc1⟩
      · omega
      obtain ⟨c1', c2', c3'⟩ := hc1 k hlt
      have lb : b1 < wA.heap.size := World.block_lt_of_cell? wA ⟨b1, o1 + k * 2, none⟩ c1'
      have d1 := (BEL.out.cell (p := ⟨b1, o1 + k * 2, none⟩) lb).trans c1'
      obtain ⟨⟨F, hF, hF1⟩, hs⟩ := dk
      have x1 : wr.cell? ⟨Bc, 1, none⟩ = some (.slice (some ⟨bk, 0, none⟩) n c3) := RC.out.cell (i := 1) (by omega)
      have y0 := hF.cell (i := k * 2) (by omega)
      have z0 := hF.frozen (k * 2)
      have X : Hid (∀ v, (wr.setCell ⟨bk, k * 2, none⟩ v).drew.cell? ⟨Bc, 1, none⟩ = some (.slice (some ⟨bk, 0, none⟩) n c3) ∧ (wr.setCell ⟨bk, k * 2, none⟩ v).drew.cell? ⟨bk, k * 2 + 1, none⟩ = some (.slice (sa k) (D.sl k) (sc k)) ∧
          Below wA.heap.size wA (wr.setCell ⟨bk, k * 2, none⟩ v).drew ∧ (wr.setCell ⟨bk, k * 2, none⟩ v).drew.rowIs Bc 29 3 (F3 (.int .u8 t) (.slice (some ⟨bk, 0, none⟩) n c3) (.int .u8 s)) ∧ DK (wr.setCell ⟨bk, k * 2, none⟩ v).drew wA.heap.size Bc bk m n D sa sc) := by
        intro v
        have hR := RC.out.setOther (a := ⟨bk, k * 2, none⟩) (by simp; omega) v
        have hK := hF.set (k * 2) v
        refine ⟨hR.cell (i := 1) (by omega), ?_, (BEL.out.setCell g1 v).drew, hR, ?_⟩
        · show (wr.setCell ⟨bk, k * 2, none⟩ v).cell? _ = _
          rw [hK.cell (by omega), if_neg (by omega), hF1 k hlt]
        · rcases DKW.out with h | dk
          · omega
          · exact dk.setK k v
      have HC : Hid (Sec wA D k (s1 k)) := c3'
      have HC2 : Hid (wA.cell? ⟨b1, o1 + k * 2 + 1, none⟩ = some (.slice (s1 k) (D.sl k) (q1 k))) := c2'
      clear hF hF1 hs hc1 c1' c2' c3'
      go_wp2
      go_region
      obtain ⟨e1, e2, e3, e4, e5⟩ := X.out (.int .u8 (bits .xor .u8 (D.id k) 255))
      clear X d1 x1 y0 z0
      generalize (wr.setCell ⟨bk, k * 2, none⟩ (.int .u8 (bits .xor .u8 (D.id k) 255))).drew = w6 at *
      have HB6 : Hid (Below wA.heap.size wA w6) := e3
      have HR6 : Hid (w6.rowIs Bc 29 3 (F3 (.int .u8 t) (.slice (some ⟨bk, 0, none⟩) n c3) (.int .u8 s))) := e4
      have HD6 : Hid (DK w6 wA.heap.size Bc bk m n D sa sc) := e5
      have hsl : D.sl k ≤ 1048576 := HSL.out k hlt
      clear e3 e4 e5 RC BEL DKW
      go_wp2
      clear e1 e2
      go_loopg [11] (D.sl k) (fun g' i wr => ∃ x : Nat, x + g' = D.sl k ∧ i = .int .i64 x ∧ Below wA.heap.size wA wr ∧ wr.rowIs Bc 29 3 (F3 (.int .u8 t) (.slice (some ⟨bk, 0, none⟩) n c3) (.int .u8 s)) ∧ DK wr wA.heap.size Bc bk m n D sa sc)
      case atStart => exact ⟨0, by omega, rfl, HB6.out, HR6.out, HD6.out⟩
      case round =>
        obtain ⟨x, hx, rfl, hb, hrc, hdk⟩ := hrel
        clear HB6 HR6 HD6
        have BEL : Hid (Below wA.heap.size wA wr) := hb
        have RC : Hid (wr.rowIs Bc 29 3 (F3 (.int .u8 t) (.slice (some ⟨bk, 0, none⟩) n c3) (.int .u8 s))) := hrc
        have DKW : Hid (DK wr wA.heap.size Bc bk m n D sa sc) := hdk
        clear hb hrc hdk
        by_cases hxl : x < D.sl k
        · have hxl' : (x : Int) < (D.sl k : Int) := by omega
          rcases DKW.out.2 k hlt with h | ⟨g, m', G, eg, j1, j2, j3, j4, j5⟩
          · omega
          rcases HC.out.2 with h | ⟨b2, o2, es, hby⟩
          · omega
          have hc0 := hby x hxl
          have lb2 : b2 < wA.heap.size := World.block_lt_of_cell? wA ⟨b2, o2 + x, none⟩ hc0
          have f1 := (BEL.out.cell (p := ⟨b2, o2 + x, none⟩) lb2).trans hc0
          have f2 := (BEL.out.cell (p := ⟨b1, o1 + k * 2 + 1, none⟩) lb).trans HC2.out
          have y0 := j5.cell (i := x) (by omega)
          have z0 := j5.frozen x
          have gb : Bc ≠ g := by omega
          have GB : Hid (Bc ≠ g) := gb
          clear gb
          clear hby hc0 j5
          go_wp2
          go_roundg (D.sl k - (x + 1))
          case measure => omega
          case rel => exact ⟨x + 1, by omega, by go_num, BEL.out.setCell j1 _, RC.out.setOther GB.out _, DKW.out.setS j3 _ _⟩
        · go_wp2
          go_roundg (n - (k + 1))
          case measure => omega
          case rel => exact ⟨k + 1, by omega, by go_num, BEL.out, RC.out, .inr DKW.out⟩
    · go_wp2_with fail
      have hRA := rowIs_below HRA.out BEL.out (by rw [HSZA.out]; omega)
      refine (same_any t s Ba n c2 c1 a2 a1 D wr hn HSL.out HN2.out (hRA.cell (i := 0) (by omega)) (hRA.cell (i := 1) (by omega)) (hRA.cell (i := 2) (by omega)) (HK2A.out.below BEL.out (Nat.le_refl _)) (HK1A.out.below BEL.out (Nat.le_refl _))).mono ?_
      rintro e w9 ⟨rfl, q9, rfl⟩
      have FIN : Hid (Below w.heap.size w (wr.drewN q9)) := (bel_trans HBWA.out BEL.out).trans (below_drewN _ _ _)
      clear hRA
      go_wp2
      go_ret
      exact ⟨rfl, FIN.out⟩
end Go.Proofs.Qxb6605337a
