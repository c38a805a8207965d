import Derived.Test.Qxb6605452aW7
import Derived.Test.Qxb6605452aCx
namespace Go.Proofs.Qxb6605452a
open Go.RowKit

/-- What both cycles come to: nil, or the numbers along p. -/
def CycRes (w : World) (n s L : Nat) (p : Nat → Nat) (tf : Nat → Int) (e : Ending) : Prop :=
  (s = n ∧ e = .returned (.slice none 0 0)) ∨ (s < n ∧ ∃ ad cap, e = .returned (.slice (some ad) L cap) ∧ Ints w (some ad) L (fun k => tf (p k)))

theorem rowIs_one (w : World) (v : Value) (t : TypeId) : (w.alloc (.cells #[v] t)).rowIs w.heap.size t 1 (fun _ => v) := by
  refine World.rowIs_alloc w #[v] t _ fun i hi => ?_
  obtain rfl : i = 0 := by simpa using hi
  rfl

set_option maxHeartbeats 8000000 in
set_option maxRecDepth 100000 in
theorem model_any (ta oa : Option Addr) (n tc oc : Nat) (tf : Nat → Int) (G : Gr) (s L : Nat) (p : Nat → Nat) (w : World) (hn : n ≤ 4096) (hsum : sumTo n G.ol ≤ 131072) (hG : G.In n) (hC : Cyc G n s L p)
    (hT : Ints w ta n tf) (hR : Rows w oa n G.ol (fun v j => (G.of v j : Int))) :
    Calls Try.prog 22 #[.slice ta n tc, .slice oa n oc] w fun e w' => Below w.heap.size w w' ∧ CycRes w' n s L p tf e := by
  have HR : Hid (Rows w oa n G.ol (fun v j => (G.of v j : Int))) := hR
  have HT : Hid (Ints w ta n tf) := hT
  have HG : Hid (G.In n) := hG
  have HC : Hid (Cyc G n s L p) := hC
  have hle := hC.le
  go_enter Try.func22, Try.ntmps22
  go_wp2_with fail
  refine (transpose_any oa n oc G w hn hsum hG hR).mono ?_
  clear hR hT hG hC
  rintro e w1 ⟨T, rfl, hb1, hrT, htr⟩
  have HB1 : Hid (Below w.heap.size w w1) := hb1
  have HRT : Hid (Rows w1 (some ⟨w.heap.size, 0, none⟩) n T.ol (fun v j => (T.of v j : Int))) := hrT
  have HTR : Hid (Tr G T n n 0) := htr
  clear hb1 hrT htr
  go_wp2
  go_loopg [7] n (fun g' i wr => ∃ k : Nat, k + g' = n ∧ i = .int .i64 k ∧ k ≤ s ∧ Below w1.heap.size w1 wr)
  case atStart => exact ⟨0, by omega, rfl, Nat.zero_le _, Below.refl _ _⟩
  case round =>
    obtain ⟨k, hk, rfl, hks, hb⟩ := hrel
    have HB : Hid (Below w1.heap.size w1 wr) := hb
    by_cases hlt : k < n
    · have hlt' : (k : Int) < (n : Int) := by omega
      have hcall := dist_any (some ⟨w.heap.size, 0, none⟩) n n k G T wr hn hlt (fun v _ => by have := HTR.out.len v; omega) (fun v u _ h => HTR.out.snd v u h) HG.out (fun u v hu h => HTR.out.cpl u v hu h) (HRT.out.below hb (Nat.le_refl _))
      have HCALL : Hid (Calls Try.prog 30 _ _ _) := hcall
      clear hcall hb
      go_wp2_with fail
      refine HCALL.out.mono ?_
      clear HCALL
      rintro e w2 ⟨d, rfl, hb2, hrd, hdist, hdn⟩
      have B2 : Below w.heap.size w w2 := bel_trans (bel_trans HB1.out HB.out) hb2
      have HB12 : Hid (Below w1.heap.size w1 w2) := bel_trans HB.out hb2
      have HB2 : Hid (Below w.heap.size w w2) := B2
      have HRD : Hid (NRow w2 wr.heap.size n d) := hrd
      have HDI : Hid (IsDist G n k d) := hdist
      have HDN : Hid (∀ x, d x < n) := hdn
      generalize wr.heap.size = D at *
      rcases HR.out with h | ⟨ob, oo, sa, sc, e, hc⟩
      · omega
      subst e
      obtain ⟨k1, k2, _⟩ := hc k hlt
      have lb : ob < w.heap.size := World.block_lt_of_cell? w ⟨ob, oo + k, none⟩ k1
      have y1 := (B2.cell (p := ⟨ob, oo + k, none⟩) lb).trans k1
      have HK2 : Hid (Ints w (sa k) (G.ol k) (fun j => (G.of k j : Int))) := k2
      have HROW : Hid (∀ i, i < n → w.cell? ⟨ob, oo + i, none⟩ = some (.slice (sa i) (G.ol i) (sc i)) ∧ Ints w (sa i) (G.ol i) (fun j => (G.of i j : Int)) ∧ ((sa i).isNone = true → G.ol i = 0)) := hc
      have hok : ∀ i, i < n → G.ol i ≤ 131072 := fun i hi => by
        have := sumTo_mono (f := G.ol) (k := i + 1) (n := n) (by omega)
        simp only [sumTo] at this; omega
      have hokk := hok k hlt
      have HOK : Hid (∀ i, i < n → G.ol i ≤ 131072) := hok
      clear hc k1 k2 B2 hb2 hrd hdist hdn hok
      go_wp2
      clear y1
      go_loopg [9, 10, 38] (G.ol k) (fun g'' l o jj wx => ∃ (j : Nat) (Lc : Int) (b : Bool), j + g'' = G.ol k ∧ l = .int .i64 Lc ∧ o = .bool b ∧ jj = .int .i64 j ∧ MS G d n k j Lc b ∧ w2 = wx)
      case atStart => exact ⟨0, 0, false, by omega, rfl, rfl, rfl, MS.init G d n k, rfl⟩
      case round =>
        obtain ⟨j, Lc, b, hj, rfl, rfl, rfl, hms, rfl⟩ := hrel
        have HMS : Hid (MS G d n k j Lc b) := hms
        obtain ⟨hL0, hLn⟩ := hms.bd
        by_cases hjl : j < G.ol k
        · have hjl' : (j : Int) < (G.ol k : Int) := by omega
          rcases HK2.out with h | ⟨b2, o2, e2, hc2⟩
          · omega
          have lb2 : b2 < w.heap.size := World.block_lt_of_cell? w ⟨b2, o2 + j, none⟩ (hc2 j hjl)
          have y2 : w2.cell? ⟨b2, o2 + j, none⟩ = some (.int .i64 (G.of k j : Int)) := (HB2.out.cell (p := ⟨b2, o2 + j, none⟩) lb2).trans (hc2 j hjl)
          have hyn := HG.out k (G.of k j) hlt ⟨j, hjl, rfl⟩
          obtain ⟨y, hy⟩ : ∃ y, y = G.of k j := ⟨_, rfl⟩
          have HY : Hid (y = G.of k j) := hy
          rw [← hy] at y2 hyn
          have hyn' : (y : Int) < (n : Int) := by omega
          have x1 : w2.cell? ⟨D, y, none⟩ = some (.int .i64 (d y)) := NRow.cell HRD.out hyn
          have hdn := HDN.out y
          clear hc2 hms
          by_cases hd : d y < 0
          · have hd' : decide (d y < 0) = true := decide_eq_true hd
            have STEP : Hid (MS G d n k (j + 1) Lc b) := HMS.out.skip (by rw [← hy]; exact hd)
            clear hy
            go_wp2
            try rw [← e2]
            go_roundg (G.ol k - (j + 1))
            case measure => omega
            case rel => exact ⟨j + 1, Lc, b, by omega, rfl, rfl, by go_num, STEP.out, rfl⟩
          · have hd' : decide (d y < 0) = false := decide_eq_false hd
            have hd0 : 0 ≤ d y := by omega
            by_cases hyk : y = k
            · have t1 : ((y : Int) != (k : Int)) = false := by simp [hyk]
              by_cases hl0 : Lc = 0
              · have t2 : (Lc == 0) = true := by simp [hl0]
                have STEP : Hid (MS G d n k (j + 1) (d y + 1) b) := by
                  refine HMS.out.step (by rw [← hy]; exact hd0) (by rw [← hy]; exact hdn) ?_ ?_
                  · exact .inr ⟨by rw [← hy]; exact hyk, rfl⟩
                  · exact .inl ⟨by rw [← hy]; omega, by rw [← hy]⟩
                clear hy hyk hl0
                go_wp2
                try rw [← e2]
                go_roundg (G.ol k - (j + 1))
                case measure => omega
                case rel => exact ⟨j + 1, (d y + 1), b, by omega, by go_num, rfl, by go_num, STEP.out, rfl⟩
              · have t2 : (Lc == 0) = false := by simp [hl0]
                by_cases hl1 : d y + 1 < Lc
                · have t3 : decide (d y + 1 < Lc) = true := decide_eq_true hl1
                  have STEP : Hid (MS G d n k (j + 1) (d y + 1) b) := by
                    refine HMS.out.step (by rw [← hy]; exact hd0) (by rw [← hy]; exact hdn) ?_ ?_
                    · exact .inr ⟨by rw [← hy]; exact hyk, rfl⟩
                    · exact .inl ⟨by rw [← hy]; omega, by rw [← hy]⟩
                  clear hy hyk hl0
                  go_wp2
                  try rw [← e2]
                  go_roundg (G.ol k - (j + 1))
                  case measure => omega
                  case rel => exact ⟨j + 1, (d y + 1), b, by omega, by go_num, rfl, by go_num, STEP.out, rfl⟩
                · have t3 : decide (d y + 1 < Lc) = false := decide_eq_false hl1
                  have STEP : Hid (MS G d n k (j + 1) Lc b) := by
                    refine HMS.out.step (by rw [← hy]; exact hd0) (by rw [← hy]; exact hdn) ?_ ?_
                    · exact .inr ⟨by rw [← hy]; exact hyk, rfl⟩
                    · exact .inr ⟨hl0, by rw [← hy]; omega, rfl⟩
                  clear hy hyk hl0
                  go_wp2
                  try rw [← e2]
                  go_roundg (G.ol k - (j + 1))
                  case measure => omega
                  case rel => exact ⟨j + 1, Lc, b, by omega, by go_num, rfl, by go_num, STEP.out, rfl⟩
            · have t1 : ((y : Int) != (k : Int)) = true := by simp; omega
              by_cases hl0 : Lc = 0
              · have t2 : (Lc == 0) = true := by simp [hl0]
                have STEP : Hid (MS G d n k (j + 1) (d y + 1) true) := by
                  refine HMS.out.step (by rw [← hy]; exact hd0) (by rw [← hy]; exact hdn) ?_ ?_
                  · exact .inl ⟨by rw [← hy]; exact hyk, rfl⟩
                  · exact .inl ⟨by rw [← hy]; omega, by rw [← hy]⟩
                clear hy hyk hl0
                go_wp2
                try rw [← e2]
                go_roundg (G.ol k - (j + 1))
                case measure => omega
                case rel => exact ⟨j + 1, (d y + 1), true, by omega, by go_num, rfl, by go_num, STEP.out, rfl⟩
              · have t2 : (Lc == 0) = false := by simp [hl0]
                by_cases hl1 : d y + 1 < Lc
                · have t3 : decide (d y + 1 < Lc) = true := decide_eq_true hl1
                  have STEP : Hid (MS G d n k (j + 1) (d y + 1) true) := by
                    refine HMS.out.step (by rw [← hy]; exact hd0) (by rw [← hy]; exact hdn) ?_ ?_
                    · exact .inl ⟨by rw [← hy]; exact hyk, rfl⟩
                    · exact .inl ⟨by rw [← hy]; omega, by rw [← hy]⟩
                  clear hy hyk hl0
                  go_wp2
                  try rw [← e2]
                  go_roundg (G.ol k - (j + 1))
                  case measure => omega
                  case rel => exact ⟨j + 1, (d y + 1), true, by omega, by go_num, rfl, by go_num, STEP.out, rfl⟩
                · have t3 : decide (d y + 1 < Lc) = false := decide_eq_false hl1
                  have STEP : Hid (MS G d n k (j + 1) Lc true) := by
                    refine HMS.out.step (by rw [← hy]; exact hd0) (by rw [← hy]; exact hdn) ?_ ?_
                    · exact .inl ⟨by rw [← hy]; exact hyk, rfl⟩
                    · exact .inr ⟨hl0, by rw [← hy]; omega, rfl⟩
                  clear hy hyk hl0
                  go_wp2
                  try rw [← e2]
                  go_roundg (G.ol k - (j + 1))
                  case measure => omega
                  case rel => exact ⟨j + 1, Lc, true, by omega, by go_num, rfl, by go_num, STEP.out, rfl⟩
        · have hjl' : decide ((j : Int) < (G.ol k : Int)) = false := decide_eq_false (by omega)
          have ej : j = G.ol k := by omega
          have hon := (show MS G d n k (G.ol k) Lc b from ej ▸ hms).fin_on HDI.out HG.out hlt
          cases b with
          | false =>
            have hne : k ≠ s := fun e => by
              have := HC.out.on (by omega)
              rw [← e] at this
              exact absurd (hon.2 this) (by simp)
            clear hms hon
            go_wp2
            go_roundg (n - (k + 1))
            case measure => omega
            case rel => exact ⟨k + 1, by omega, by go_num, by omega, HB12.out⟩
          | true =>
            have eks : k = s := by
              by_cases e : k = s
              · exact e
              · exact absurd (hon.1 rfl) (HC.out.lo k (by omega))
            subst eks
            have HP : Hid (GP G k L p) := HC.out.gp hlt
            have HNX : Hid (∀ m, m + 1 < L → IsNext G k (p m) (L - 1 - m) (p (m + 1))) := HC.out.nx hlt
            have eL := (show MS G d n k (G.ol k) Lc true from ej ▸ hms).fin_L HDI.out HG.out hlt HP.out
            have hLn' := HP.out.len HG.out hlt
            have hL1 := HP.out.l1
            have hp0 := HP.out.p0
            subst eL
            rcases HT.out with h | ⟨tb, tp, e, htc⟩
            · omega
            subst e
            have HTC : Hid (∀ i, i < n → w.cell? ⟨tb, tp + i, none⟩ = some (.int .i64 (tf i))) := htc
            have ltb : tb < w.heap.size := World.block_lt_of_cell? w ⟨tb, tp + k, none⟩ (htc k hlt)
            have z1 := (HB2.out.cell (p := ⟨tb, tp + k, none⟩) ltb).trans (htc k hlt)
            have HP0 : Hid (p 0 = k) := hp0
            have NEW := rowIs_one w2 (.int .i64 (tf k)) 3
            have BNEW : Hid (Below w2.heap.size w2 (w2.alloc (.cells #[.int .i64 (tf k)] 3))) := bel_alloc (Below.refl _ _) _
            have SNEW : Hid (SlI (w2.alloc (.cells #[.int .i64 (tf k)] 3)) (some ⟨w2.heap.size, 0, none⟩) 1 1 (fun m => tf (p m))) := by
              refine .inr ⟨w2.heap.size, 0, 1, _, rfl, by omega, by omega, NEW, fun i hi => ?_⟩
              obtain rfl : i = 0 := by omega
              show _ = Value.int .i64 (tf (p 0))
              rw [hp0]
            clear hms hon htc hp0 NEW ej hj
            go_wp2
            clear z1
            go_loopg [13, 14, 15] L (fun g3 cy cu rm w3 => ∃ (m : Nat) (ad : Addr) (cap : Nat), 1 ≤ m ∧ m ≤ L ∧ m + g3 = L + 1 ∧ cy = .slice (some ad) m cap ∧ cu = .int .i64 (p (m - 1) : Int) ∧ rm = .int .i64 ((L : Int) - m) ∧ SlI w3 (some ad) m cap (fun k => tf (p k)) ∧ w2.heap.size ≤ ad.block ∧ Below w2.heap.size w2 w3)
            case atStart => exact ⟨1, _, 1, by omega, hL1, by omega, rfl, by rw [show 1 - 1 = 0 from rfl, HP0.out], by go_num, SNEW.out, Nat.le_refl _, BNEW.out⟩
            case round =>
              clear SNEW BNEW
              obtain ⟨m, ad, cap, hm1, hmL1, hmg, rfl, rfl, rfl, hsl, had, hb3⟩ := hrel
              have HSL : Hid (SlI wr (some ad) m cap (fun k => tf (p k))) := hsl
              have HB3 : Hid (Below w2.heap.size w2 wr) := hb3
              by_cases hmL : m < L
              · have hrem : (0 : Int) < (L : Int) - (m : Int) := by omega
                have hcn := HP.out.lt HG.out hlt (m - 1) (by omega)
                have NX : Hid (IsNext G k (p (m - 1)) (L - m) (p m)) := by
                  have := HNX.out (m - 1) (by omega)
                  rw [show m - 1 + 1 = m by omega, show L - 1 - (m - 1) = L - m by omega] at this
                  exact this
                have hpm := HP.out.lt HG.out hlt m hmL
                generalize p (m - 1) = cur at *
                have hcn' : (cur : Int) < (n : Int) := by omega
                obtain ⟨k1, k2, _⟩ := HROW.out cur hcn
                have BW3 : Below w.heap.size w wr := bel_trans HB2.out hb3
                have HBW3 : Hid (Below w.heap.size w wr) := BW3
                have y3 := (BW3.cell (p := ⟨ob, oo + cur, none⟩) lb).trans k1
                have HK3 : Hid (Ints w (sa cur) (G.ol cur) (fun j => (G.of cur j : Int))) := k2
                have hokc := HOK.out cur hcn
                have HRD3 : Hid (NRow wr D n d) := HRD.out.below hb3
                clear hsl hb3 k1 k2 BW3
                go_wp2
                clear y3
                go_loopg [16, 86] (G.ol cur) (fun g4 nx jj w4 => ∃ (j : Nat) (x : Int), j + g4 = G.ol cur ∧ nx = .int .i64 x ∧ jj = .int .i64 j ∧ NS G d cur j ((L : Int) - m) x ∧ wr = w4)
                case atStart => exact ⟨0, -1, by omega, rfl, rfl, NS.init G d cur _, rfl⟩
                case round =>
                  obtain ⟨j', x, hj', rfl, rfl, hns, rfl⟩ := hrel
                  have HNS : Hid (NS G d cur j' ((L : Int) - m) x) := hns
                  clear hns
                  by_cases hjl : j' < G.ol cur
                  · have hjl' : (j' : Int) < (G.ol cur : Int) := by omega
                    rcases HK3.out with h | ⟨b2, o2, e2, hc2⟩
                    · omega
                    have lb2 : b2 < w.heap.size := World.block_lt_of_cell? w ⟨b2, o2 + j', none⟩ (hc2 j' hjl)
                    have y2 : wr.cell? ⟨b2, o2 + j', none⟩ = some (.int .i64 (G.of cur j' : Int)) := (HBW3.out.cell (p := ⟨b2, o2 + j', none⟩) lb2).trans (hc2 j' hjl)
                    have hyn := HG.out cur (G.of cur j') hcn ⟨j', hjl, rfl⟩
                    obtain ⟨y, hy⟩ : ∃ y, y = G.of cur j' := ⟨_, rfl⟩
                    rw [← hy] at y2 hyn
                    have hyn' : (y : Int) < (n : Int) := by omega
                    have x1 : wr.cell? ⟨D, y, none⟩ = some (.int .i64 (d y)) := NRow.cell HRD3.out hyn
                    clear hc2
                    by_cases hd : d y = (L : Int) - m
                    · have t1 : (d y == (L : Int) - m) = true := by simp [hd]
                      by_cases hx0 : x < 0
                      · have t2 : decide (x < 0) = true := decide_eq_true hx0
                        have STEP : Hid (NS G d cur (j' + 1) ((L : Int) - m) (y : Int)) := by
                          rw [hy]
                          exact HNS.out.take (by rw [← hy]; exact hd) (.inl hx0)
                        clear hy hd
                        go_wp2
                        try rw [← e2]
                        go_roundg (G.ol cur - (j' + 1))
                        case measure => omega
                        case rel => exact ⟨j' + 1, (y : Int), by omega, rfl, by go_num, STEP.out, rfl⟩
                      · have t2 : decide (x < 0) = false := decide_eq_false hx0
                        by_cases hx1 : (y : Int) < x
                        · have t3 : decide ((y : Int) < x) = true := decide_eq_true hx1
                          have STEP : Hid (NS G d cur (j' + 1) ((L : Int) - m) (y : Int)) := by
                            rw [hy]
                            exact HNS.out.take (by rw [← hy]; exact hd) (.inr (by rw [← hy]; exact hx1))
                          clear hy hd
                          go_wp2
                          try rw [← e2]
                          go_roundg (G.ol cur - (j' + 1))
                          case measure => omega
                          case rel => exact ⟨j' + 1, (y : Int), by omega, rfl, by go_num, STEP.out, rfl⟩
                        · have t3 : decide ((y : Int) < x) = false := decide_eq_false hx1
                          have STEP : Hid (NS G d cur (j' + 1) ((L : Int) - m) x) := HNS.out.stay hx0 (by rw [← hy]; exact hx1)
                          clear hy hd
                          go_wp2
                          try rw [← e2]
                          go_roundg (G.ol cur - (j' + 1))
                          case measure => omega
                          case rel => exact ⟨j' + 1, x, by omega, rfl, by go_num, STEP.out, rfl⟩
                    · have t1 : (d y == (L : Int) - m) = false := by simp [hd]
                      have STEP : Hid (NS G d cur (j' + 1) ((L : Int) - m) x) := HNS.out.skip (by rw [← hy]; exact hd)
                      clear hy hd
                      go_wp2
                      try rw [← e2]
                      go_roundg (G.ol cur - (j' + 1))
                      case measure => omega
                      case rel => exact ⟨j' + 1, x, by omega, rfl, by go_num, STEP.out, rfl⟩
                  · have hjl' : decide ((j' : Int) < (G.ol cur : Int)) = false := decide_eq_false (by omega)
                    have ej : j' = G.ol cur := by omega
                    have ex : x = (p m : Int) := by
                      have h := HNS.out
                      rw [ej, show (L : Int) - m = ((L - m : Nat) : Int) by omega] at h
                      exact h.fin HDI.out HG.out hcn NX.out
                    subst ex
                    obtain ⟨z, hz⟩ : ∃ z, z = p m := ⟨_, rfl⟩
                    have HZ : Hid (z = p m) := hz
                    rw [← hz] at hpm ⊢
                    have hz' : (z : Int) < (n : Int) := by omega
                    have t2 : decide ((z : Int) < 0) = false := decide_eq_false (by omega)
                    have z2 := (HBW3.out.cell (p := ⟨tb, tp + z, none⟩) ltb).trans (HTC.out z hpm)
                    clear hz ej HNS
                    go_wp2_with (at_builtin; refine wpList_append_int _ rfl (.tmp 109) (.tmp 114) rfl (some ad) m cap (fun k => tf (p k)) (tf z) rfl ⟨wr.heap.size, 0, none⟩ 1 rfl ?_ ?_ ?_ ?_)
                    case refine_1 => exact Sl.alloc HSL.out _
                    case refine_2 => simp [Addr.add_lit]
                    case refine_3 => omega
                    intro a' cap' w5 hS hg hn2
                    obtain ⟨ad', rfl, had'⟩ : ∃ ad', a' = some ad' ∧ w2.heap.size ≤ ad'.block := by
                      have := HB3.out.size
                      rcases hn2 with h | ⟨B', h, hB⟩
                      · exact ⟨ad, h, had⟩
                      · exact ⟨_, h, by simp at hB ⊢; omega⟩
                    have S5 : Hid (SlI w5 (some ad') (m + 1) cap' (fun k => tf (p k))) := SlI.congr hS fun i _ => by
                      by_cases e : i = m
                      · subst e; rw [if_pos rfl, HZ.out]
                      · rw [if_neg e]
                    have B5 : Hid (Below w2.heap.size w2 w5) := bel_grown (bel_alloc HB3.out _) hg (fun q hq => by simp [blk] at hq; omega)
                    clear hS hg hn2 z2
                    go_wp2
                    go_roundg (L - m)
                    case measure => omega
                    case rel => exact ⟨m + 1, ad', cap', by omega, by omega, by omega, rfl, by rw [show m + 1 - 1 = m by omega, HZ.out], by go_num, S5.out, had', B5.out⟩
              · have hrem : decide ((0 : Int) < (L : Int) - (m : Int)) = false := decide_eq_false (by omega)
                obtain rfl : m = L := by omega
                clear hsl hb3
                go_wp2
                go_ret
                exact ⟨bel_trans HB2.out HB3.out, .inr ⟨hlt, ad, cap, rfl, HSL.out.ints⟩⟩
    · have hlt' : decide ((k : Int) < (n : Int)) = false := decide_eq_false (by omega)
      clear hb
      go_wp2
      go_ret
      exact ⟨bel_trans HB1.out HB.out, .inl ⟨by omega, rfl⟩⟩
end Go.Proofs.Qxb6605452a
