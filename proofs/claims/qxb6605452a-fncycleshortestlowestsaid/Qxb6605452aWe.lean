import Derived.Test.Qxb6605452aWd
import Derived.Test.Qxb6605452aWc
namespace Go.Proofs.Qxb6605452a
open Go.RowKit

theorem SlI.tail {w : World} {qb qo l qc : Nat} {f : Nat → Int} (h : SlI w (some ⟨qb, qo, none⟩) (l + 1) qc f) :
    ∃ o2, (if qc = 1 then some (⟨qb, qo, none⟩ : Addr) else some ⟨qb, qo + 1, none⟩) = some ⟨qb, o2, none⟩ ∧ SlI w (some ⟨qb, o2, none⟩) l (qc - 1) (fun i => f (i + 1)) := by
  rcases h with ⟨h, _⟩ | ⟨B, off, m, H, he, hl, hm, hr, hF⟩
  · cases h
  · cases he
    by_cases e : qc = 1
    · refine ⟨qo, by rw [if_pos e], .inr ⟨qb, qo, m, H, rfl, by omega, by omega, hr, fun i hi => by omega⟩⟩
    · refine ⟨qo + 1, by rw [if_neg e], .inr ⟨qb, qo + 1, m, H, rfl, by omega, by omega, hr, fun i hi => ?_⟩⟩
      have := hF (i + 1) (by omega)
      rw [show qo + 1 + i = qo + (i + 1) by omega]; exact this

theorem NRow.congr' {w : World} {B n : Nat} {f g : Nat → Int} (h : NRow w B n f) (e : ∀ j, f j = g j) : NRow w B n g := World.rowIs.congr h fun j _ => by rw [e]

set_option maxHeartbeats 8000000 in
set_option maxRecDepth 100000 in
theorem cycle_any (gb go : Nat) (ta oa : Option Addr) (n tc oc : Nat) (tf : Nat → Int) (G : Gr) (s L : Nat) (p : Nat → Nat) (w : World) (hn : n ≤ 4096) (hsum : sumTo n G.ol ≤ 131072) (hG : G.In n) (hA : G.Asc n) (hC : Cyc G n s L p)
    (h0 : w.cell? ⟨gb, go, none⟩ = some (.slice ta n tc)) (h1 : w.cell? ⟨gb, go + 1, none⟩ = some (.slice oa n oc)) (hT : Ints w ta n tf) (hR : Rows w oa n G.ol (fun v j => (G.of v j : Int))) :
    Calls Try.prog 29 #[.pointer (some ⟨gb, go, none⟩)] w fun e w' => Below w.heap.size w w' ∧ CycRes w' n s L p tf e := by
  have hmf : ∀ (fn : Fn) (first cap : Array Value) (w : World), (Instr.makeFunc fn first cap).run Try.prog w = .ok (.func fn first cap) w := fun _ _ _ _ => rfl
  have hmk := fun w => run_make_row' (P := Try.prog) 22 3 (.int .i64 0) 8 Try.underlying22 Try.info3 rfl .i64 .i64 n (by omega) (by omega) w
  have HMK : Hid (∀ w : World, (Instr.makeSlice 22 (.int .i64 (n : Int)) (.int .i64 (n : Int))).run Try.prog w = .ok (.slice (some ⟨w.heap.size, 0, none⟩) n n) (w.alloc (.cells (madeCells #[.int .i64 0] n) 3))) := hmk
  have HR : Hid (Rows w oa n G.ol (fun v j => (G.of v j : Int))) := hR
  have HT : Hid (Ints w ta n tf) := hT
  have HG : Hid (G.In n) := hG
  have HA : Hid (G.Asc n) := hA
  have HC : Hid (Cyc G n s L p) := hC
  have H0 : Hid (w.cell? ⟨gb, go, none⟩ = some (.slice ta n tc)) := h0
  have H1 : Hid (w.cell? ⟨gb, go + 1, none⟩ = some (.slice oa n oc)) := h1
  have hle := hC.le
  have lg : gb < w.heap.size := World.block_lt_of_cell? w ⟨gb, go, none⟩ h0
  have HCALL : Hid (Calls Try.prog 27 _ _ _) := components_any gb go ta oa n tc oc G w hn hsum hG h0 h1 hR
  clear hmk hR hT hG hA hC h0 h1
  go_enter Try.func29, Try.ntmps29
  go_wp2_with fail
  refine HCALL.out.mono ?_
  clear HCALL
  rintro e w1 ⟨comp, size, nc, za, zc, rfl, hb1, hcm, hsz, hscc⟩
  have HSCC : Hid (Scc G n comp size nc) := hscc
  have NEW := rowIs_one w1 (.slice za nc zc) 22
  have B2 : Below w.heap.size w (w1.alloc (.cells #[.slice za nc zc] 22)) := bel_alloc hb1 _
  have hbig : ∀ u, u < n → (1 < size (comp u) ↔ G.On u) := fun u hu => (hscc.big u hu).trans Gr.on_iff.symm
  have cP : (w1.alloc (.cells #[.slice za nc zc] 22)).cell? ⟨w1.heap.size, 0, none⟩ = some (.slice za nc zc) := NEW.cell (i := 0) (by omega)
  have IZ : Ints (w1.alloc (.cells #[.slice za nc zc] 22)) za nc (fun i => (size i : Int)) := hsz.below (bel_alloc (Below.refl _ _) _) (Nat.le_refl _)
  have CM : NRow (w1.alloc (.cells #[.slice za nc zc] 22)) (w.heap.size + 6) n (fun v => (comp v : Int)) := hcm.below (bel_alloc (Below.refl _ _) _)
  obtain ⟨r, hr⟩ : ∃ r : Int, r = if s < n then (s : Int) else -1 := ⟨_, rfl⟩
  have HIDX : Hid (Calls Try.prog 32 _ _ _) := index_any (w.heap.size + 6) w1.heap.size nc zc n s za comp size (w1.alloc (.cells #[.slice za nc zc] 22)) hn cP IZ CM hscc.lt (fun v hv h => HC.out.lo v hv ((hbig v (by omega)).1 h)) (fun hs => (hbig s hs).2 (HC.out.on hs)) r hr
  have HRR : Hid (r = if s < n then (s : Int) else -1) := hr
  have HCM : Hid (NRow (w1.alloc (.cells #[.slice za nc zc] 22)) (w.heap.size + 6) n (fun v => (comp v : Int))) := CM
  have HB2 : Hid (Below w.heap.size w (w1.alloc (.cells #[.slice za nc zc] 22))) := B2
  have ltC : w.heap.size + 6 < w1.heap.size := World.rowIs.lt hcm
  clear hscc NEW B2 hbig cP IZ CM hr hb1 hcm hsz
  go_wp2_with fail
  refine HIDX.out.mono ?_
  clear HIDX
  rintro e w' ⟨rfl, rfl⟩
  by_cases hs : s < n
  · have er : r = (s : Int) := by rw [HRR.out, if_pos hs]
    subst er
    have t0 : decide ((s : Int) < 0) = false := decide_eq_false (by omega)
    have ltP : w.heap.size + 6 < (w1.alloc (.cells #[.slice za nc zc] 22)).heap.size := by simp; omega
    generalize w1.heap.size = P at *
    generalize w1.alloc (.cells #[.slice za nc zc] 22) = w2 at *
    have h0 : w2.cell? ⟨gb, go, none⟩ = some (.slice ta n tc) := (HB2.out.cell (p := ⟨gb, go, none⟩) lg).trans H0.out
    have hmk := HMK.out w2
    have HP : Hid (GP G s L p) := HC.out.gp hs
    have hLn := HP.out.len HG.out hs
    have hL1 := HP.out.l1
    have hs' : (s : Int) < (n : Int) := by omega
    clear HRR HC
    go_wp2
    clear hmk h0
    have ROW := World.rowIs_made w2 (.int .i64 0) n 3
    have BEL := bel_alloc (Below.refl w2.heap.size w2) (.cells (madeCells #[.int .i64 0] n) 3)
    have HROW : Hid (NRow (w2.alloc (.cells (madeCells #[.int .i64 0] n) 3)) w2.heap.size n (fun _ => 0)) := ROW
    have HBEL : Hid (Below w2.heap.size w2 (w2.alloc (.cells (madeCells #[.int .i64 0] n) 3))) := BEL
    clear ROW BEL
    generalize w2.alloc (.cells (madeCells #[.int .i64 0] n) 3) = w3 at *
    obtain ⟨Q, hQ⟩ : ∃ Q, Q = w2.heap.size := ⟨_, rfl⟩
    rw [← hQ] at HROW HBEL ltP ⊢
    have HQ : Hid (Q = w2.heap.size) := hQ
    clear hQ
    go_loopg [32] n (fun g i wr => ∃ k : Nat, k + g = n ∧ i = .int .i64 k ∧ Below Q w2 wr ∧ NRow wr Q n (fun j => if j < k then -1 else 0))
    case atStart => exact ⟨0, by omega, rfl, HBEL.out, HROW.out.congr' fun j => by rw [if_neg (by omega)]⟩
    case round =>
      clear HROW HBEL
      obtain ⟨k, hk, rfl, hb, hrw⟩ := hrel
      have HB : Hid (Below Q w2 wr) := hb
      have HRW : Hid (NRow wr Q n (fun j => if j < k then -1 else 0)) := hrw
      by_cases hlt : k < n
      · have hlt' : (k : Int) < (n : Int) := by omega
        have x0 := NRow.cell hrw (i := k) hlt
        have x1 := NRow.frozen hrw k
        clear hb hrw
        go_wp2
        go_roundg (n - (k + 1))
        case measure => omega
        case rel =>
          refine ⟨k + 1, by omega, by go_num, HB.out.setCell (Nat.le_refl _) _, HRW.out.set k (-1) fun j => ?_⟩
          by_cases e : j = k
          · subst e; simp
          · by_cases e2 : j < k
            · simp [e, e2, show j < k + 1 by omega]
            · simp [e, e2, show ¬ j < k + 1 by omega]
      · have hlt' : decide ((k : Int) < (n : Int)) = false := decide_eq_false (by omega)
        have PAR : Hid (NRow wr Q n (fun _ => -1)) := World.rowIs.congr hrw fun j hj => by simp [show j < k by omega]
        have NEW := rowIs_one wr (.int .i64 (s : Int)) 3
        have B4 : Hid (Below Q w2 (wr.alloc (.cells #[.int .i64 (s : Int)] 3))) := hb.alloc (by have := hb.size; rw [HQ.out]; exact this) _
        have PAR4 : Hid (NRow (wr.alloc (.cells #[.int .i64 (s : Int)] 3)) Q n (fun _ => -1)) := PAR.out.below (bel_alloc (Below.refl _ _) _)
        have S4 : Hid (SlI (wr.alloc (.cells #[.int .i64 (s : Int)] 3)) (some ⟨wr.heap.size, 0, none⟩) 1 1 (fun _ => (s : Int))) := .inr ⟨wr.heap.size, 0, 1, _, rfl, by omega, by omega, NEW, fun i _ => rfl⟩
        have ltQ : Q < wr.heap.size := World.rowIs.lt hrw
        clear hb hrw NEW HB HRW
        go_wp2
        generalize wr.alloc (.cells #[.int .i64 (s : Int)] 3) = w4 at *
        generalize wr.heap.size = qb0 at *
        have TS0 : Hid (BSt G s L p 0 0 1 0 (fun _ => s) (fun _ => -1)) := BSt.init HP.out (fun _ => s) rfl (fun _ => -1) (fun _ => rfl)
        go_loopg [8] (n + 1) (fun g qs wr => ∃ (k a b c : Nat) (q : Nat → Nat) (par : Nat → Int) (qb qo qc : Nat), (b - a) + noPar n par ≤ g ∧ (b - a) + noPar n par ≤ n + 1 ∧ qs = .slice (some ⟨qb, qo, none⟩) (b - a) qc ∧ Q < qb ∧ BSt G s L p k a b c q par ∧ (∀ i, a ≤ i → i < b → q i < n) ∧ (∀ y, -1 ≤ par y) ∧ SlI wr (some ⟨qb, qo, none⟩) (b - a) qc (fun i => (q (a + i) : Int)) ∧ NRow wr Q n par ∧ Below Q w2 wr)
        case atStart => exact ⟨0, 0, 1, 0, _, _, qb0, 0, 1, by have := noPar_le n (fun _ => -1); omega, by have := noPar_le n (fun _ => -1); omega, rfl, ltQ, TS0.out, fun i _ _ => hs, fun y => by omega, S4.out, PAR4.out, B4.out⟩
        case round =>
          clear TS0 S4 PAR4 B4 PAR ltQ
          obtain ⟨kk, a, b, c, q, par, qb, qo, qc, hms, hmn, rfl, hQq, hst, hqn, hpn, hsl, hpr, hb⟩ := hrel
          have ac := hst.ac
          have cb := hst.cb
          obtain ⟨l, hl⟩ : ∃ l, b - a = l + 1 := ⟨b - a - 1, by omega⟩
          obtain ⟨M, hM⟩ : ∃ M, M = (b - a) + noPar n par := ⟨_, rfl⟩
          rw [hl] at hsl ⊢
          obtain ⟨v, hv⟩ : ∃ v, v = q a := ⟨_, rfl⟩
          have hvn : v < n := by rw [hv]; exact hqn a (Nat.le_refl _) (by omega)
          have hvn' : (v : Int) < (n : Int) := by omega
          have d0 : wr.cell? ⟨qb, qo, none⟩ = some (.int .i64 (v : Int)) := by
            have := Sl.cell hsl (i := 0) (by omega)
            rw [hv]; exact this
          have hlc : l + 1 ≤ qc := by obtain ⟨_, _, _, h⟩ := Sl.tag hsl (by omega); exact h
          have hlc' : (l : Int) + 1 ≤ (qc : Int) := by omega
          have BW : Below w.heap.size w wr := HB2.out.trans (hb.mono (by rw [HQ.out]; exact HB2.out.size))
          have d1 : wr.cell? ⟨gb, go + 1, none⟩ = some (.slice oa n oc) := (BW.cell (p := ⟨gb, go + 1, none⟩) lg).trans H1.out
          rcases HR.out with h | ⟨ob, oo, ra, rc, e, hc⟩
          · omega
          subst e
          obtain ⟨k1, k2, _⟩ := hc v hvn
          have lb : ob < w.heap.size := World.block_lt_of_cell? w ⟨ob, oo + v, none⟩ k1
          have d2 := (BW.cell (p := ⟨ob, oo + v, none⟩) lb).trans k1
          have HK2 : Hid (Ints w (ra v) (G.ol v) (fun j => (G.of v j : Int))) := k2
          have hokv : G.ol v ≤ 131072 := by
            have := sumTo_mono (f := G.ol) (k := v + 1) (n := n) (by omega)
            simp only [sumTo] at this; omega
          have HST : Hid (InSt G s L p v 0 (a + 1) b q par) := by rw [hv]; exact InSt.start hst
          have HQN : Hid (∀ i, a ≤ i → i < b → q i < n) := hqn
          have HPN : Hid (∀ y, -1 ≤ par y) := hpn
          have HSL : Hid (SlI wr (some ⟨qb, qo, none⟩) (l + 1) qc (fun i => (q (a + i) : Int))) := hsl
          have HPR : Hid (NRow wr Q n par) := hpr
          have HB : Hid (Below Q w2 wr) := hb
          have HML : Hid (M = (b - a) + noPar n par ∧ b - a = l + 1) := ⟨hM, hl⟩
          obtain ⟨o2, ho2, hs2⟩ := SlI.tail hsl
          have HS2 : Hid (SlI wr (some ⟨qb, o2, none⟩) l (qc - 1) (fun i => (q (a + 1 + i) : Int))) := SlI.congr hs2 fun i _ => by
            show (q (a + (i + 1)) : Int) = _
            rw [show a + (i + 1) = a + 1 + i by omega]
          clear hst hqn hpn hsl hs2 hpr hb hv hM hl BW k1 k2 hc
          go_wp2
          clear d0 d1 d2 ho2 hlc'
          obtain ⟨a1, ha1⟩ : ∃ a1, a1 = a + 1 := ⟨_, rfl⟩
          rw [← ha1] at HST HS2
          have HQN1 : Hid (∀ i, a1 ≤ i → i < b → q i < n) := fun i h1 h2 => HQN.out i (by omega) h2
          have HL1 : Hid (l = b - a1 ∧ M = (b - a1) + noPar n par + 1 ∧ a1 ≤ b) := by
            obtain ⟨e1, e2⟩ := HML.out
            exact ⟨by omega, by omega, by omega⟩
          have hMn : M ≤ n + 1 := by have := HML.out.1; omega
          have hMg : M ≤ gk := by have := HML.out.1; omega
          clear HML HQN ha1 hms hmn ac cb
          rw [HL1.out.1] at HS2 ⊢
          go_loopg [8, 57] (G.ol v) (fun g qs jj wr => ∃ (j b : Nat) (q : Nat → Nat) (par : Nat → Int) (qb qo qc : Nat), j + g = G.ol v ∧ M = (b - a1) + noPar n par + 1 ∧ a1 ≤ b ∧ qs = .slice (some ⟨qb, qo, none⟩) (b - a1) qc ∧ jj = .int .i64 j ∧ Q < qb ∧ InSt G s L p v j a1 b q par ∧ (∀ i, a1 ≤ i → i < b → q i < n) ∧ (∀ y, -1 ≤ par y) ∧ SlI wr (some ⟨qb, qo, none⟩) (b - a1) qc (fun i => (q (a1 + i) : Int)) ∧ NRow wr Q n par ∧ Below Q w2 wr)
          case atStart => exact ⟨0, b, q, par, qb, o2, qc - 1, by omega, HL1.out.2.1, HL1.out.2.2, rfl, rfl, hQq, HST.out, HQN1.out, HPN.out, HS2.out, HPR.out, HB.out⟩
          case round =>
            clear HL1 HST HQN1 HPN HS2 HPR HB HSL hQq hlc
            obtain ⟨j, b, q, par, qb, qo, qc, hj, hM, hab, rfl, rfl, hQq, hst, hqn, hpn, hsl, hpr, hb⟩ := hrel
            have HST : Hid (InSt G s L p v j a1 b q par) := hst
            have HQN : Hid (∀ i, a1 ≤ i → i < b → q i < n) := hqn
            have HPN : Hid (∀ y, -1 ≤ par y) := hpn
            have HSL : Hid (SlI wr (some ⟨qb, qo, none⟩) (b - a1) qc (fun i => (q (a1 + i) : Int))) := hsl
            have HPR : Hid (NRow wr Q n par) := hpr
            have HB : Hid (Below Q w2 wr) := hb
            have BW : Below w.heap.size w wr := HB2.out.trans (hb.mono (by rw [HQ.out]; exact HB2.out.size))
            have HBW : Hid (Below w.heap.size w wr) := BW
            by_cases hjl : j < G.ol v
            · have hjl' : (j : Int) < (G.ol v : Int) := by omega
              rcases HK2.out with h | ⟨b2, o2, e2, hc2⟩
              · omega
              have lb2 : b2 < w.heap.size := World.block_lt_of_cell? w ⟨b2, o2 + j, none⟩ (hc2 j hjl)
              have y2 : wr.cell? ⟨b2, o2 + j, none⟩ = some (.int .i64 (G.of v j : Int)) := (BW.cell (p := ⟨b2, o2 + j, none⟩) lb2).trans (hc2 j hjl)
              have hyn := HG.out v (G.of v j) hvn ⟨j, hjl, rfl⟩
              obtain ⟨y, hy⟩ : ∃ y, y = G.of v j := ⟨_, rfl⟩
              rw [← hy] at y2 hyn
              have hyn' : (y : Int) < (n : Int) := by omega
              have HY : Hid (y = G.of v j) := hy
              have x1 : wr.cell? ⟨Q, y, none⟩ = some (.int .i64 (par y)) := NRow.cell hpr hyn
              have xf : wr.frozen? ⟨Q, y, none⟩ = false := NRow.frozen hpr y
              have CMR : NRow wr (w.heap.size + 6) n (fun v => (comp v : Int)) := World.rowIs.of_block HCM.out (hb.block _ (by omega))
              have x2 : wr.cell? ⟨w.heap.size + 6, y, none⟩ = some (.int .i64 (comp y : Int)) := NRow.cell CMR hyn
              have x3 : wr.cell? ⟨w.heap.size + 6, s, none⟩ = some (.int .i64 (comp s : Int)) := NRow.cell CMR hs
              clear hst hqn hpn hsl hpr hb BW CMR hc2
              by_cases hys : y = s
              · have t1 : ((y : Int) == (s : Int)) = true := by simp [hys]
                obtain ⟨evp, hch⟩ := HST.out.found HP.out hjl (by rw [← hy]; exact hys)
                have HCH : Hid (v = p (L - 1) ∧ Chain p (L - 1) par) := ⟨evp, hch⟩
                rcases HT.out with h | ⟨tb, tp, e, htc⟩
                · omega
                subst e
                have HTC : Hid (∀ i, i < n → w.cell? ⟨tb, tp + i, none⟩ = some (.int .i64 (tf i))) := htc
                have ltb : tb < w.heap.size := World.block_lt_of_cell? w ⟨tb, tp + s, none⟩ (htc s hs)
                clear evp hch htc hys hy x1 xf x2 x3 HST HQN HSL
                go_wp2
                clear y2 t1
                clear e2
                obtain ⟨wz, hwz⟩ : ∃ wz : World, wz = wr := ⟨_, rfl⟩
                have HBZ : Hid (Below w.heap.size w wz) := by rw [hwz]; exact HBW.out
                have HPZ : Hid (NRow wz Q n par) := by rw [hwz]; exact HPR.out
                have B00 : Hid (Below wz.heap.size wz wr) := by rw [hwz]; exact Below.refl _ _
                have ltZ : Q < wz.heap.size := World.rowIs.lt HPZ.out
                have hwle : w.heap.size ≤ wz.heap.size := HBZ.out.size
                clear hwz HBW HPR HB
                go_loopg [12, 13] L (fun g cy uu w5 => ∃ (t : Nat) (ca : Option Addr) (cc : Nat), t + g = L ∧ t < L ∧ cy = .slice ca t cc ∧ uu = .int .i64 (p (L - 1 - t) : Int) ∧ SlI w5 ca t cc (fun i => tf (p (L - 1 - i))) ∧ (∀ x, ca = some x → wz.heap.size ≤ x.block) ∧ Below wz.heap.size wz w5)
                case atStart => exact ⟨0, none, 0, by omega, by omega, rfl, by rw [HCH.out.1]; rfl, .inl ⟨rfl, rfl, rfl⟩, (fun x h => nomatch h), B00.out⟩
                case round =>
                  obtain ⟨t, ca, cc, htg, htL, rfl, rfl, hsl, hca, hb5⟩ := hrel
                  have HSL : Hid (SlI wr ca t cc (fun i => tf (p (L - 1 - i)))) := hsl
                  have HCA : Hid (∀ x, ca = some x → wz.heap.size ≤ x.block) := hca
                  have HB5 : Hid (Below wz.heap.size wz wr) := hb5
                  have BW5 : Below w.heap.size w wr := bel_trans HBZ.out hb5
                  have g0 : wr.cell? ⟨gb, go, none⟩ = some (.slice (some ⟨tb, tp, none⟩) n tc) := (BW5.cell (p := ⟨gb, go, none⟩) lg).trans H0.out
                  have lz5 : wz.heap.size ≤ wr.heap.size := hb5.size
                  by_cases hlast : t = L - 1
                  · have eu : p (L - 1 - t) = s := by rw [hlast, Nat.sub_self]; exact HP.out.p0
                    rw [eu]
                    have t5 : ((s : Int) != (s : Int)) = false := by simp
                    have g1 : wr.cell? ⟨tb, tp + s, none⟩ = some (.int .i64 (tf s)) := (BW5.cell (p := ⟨tb, tp + s, none⟩) ltb).trans (HTC.out s hs)
                    have HLAST : Hid (t = L - 1 ∧ p (L - 1 - t) = s) := ⟨hlast, eu⟩
                    clear eu hlast hsl hca hb5 BW5
                    go_wp2_with (at_builtin; refine wpList_append_int _ rfl (.tmp 82) (.tmp 90) rfl ca t cc (fun i => tf (p (L - 1 - i))) (tf s) rfl ⟨wr.heap.size, 0, none⟩ 1 rfl ?_ ?_ ?_ ?_)
                    case refine_1 => exact Sl.alloc HSL.out _
                    case refine_2 => simp [Addr.add_lit]
                    case refine_3 => omega
                    intro a' cap' w6 hS hg hn2
                    obtain ⟨rb, ro, rfl, _⟩ := Sl.tag hS (by omega)
                    have hrb : w.heap.size ≤ rb := by
                      rcases hn2 with ⟨h, _⟩ | ⟨B', h, hB⟩
                      · have := HCA.out _ h.symm; simp at this; omega
                      · simp at h hB; omega
                    have B6 : Below w.heap.size w w6 := bel_grown (bel_alloc (bel_trans HBZ.out HB5.out) _) hg (fun q hq => by
                      cases hcc : ca with
                      | none => rw [hcc] at hq; simp [blk] at hq
                      | some x => rw [hcc] at hq; simp [blk] at hq; have := HCA.out x hcc; omega)
                    have S6 : SlI w6 (some ⟨rb, ro, none⟩) L cap' (fun i => tf (p (L - 1 - i))) := by
                      obtain ⟨z1, z2⟩ := HLAST.out
                      rw [show t + 1 = L by omega] at hS
                      refine SlI.congr hS fun i _ => ?_
                      by_cases e : i = t
                      · rw [if_pos e, e, z2]
                      · rw [if_neg e]
                    have HCALL : Hid (Calls Try.prog 34 _ _ _) := reverse_any rb ro L cap' w.heap.size (fun i => tf (p (L - 1 - i))) w6 (by omega) hL1 hrb S6
                    have HB6 : Hid (Below w.heap.size w w6) := B6
                    have hLt : t + 1 = L := by have := HLAST.out.1; omega
                    rw [hLt]
                    clear hS hg hn2 B6 S6 g0 g1 hLt
                    go_wp2_with fail
                    refine HCALL.out.mono ?_
                    clear HCALL
                    rintro e w7 ⟨rfl, hb7, hs7⟩
                    have RES : Hid (Ints w7 (some ⟨rb, ro, none⟩) L (fun k => tf (p k))) := SlI.ints (SlI.congr hs7 fun i hi => by
                      show tf (p (L - 1 - (L - 1 - i))) = tf (p i)
                      rw [show L - 1 - (L - 1 - i) = i by omega])
                    have B7 : Hid (Below w.heap.size w w7) := HB6.out.trans hb7
                    clear hb7 hs7
                    go_wp2
                    go_ret
                    exact ⟨B7.out, .inr ⟨hs, _, _, rfl, RES.out⟩⟩
                  · obtain ⟨i, hi⟩ : ∃ i, L - 1 - t = i + 1 := ⟨L - 1 - t - 1, by omega⟩
                    rw [hi]
                    have hun : p (i + 1) < n := HP.out.lt HG.out hs (i + 1) (by omega)
                    have hne : p (i + 1) ≠ s := fun e => HP.out.inj (i := 0) (j := i + 1) (by omega) (by omega) (by rw [HP.out.p0, e])
                    have hpar : par (p (i + 1)) = (p i : Int) := HCH.out.2 (i + 1) (by omega) (by omega)
                    obtain ⟨u, hu⟩ : ∃ u, u = p (i + 1) := ⟨_, rfl⟩
                    rw [← hu] at hun hne hpar ⊢
                    have hun' : (u : Int) < (n : Int) := by omega
                    have t5 : ((u : Int) != (s : Int)) = true := by simp; omega
                    have g1 : wr.cell? ⟨tb, tp + u, none⟩ = some (.int .i64 (tf u)) := (BW5.cell (p := ⟨tb, tp + u, none⟩) ltb).trans (HTC.out u hun)
                    have HU : Hid (u = p (i + 1) ∧ L - 1 - t = i + 1 ∧ par u = (p i : Int)) := ⟨hu, hi, hpar⟩
                    clear hu hi hne hpar hsl hca hb5 BW5
                    go_wp2_with (at_builtin; refine wpList_append_int _ rfl (.tmp 72) (.tmp 80) rfl ca t cc (fun i => tf (p (L - 1 - i))) (tf u) rfl ⟨wr.heap.size, 0, none⟩ 1 rfl ?_ ?_ ?_ ?_)
                    case refine_1 => exact Sl.alloc HSL.out _
                    case refine_2 => simp [Addr.add_lit]
                    case refine_3 => omega
                    intro a' cap' w6 hS hg hn2
                    have hca' : Hid (∀ x, a' = some x → wz.heap.size ≤ x.block) := fun x hx => by
                      rcases hn2 with ⟨h, _⟩ | ⟨B', h, hB⟩
                      · exact HCA.out x (by rw [← h]; exact hx)
                      · rw [h] at hx; cases hx; simp at hB ⊢; omega
                    have B6 : Below wz.heap.size wz w6 := bel_grown (bel_alloc HB5.out _) hg (fun q hq => by
                      cases hcc : ca with
                      | none => rw [hcc] at hq; simp [blk] at hq
                      | some x => rw [hcc] at hq; simp [blk] at hq; have := HCA.out x hcc; omega)
                    have g2 : w6.cell? ⟨Q, u, none⟩ = some (.int .i64 (p i : Int)) := by
                      have := NRow.cell (HPZ.out.below B6) hun
                      rw [this, HU.out.2.2]
                    have S6 : Hid (SlI w6 a' (t + 1) cap' (fun i => tf (p (L - 1 - i)))) := SlI.congr hS fun i' _ => by
                      by_cases e : i' = t
                      · rw [if_pos e, e, HU.out.2.1, HU.out.1]
                      · rw [if_neg e]
                    have HB6 : Hid (Below wz.heap.size wz w6) := B6
                    clear hS hg hn2 B6 g0 g1
                    go_wp2
                    go_roundg (L - (t + 1))
                    case measure => omega
                    case rel => exact ⟨t + 1, a', cap', by omega, by have := HU.out.2.1; omega, rfl, by rw [show L - 1 - (t + 1) = i by have := HU.out.2.1; omega], S6.out, hca'.out, HB6.out⟩
              · have t1 : ((y : Int) == (s : Int)) = false := by simp; omega
                by_cases hcy : comp y = comp s
                · have t2 : (((comp y : Nat) : Int) == ((comp s : Nat) : Int)) = true := by simp [hcy]
                  by_cases hpy : par y < 0
                  · have t3 : decide (par y < 0) = true := decide_eq_true hpy
                    have hw1 : par y = -1 := by have := HPN.out y; omega
                    have STEP : Hid (InSt G s L p v (j + 1) a1 (b + 1) (fun i => if i = b then y else q i) (fun x => if x = y then (v : Int) else par x)) := by
                      refine HST.out.enq HP.out HA.out hvn hjl (by rw [← hy]; exact hys) (by rw [← hy]; exact hw1) (fun x => ?_) (fun i => ?_)
                      · rw [← hy]
                      · rw [← hy]
                    have hnp : noPar n (fun x => if x = y then (v : Int) else par x) + 1 = noPar n par := noPar_set hyn hw1 (fun x => rfl)
                    have HQN' : Hid (∀ i, a1 ≤ i → i < b + 1 → (fun i => if i = b then y else q i) i < n) := fun i h1 h2 => by
                      show (if i = b then y else q i) < n
                      split
                      · exact hyn
                      · exact HQN.out i h1 (by omega)
                    have HPN' : Hid (∀ z, -1 ≤ (fun x => if x = y then (v : Int) else par x) z) := fun z => by
                      show -1 ≤ if z = y then (v : Int) else par z
                      split
                      · omega
                      · exact HPN.out z
                    have ltQ : Q < wr.heap.size := World.rowIs.lt HPR.out
                    clear hys hcy hpy hy hw1
                    go_wp2
                    go_quiet (fail)
                    have R5 : Hid (NRow ((wr.drewN nq).setCell ⟨Q, y, none⟩ (.int .i64 (v : Int))) Q n (fun x => if x = y then (v : Int) else par x)) := NRow.set (w := wr.drewN nq) HPR.out y (v : Int) (fun _ => rfl)
                    have S5 : Hid (SlI ((wr.drewN nq).setCell ⟨Q, y, none⟩ (.int .i64 (v : Int))) (some ⟨qb, qo, none⟩) (b - a1) qc (fun i => (q (a1 + i) : Int))) := Sl.other (w := wr.drewN nq) HSL.out (fun x hx => by cases hx; simp; omega) _
                    have B5 : Hid (Below Q w2 ((wr.drewN nq).setCell ⟨Q, y, none⟩ (.int .i64 (v : Int)))) := (HB.out.trans (below_drewN _ _ _)).setCell (Nat.le_refl _) _
                    have lt5 : Q < ((wr.drewN nq).setCell ⟨Q, y, none⟩ (.int .i64 (v : Int))).heap.size := World.rowIs.lt R5.out
                    go_upto_region 29 with fail
                    generalize (wr.drewN nq).setCell ⟨Q, y, none⟩ (.int .i64 (v : Int)) = w5 at *
                    clear x1 xf x2 x3 y2 HPR HSL HB HQN HPN HST
                    go_wp2_with (at_builtin; refine wpList_append_int _ rfl (.tmp 115) (.tmp 117) rfl (some ⟨qb, qo, none⟩) (b - a1) qc (fun i => (q (a1 + i) : Int)) y rfl ⟨w5.heap.size, 0, none⟩ 1 rfl ?_ ?_ ?_ ?_)
                    case refine_1 => exact Sl.alloc S5.out _
                    case refine_2 => simp [Addr.add_lit]
                    case refine_3 => omega
                    intro a' cap' w6 hS hg hn2
                    obtain ⟨qb', qo', rfl, _⟩ := Sl.tag hS (by omega)
                    have hQ' : Q < qb' := by
                      rcases hn2 with h | ⟨B', h, hB⟩
                      · simp at h; omega
                      · simp at h hB; omega
                    have S6 : Hid (SlI w6 (some ⟨qb', qo', none⟩) (b + 1 - a1) cap' (fun i => (((fun i => if i = b then y else q i) (a1 + i) : Nat) : Int))) := by
                      rw [show b + 1 - a1 = b - a1 + 1 by omega]
                      refine SlI.congr hS fun i _ => ?_
                      show (if i = b - a1 then (y : Int) else (q (a1 + i) : Int)) = ((if a1 + i = b then y else q (a1 + i) : Nat) : Int)
                      by_cases e : i = b - a1
                      · rw [if_pos e, if_pos (by omega)]
                      · rw [if_neg e, if_neg (by omega)]
                    have R6 : Hid (NRow w6 Q n (fun x => if x = y then (v : Int) else par x)) := World.rowIs.of_block R5.out ((hg.block Q (by simp; omega) (by simp [blk]; omega)).trans ((bel_alloc (Below.refl _ _) _).block Q lt5))
                    have B6 : Hid (Below Q w2 w6) := by
                      have hbl := B5.out.alloc (by omega) (.cells #[.int .i64 (y : Int)] 3)
                      exact ⟨hg.os.trans hbl.os, hg.tape.trans hbl.tape, hg.output.trans hbl.output, Nat.le_trans hbl.size hg.size, fun k hk => (hg.block k (by simp; omega) (by simp [blk]; omega)).trans (hbl.block k hk)⟩
                    clear hS hg hn2
                    go_wp2
                    try rw [← e2]
                    go_roundg (G.ol v - (j + 1))
                    case measure => omega
                    case rel => exact ⟨j + 1, b + 1, _, _, qb', qo', cap', by omega, by omega, by omega, by rw [show b + 1 - a1 = b - a1 + 1 by omega], by go_num, hQ', STEP.out, HQN'.out, HPN'.out, S6.out, R6.out, B6.out⟩
                  · have t3 : decide (par y < 0) = false := decide_eq_false hpy
                    have STEP : Hid (InSt G s L p v (j + 1) a1 b q par) := HST.out.skip HP.out HG.out hs HSCC.out (by rw [← hy]; exact hys) (by rw [← hy]; exact fun h => hpy h.2)
                    clear hys hcy hpy hy
                    go_wp2
                    go_quiet (fail)
                    go_wp2
                    try rw [← e2]
                    go_roundg (G.ol v - (j + 1))
                    case measure => omega
                    case rel => exact ⟨j + 1, b, q, par, qb, qo, qc, by omega, hM, hab, rfl, by go_num, hQq, STEP.out, HQN.out, HPN.out, HSL.out, HPR.out, HB.out.trans (below_drewN _ _ _)⟩
                · have t2 : (((comp y : Nat) : Int) == ((comp s : Nat) : Int)) = false := by simp; omega
                  have STEP : Hid (InSt G s L p v (j + 1) a1 b q par) := HST.out.skip HP.out HG.out hs HSCC.out (by rw [← hy]; exact hys) (by rw [← hy]; exact fun h => hcy h.1)
                  clear hys hcy hy
                  go_wp2
                  go_quiet (fail)
                  go_wp2
                  try rw [← e2]
                  go_roundg (G.ol v - (j + 1))
                  case measure => omega
                  case rel => exact ⟨j + 1, b, q, par, qb, qo, qc, by omega, hM, hab, rfl, by go_num, hQq, STEP.out, HQN.out, HPN.out, HSL.out, HPR.out, HB.out.trans (below_drewN _ _ _)⟩
            · have hjl' : decide ((j : Int) < (G.ol v : Int)) = false := decide_eq_false (by omega)
              have ej : j = G.ol v := by omega
              have FIN : Hid (∃ k c, BSt G s L p k a1 b c q par) := by
                rw [ej] at hst
                exact hst.fin HP.out
              clear hst hqn hpn hsl hpr hb BW ej
              go_wp2
              go_roundg ((b - a1) + noPar n par)
              case measure => omega
              case rel =>
                obtain ⟨k', c', hf⟩ := FIN.out
                exact ⟨k', a1, b, c', q, par, qb, qo, qc, Nat.le_refl _, by omega, rfl, hQq, hf, HQN.out, HPN.out, HSL.out, HPR.out, HB.out⟩
  · have er : r = -1 := by rw [HRR.out, if_neg hs]
    subst er
    go_wp2
    go_ret
    exact ⟨HB2.out, .inl ⟨by omega, rfl⟩⟩
end Go.Proofs.Qxb6605452a
