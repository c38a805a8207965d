import Derived.Test.Qxb6605452aWb
namespace Go.Proofs.Qxb6605452a
open Go.RowKit

theorem Try.info4 : (Try.prog.info? 4).map (fun i => (i.zero, i.size, i.bytes)) = some (some (.bool false), 1, 1) := by kernel_rfl

theorem Try.info53 : (Try.prog.info? 53).map (fun i => (i.zero, i.size, i.bytes)) = some (some (.agg #[.int .i64 0, .int .i64 0]), 2, 16) := by kernel_rfl

theorem rowIs_at {w : World} {b t n : Nat} {f : Nat → Value} {b' : Nat} (h : w.rowIs b t n f) (e : b = b') : w.rowIs b' t n f := e ▸ h

theorem m27_init (w : World) (n : Nat) : M27 (((((((((w.alloc (.cells (madeCells #[.int .i64 0] n) 3)).alloc (.cells #[.slice (some ⟨w.heap.size, 0, none⟩) n n] 22)).alloc (.cells (madeCells #[.int .i64 0] n) 3)).alloc (.cells #[.slice (some ⟨w.heap.size + 2, 0, none⟩) n n] 22)).alloc
    (.cells (madeCells #[.bool false] n) 4)).alloc (.cells #[.slice (some ⟨w.heap.size + 4, 0, none⟩) n n] 32)).alloc (.cells (madeCells #[.int .i64 0] n) 3)).alloc (.cells #[.slice none 0 0] 22)).alloc (.cells #[.int .i64 0] 3)) w.heap.size n TS.init none 0 none 0 none 0 ∧
    Below w.heap.size w (((((((((w.alloc (.cells (madeCells #[.int .i64 0] n) 3)).alloc (.cells #[.slice (some ⟨w.heap.size, 0, none⟩) n n] 22)).alloc (.cells (madeCells #[.int .i64 0] n) 3)).alloc (.cells #[.slice (some ⟨w.heap.size + 2, 0, none⟩) n n] 22)).alloc
    (.cells (madeCells #[.bool false] n) 4)).alloc (.cells #[.slice (some ⟨w.heap.size + 4, 0, none⟩) n n] 32)).alloc (.cells (madeCells #[.int .i64 0] n) 3)).alloc (.cells #[.slice none 0 0] 22)).alloc (.cells #[.int .i64 0] 3)) := by
  have r0 := World.rowIs_made w (.int .i64 0) n 3
  have b0 := bel_alloc (Below.refl w.heap.size w) (.cells (madeCells #[.int .i64 0] n) 3)
  have s0 : (w.alloc (.cells (madeCells #[.int .i64 0] n) 3)).heap.size = w.heap.size + 1 := by simp
  generalize w.alloc (.cells (madeCells #[.int .i64 0] n) 3) = w1 at *
  have r1 := rowIs_at (rowIs_one w1 (.slice (some ⟨w.heap.size, 0, none⟩) n n) 22) s0
  have r0 := r0.alloc (.cells #[.slice (some ⟨w.heap.size, 0, none⟩) n n] 22)
  have b1 := bel_alloc b0 (.cells #[.slice (some ⟨w.heap.size, 0, none⟩) n n] 22)
  have s1 : (w1.alloc (.cells #[.slice (some ⟨w.heap.size, 0, none⟩) n n] 22)).heap.size = w.heap.size + 2 := by simp; omega
  generalize w1.alloc (.cells #[.slice (some ⟨w.heap.size, 0, none⟩) n n] 22) = w2 at *
  have r2 := rowIs_at (World.rowIs_made w2 (.int .i64 0) n 3) s1
  have r0 := r0.alloc (.cells (madeCells #[.int .i64 0] n) 3)
  have r1 := r1.alloc (.cells (madeCells #[.int .i64 0] n) 3)
  have b2 := bel_alloc b1 (.cells (madeCells #[.int .i64 0] n) 3)
  have s2 : (w2.alloc (.cells (madeCells #[.int .i64 0] n) 3)).heap.size = w.heap.size + 3 := by simp; omega
  generalize w2.alloc (.cells (madeCells #[.int .i64 0] n) 3) = w3 at *
  have r3 := rowIs_at (rowIs_one w3 (.slice (some ⟨w.heap.size + 2, 0, none⟩) n n) 22) s2
  have r0 := r0.alloc (.cells #[.slice (some ⟨w.heap.size + 2, 0, none⟩) n n] 22)
  have r1 := r1.alloc (.cells #[.slice (some ⟨w.heap.size + 2, 0, none⟩) n n] 22)
  have r2 := r2.alloc (.cells #[.slice (some ⟨w.heap.size + 2, 0, none⟩) n n] 22)
  have b3 := bel_alloc b2 (.cells #[.slice (some ⟨w.heap.size + 2, 0, none⟩) n n] 22)
  have s3 : (w3.alloc (.cells #[.slice (some ⟨w.heap.size + 2, 0, none⟩) n n] 22)).heap.size = w.heap.size + 4 := by simp; omega
  generalize w3.alloc (.cells #[.slice (some ⟨w.heap.size + 2, 0, none⟩) n n] 22) = w4 at *
  have r4 := rowIs_at (World.rowIs_made w4 (.bool false) n 4) s3
  have r0 := r0.alloc (.cells (madeCells #[.bool false] n) 4)
  have r1 := r1.alloc (.cells (madeCells #[.bool false] n) 4)
  have r2 := r2.alloc (.cells (madeCells #[.bool false] n) 4)
  have r3 := r3.alloc (.cells (madeCells #[.bool false] n) 4)
  have b4 := bel_alloc b3 (.cells (madeCells #[.bool false] n) 4)
  have s4 : (w4.alloc (.cells (madeCells #[.bool false] n) 4)).heap.size = w.heap.size + 5 := by simp; omega
  generalize w4.alloc (.cells (madeCells #[.bool false] n) 4) = w5 at *
  have r5 := rowIs_at (rowIs_one w5 (.slice (some ⟨w.heap.size + 4, 0, none⟩) n n) 32) s4
  have r0 := r0.alloc (.cells #[.slice (some ⟨w.heap.size + 4, 0, none⟩) n n] 32)
  have r1 := r1.alloc (.cells #[.slice (some ⟨w.heap.size + 4, 0, none⟩) n n] 32)
  have r2 := r2.alloc (.cells #[.slice (some ⟨w.heap.size + 4, 0, none⟩) n n] 32)
  have r3 := r3.alloc (.cells #[.slice (some ⟨w.heap.size + 4, 0, none⟩) n n] 32)
  have r4 := r4.alloc (.cells #[.slice (some ⟨w.heap.size + 4, 0, none⟩) n n] 32)
  have b5 := bel_alloc b4 (.cells #[.slice (some ⟨w.heap.size + 4, 0, none⟩) n n] 32)
  have s5 : (w5.alloc (.cells #[.slice (some ⟨w.heap.size + 4, 0, none⟩) n n] 32)).heap.size = w.heap.size + 6 := by simp; omega
  generalize w5.alloc (.cells #[.slice (some ⟨w.heap.size + 4, 0, none⟩) n n] 32) = w6 at *
  have r6 := rowIs_at (World.rowIs_made w6 (.int .i64 0) n 3) s5
  have r0 := r0.alloc (.cells (madeCells #[.int .i64 0] n) 3)
  have r1 := r1.alloc (.cells (madeCells #[.int .i64 0] n) 3)
  have r2 := r2.alloc (.cells (madeCells #[.int .i64 0] n) 3)
  have r3 := r3.alloc (.cells (madeCells #[.int .i64 0] n) 3)
  have r4 := r4.alloc (.cells (madeCells #[.int .i64 0] n) 3)
  have r5 := r5.alloc (.cells (madeCells #[.int .i64 0] n) 3)
  have b6 := bel_alloc b5 (.cells (madeCells #[.int .i64 0] n) 3)
  have s6 : (w6.alloc (.cells (madeCells #[.int .i64 0] n) 3)).heap.size = w.heap.size + 7 := by simp; omega
  generalize w6.alloc (.cells (madeCells #[.int .i64 0] n) 3) = w7 at *
  have r7 := rowIs_at (rowIs_one w7 (.slice none 0 0) 22) s6
  have r0 := r0.alloc (.cells #[.slice none 0 0] 22)
  have r1 := r1.alloc (.cells #[.slice none 0 0] 22)
  have r2 := r2.alloc (.cells #[.slice none 0 0] 22)
  have r3 := r3.alloc (.cells #[.slice none 0 0] 22)
  have r4 := r4.alloc (.cells #[.slice none 0 0] 22)
  have r5 := r5.alloc (.cells #[.slice none 0 0] 22)
  have r6 := r6.alloc (.cells #[.slice none 0 0] 22)
  have b7 := bel_alloc b6 (.cells #[.slice none 0 0] 22)
  have s7 : (w7.alloc (.cells #[.slice none 0 0] 22)).heap.size = w.heap.size + 8 := by simp; omega
  generalize w7.alloc (.cells #[.slice none 0 0] 22) = w8 at *
  have r8 := rowIs_at (rowIs_one w8 (.int .i64 0) 3) s7
  have r0 := r0.alloc (.cells #[.int .i64 0] 3)
  have r1 := r1.alloc (.cells #[.int .i64 0] 3)
  have r2 := r2.alloc (.cells #[.int .i64 0] 3)
  have r3 := r3.alloc (.cells #[.int .i64 0] 3)
  have r4 := r4.alloc (.cells #[.int .i64 0] 3)
  have r5 := r5.alloc (.cells #[.int .i64 0] 3)
  have r6 := r6.alloc (.cells #[.int .i64 0] 3)
  have r7 := r7.alloc (.cells #[.int .i64 0] 3)
  have b8 := bel_alloc b7 (.cells #[.int .i64 0] 3)
  have s8 : (w8.alloc (.cells #[.int .i64 0] 3)).heap.size = w.heap.size + 9 := by simp; omega
  generalize w8.alloc (.cells #[.int .i64 0] 3) = w9 at *
  exact ⟨⟨r0, r1, r2, r3, r4, r5, r6, r7, r8, .inl ⟨rfl, rfl, rfl⟩, .inl ⟨rfl, rfl, rfl⟩, .inl ⟨rfl, rfl, rfl⟩, (fun _ h => nomatch h), (fun _ h => nomatch h), (fun _ h => nomatch h), (fun _ _ h => nomatch h), (fun _ _ h => nomatch h), (fun _ _ h => nomatch h)⟩, b8⟩

set_option maxHeartbeats 8000000 in
set_option maxRecDepth 100000 in
theorem components_any (gb go : Nat) (ta oa : Option Addr) (n tc oc : Nat) (G : Gr) (w : World) (hn : n ≤ 4096) (hsum : sumTo n G.ol ≤ 131072) (hG : G.In n)
    (h0 : w.cell? ⟨gb, go, none⟩ = some (.slice ta n tc)) (h1 : w.cell? ⟨gb, go + 1, none⟩ = some (.slice oa n oc)) (hR : Rows w oa n G.ol (fun v j => (G.of v j : Int))) :
    Calls Try.prog 27 #[.pointer (some ⟨gb, go, none⟩)] w fun e w' => ∃ (comp size : Nat → Nat) (nc : Nat) (za : Option Addr) (zc : Nat), e = .returned (.tuple #[.slice (some ⟨w.heap.size + 6, 0, none⟩) n n, .slice za nc zc]) ∧
      Below w.heap.size w w' ∧ NRow w' (w.heap.size + 6) n (fun v => (comp v : Int)) ∧ Ints w' za nc (fun v => (size v : Int)) ∧ Scc G n comp size nc := by
  have hmf : ∀ (fn : Fn) (first cap : Array Value) (w : World), (Instr.makeFunc fn first cap).run Try.prog w = .ok (.func fn first cap) w := fun _ _ _ _ => rfl
  have hmk := fun w => run_make_row' (P := Try.prog) 22 3 (.int .i64 0) 8 Try.underlying22 Try.info3 rfl .i64 .i64 n (by omega) (by omega) w
  have hmb := fun w => run_make_row' (P := Try.prog) 32 4 (.bool false) 1 Try.underlying32 Try.info4 rfl .i64 .i64 n (by omega) (by omega) w
  have HR : Hid (Rows w oa n G.ol (fun v j => (G.of v j : Int))) := hR
  have HG : Hid (G.In n) := hG
  have lg : gb < w.heap.size := World.block_lt_of_cell? w ⟨gb, go, none⟩ h0
  clear hR hG
  go_enter Try.func27, Try.ntmps27
  go_wp2
  clear hmk hmb
  simp only [Nat.add_assoc, Nat.reduceAdd]
  obtain ⟨hm9, hb9⟩ := m27_init w n
  generalize (((((((((w.alloc (.cells (madeCells #[.int .i64 0] n) 3)).alloc (.cells #[.slice (some ⟨w.heap.size, 0, none⟩) n n] 22)).alloc (.cells (madeCells #[.int .i64 0] n) 3)).alloc (.cells #[.slice (some ⟨w.heap.size + 2, 0, none⟩) n n] 22)).alloc
    (.cells (madeCells #[.bool false] n) 4)).alloc (.cells #[.slice (some ⟨w.heap.size + 4, 0, none⟩) n n] 32)).alloc (.cells (madeCells #[.int .i64 0] n) 3)).alloc (.cells #[.slice none 0 0] 22)).alloc (.cells #[.int .i64 0] 3)) = w9 at *
  have HM9 : Hid (M27 w9 w.heap.size n TS.init none 0 none 0 none 0) := hm9
  have HB9 : Hid (Below w.heap.size w w9) := hb9
  clear hm9 hb9
  obtain ⟨B, hB⟩ : ∃ B, B = w.heap.size := ⟨_, rfl⟩
  rw [← hB] at HM9 HB9 lg ⊢
  have HBB : Hid (B = w.heap.size) := hB
  clear hB
  go_loopg [34, 3] n (fun g i z wr => ∃ (k : Nat) (S : TS) (sa : Option Addr) (sc : Nat) (za : Option Addr) (zc : Nat) (wa : Option Addr) (wc : Nat), k + g = n ∧ i = .int .i64 k ∧ z = .slice za S.nc zc ∧ S.Ok G n ∧ S.h = 0 ∧ (∀ v, v < k → S.idx v ≠ 0) ∧ M27 wr B n S sa sc za zc wa wc ∧ Below B w wr)
  case atStart => exact ⟨0, TS.init, none, 0, none, 0, none, 0, by omega, rfl, rfl, TS.ok_init G n, rfl, fun v h => by omega, HM9.out, HB9.out⟩
  case round =>
    clear HM9 HB9
    obtain ⟨k, S, sa, sc, za, zc, wa, wc, hk, rfl, rfl, hok, hh, hall, hm, hb⟩ := hrel
    have HOK : Hid (S.Ok G n) := hok
    have HH0 : Hid (S.h = 0) := hh
    have HALL : Hid (∀ v, v < k → S.idx v ≠ 0) := hall
    have HM : Hid (M27 wr B n S sa sc za zc wa wc) := hm
    have HB : Hid (Below B w wr) := hb
    by_cases hlt : k < n
    · have hlt' : (k : Int) < (n : Int) := by omega
      have c1 := hm.bi.cell (i := 0) (by omega)
      have c2 := hm.ix.cell (i := k) hlt
      by_cases hi : S.idx k = 0
      · have t1 : (((S.idx k : Nat) : Int) != 0) = false := by simp [hi]
        have hvl := hok.vis_le
        have hnk := hok.nck
        have HI0 : Hid (S.idx k = 0) := hi
        clear hok hh hall hm hb hi
        go_wp2_with fail
        refine (visit_any wr B n S sa sc za zc wa wc k HM.out hlt (by omega) (by omega)).mono ?_
        rintro e w2 ⟨rfl, sa', sc', hm2, hb2⟩
        have HM3 : Hid (M27 (w2.alloc (.cells #[.int .i64 (k : Int), .int .i64 0] 53)) B n (S.visit k) sa' sc' za zc (some ⟨w2.heap.size, 0, none⟩) 1) := hm2.newWalk HH0.out k
        have HB3 : Hid (Below B w (w2.alloc (.cells #[.int .i64 (k : Int), .int .i64 0] 53))) := (HB.out.trans hb2).alloc (by have := hm2.ix.lt; omega) _
        have HOK3 : Hid ((S.visit k).Ok G n) := HOK.out.visit hlt HI0.out (fun h => by have := HH0.out; omega)
        have HALL3 : Hid (∀ v, v < k + 1 → (S.visit k).idx v ≠ 0) := fun v hv => by
          simp only [TS.visit]
          split
          · omega
          · exact HALL.out v (by omega)
        have hh3 : (S.visit k).h = 1 := by show S.h + 1 = 1; rw [HH0.out]
        have hn3 : (S.visit k).nc = S.nc := rfl
        clear hm2 hb2 c1 c2 t1 HM HB HOK HALL HH0 HI0
        go_wp2
        generalize w2.alloc (.cells #[.int .i64 (k : Int), .int .i64 0] 53) = w3 at *
        rw [← hn3]
        generalize S.visit k = S3 at *
        have HH3 : Hid (S3.h = 1) := hh3
        clear hh3 hn3
        go_loopg [12, 3] (S3.left G n + 1) (fun g wl z wr => ∃ (S : TS) (sa : Option Addr) (sc : Nat) (za : Option Addr) (zc : Nat) (wa : Option Addr) (wc : Nat), S.left G n < g ∧ wl = .slice wa S.h wc ∧ z = .slice za S.nc zc ∧ S.Ok G n ∧ (∀ v, v < k + 1 → S.idx v ≠ 0) ∧ M27 wr B n S sa sc za zc wa wc ∧ Below B w wr)
        case atStart => exact ⟨S3, sa', sc', za, zc, _, _, by omega, by rw [HH3.out], rfl, HOK3.out, HALL3.out, HM3.out, HB3.out⟩
        case round =>
          as_aux_lemma =>
            clear HM3 HB3 HOK3 HALL3 HH3
            obtain ⟨S, sa, sc, za, zc, wa, wc, hlf, rfl, rfl, hok, hall, hm, hb⟩ := hrel
            have HOK : Hid (S.Ok G n) := hok
            have HALL : Hid (∀ v, v < k + 1 → S.idx v ≠ 0) := hall
            have HM : Hid (M27 wr B n S sa sc za zc wa wc) := hm
            have HB : Hid (Below B w wr) := hb
            have hvl := hok.vis_le
            have hhl := hok.h_le
            have hnk := hok.nck
            by_cases hh : 0 < S.h
            · obtain ⟨wb, wo, rfl, hwc⟩ := Sl.tag hm.wk hh
              obtain ⟨m, hmh⟩ : ∃ m, S.h = m + 1 := ⟨S.h - 1, by omega⟩
              obtain ⟨v, hv⟩ : ∃ v, v = S.g m := ⟨_, rfl⟩
              obtain ⟨x, hx⟩ : ∃ x, x = S.nx m := ⟨_, rfl⟩
              have hvon : S.onS v = true := by rw [hv]; exact hok.inv.gon m (by omega)
              have hvn : v < n := hok.inv.ilt v (hok.inv.pos v hvon)
              have hvn' : (v : Int) < (n : Int) := by omega
              have hxle : x ≤ G.ol v := by rw [hx, hv]; exact hok.inv.nxle m (by omega)
              have hmn : m ≤ 4096 := by omega
              have d1 : wr.cell? ⟨wb, wo + m * 2, none⟩ = some (.int .i64 (v : Int)) := by
                have := Sl.cell hm.wk (i := m * 2) (by omega)
                rw [this, hv]; simp [fr]
              have d2 : wr.cell? ⟨wb, wo + m * 2 + 1, none⟩ = some (.int .i64 (x : Int)) := by
                have := Sl.cell hm.wk (i := m * 2 + 1) (by omega)
                rw [show wo + m * 2 + 1 = wo + (m * 2 + 1) from rfl, this, hx]; simp [fr, show (m * 2 + 1) / 2 = m by omega]
              have d3 : wr.cell? ⟨gb, go + 1, none⟩ = some (.slice oa n oc) := (hb.cell (p := ⟨gb, go + 1, none⟩) lg).trans h1
              rcases HR.out with h | ⟨ob, oo, ra, rc, e, hc⟩
              · omega
              subst e
              obtain ⟨k1, k2, _⟩ := hc v hvn
              have lb : ob < w.heap.size := World.block_lt_of_cell? w ⟨ob, oo + v, none⟩ k1
              have d4 := (hb.cell (p := ⟨ob, oo + v, none⟩) (by rw [HBB.out]; exact lb)).trans k1
              have HK2 : Hid (Ints w (ra v) (G.ol v) (fun j => (G.of v j : Int))) := k2
              have hokv : G.ol v ≤ 131072 := by
                have := sumTo_mono (f := G.ol) (k := v + 1) (n := n) (by omega)
                simp only [sumTo] at this; omega
              have HV : Hid (v = S.g m) := hv
              have HX : Hid (x = S.nx m) := hx
              have HMH : Hid (S.h = m + 1) := hmh
              rw [hmh]
              clear hok hall hm hb hv hx hmh hc k1 k2 hh
              by_cases hxl : x < G.ol v
              · have hxl' : decide ((x : Int) < (G.ol v : Int)) = true := decide_eq_true (by omega)
                rcases HK2.out with h | ⟨b2, o2, e2, hc2⟩
                · omega
                have lb2 : b2 < w.heap.size := World.block_lt_of_cell? w ⟨b2, o2 + x, none⟩ (hc2 x hxl)
                have d5 : wr.cell? ⟨b2, o2 + x, none⟩ = some (.int .i64 (G.of v x : Int)) := (HB.out.cell (p := ⟨b2, o2 + x, none⟩) (by rw [HBB.out]; exact lb2)).trans (hc2 x hxl)
                have hun := HG.out v (G.of v x) hvn ⟨x, hxl, rfl⟩
                obtain ⟨u, hu⟩ : ∃ u, u = G.of v x := ⟨_, rfl⟩
                rw [← hu] at d5 hun
                have hun' : (u : Int) < (n : Int) := by omega
                have HU : Hid (u = G.of v x) := hu
                have hxl2 : (x : Int) < (G.ol v : Int) := by omega
                rw [e2] at d4
                have fz : wr.frozen? ⟨wb, wo + m * 2 + 1, none⟩ = false := Sl.frozen HM.out.wk (m * 2 + 1)
                clear hu hc2
                go_wp2
                go_quiet (fail)
                generalize nq = q1 at *
                go_wp2
                go_quiet (fail)
                have HM6 : Hid (M27 ((wr.drewN q1).drewN nq) B n S sa sc za zc (some ⟨wb, wo, none⟩) wc) := (HM.out.drewN q1).drewN nq
                have HB6 : Hid (Below B w ((wr.drewN q1).drewN nq)) := (HB.out.trans (below_drewN _ _ _)).trans (below_drewN _ _ _)
                have d2' : ((wr.drewN q1).drewN nq).cell? ⟨wb, wo + m * 2 + 1, none⟩ = some (.int .i64 (x : Int)) := d2
                have fz' : ((wr.drewN q1).drewN nq).frozen? ⟨wb, wo + m * 2 + 1, none⟩ = false := fz
                generalize (wr.drewN q1).drewN nq = w6 at *
                clear d1 d2 d3 d4 d5 fz HM HB
                have HM7 : Hid (M27 (w6.setCell ⟨wb, wo + m * 2 + 1, none⟩ (.int .i64 ((x : Int) + 1))) B n (S.advAt m) sa sc za zc (some ⟨wb, wo, none⟩) wc) := by
                  have h := HM6.out.setNext rfl m
                  rw [← HX.out] at h
                  exact h
                have HB7 : Hid (Below B w (w6.setCell ⟨wb, wo + m * 2 + 1, none⟩ (.int .i64 ((x : Int) + 1)))) := HB6.out.setCell (by have := HM6.out.wn _ rfl; simp at this ⊢; omega) _
                go_upto_region 20 with fail
                generalize w6.setCell ⟨wb, wo + m * 2 + 1, none⟩ (.int .i64 ((x : Int) + 1)) = w7 at *
                clear d2' fz' HM6 HB6
                have e1 := HM7.out.bi.cell (i := 0) (by omega)
                have e3 : w7.cell? ⟨B, u, none⟩ = some (.int .i64 (S.idx u : Int)) := HM7.out.ix.cell (i := u) hun
                have hnt : S.nx (S.h - 1) < G.ol (S.g (S.h - 1)) := by rw [HMH.out, Nat.add_sub_cancel, ← HX.out, ← HV.out]; exact hxl
                have hut : G.of (S.g (S.h - 1)) (S.nx (S.h - 1)) = u := by rw [HMH.out, Nat.add_sub_cancel, ← HX.out, ← HV.out, HU.out]
                as_aux_lemma =>
                  have HNT : Hid (S.nx (S.h - 1) < G.ol (S.g (S.h - 1)) ∧ G.of (S.g (S.h - 1)) (S.nx (S.h - 1)) = u ∧ S.h - 1 = m ∧ 0 < S.h) := ⟨hnt, hut, by rw [HMH.out]; omega, by rw [HMH.out]; omega⟩
                  clear hnt hut
                  by_cases hi : S.idx u = 0
                  · have t1 : (((S.idx u : Nat) : Int) == 0) = true := by simp [hi]
                    have TREE : Hid (((S.visit u).advAt m).Ok G n ∧ ((S.visit u).advAt m).left G n < S.left G n) := by
                      obtain ⟨a1, a2, a3, a4⟩ := HNT.out
                      have := HOK.out.tree a4 a1 (by rw [a2]; exact hun) (by rw [a2]; exact hi)
                      rw [a2, a3] at this
                      exact this
                    have HALL' : Hid (∀ v, v < k + 1 → ((S.visit u).advAt m).idx v ≠ 0) := fun v hv => by
                      show (if v = u then S.vis + 1 else S.idx v) ≠ 0
                      split
                      · omega
                      · exact HALL.out v hv
                    clear hi
                    go_wp2_with fail
                    refine (visit_any w7 B n (S.advAt m) sa sc za zc _ wc u HM7.out hun (by show S.k ≤ 4096; omega) (by show S.vis ≤ 4096; omega)).mono ?_
                    rintro e w8 ⟨rfl, sa2, sc2, hm8, hb8⟩
                    have HM8 : Hid (M27 w8 B n ((S.advAt m).vis1 u) sa2 sc2 za zc (some ⟨wb, wo, none⟩) wc) := hm8
                    have HB8 : Hid (Below B w w8) := HB7.out.trans hb8
                    clear hm8 hb8 e1 e3 t1 HM7 HB7
                    go_wp2_with (at_builtin; refine wpList_append_one _ rfl (.tmp 103) (.tmp 106) 54 rfl 53 (.agg #[.int .i64 0, .int .i64 0]) 2 16 Try.underlying54 Try.info53 rfl (by decide) (some ⟨wb, wo, none⟩) (m + 1) wc (fr ((S.advAt m).vis1 u)) rfl ?_ ⟨w8.heap.size, 0, none⟩ 1 [.int .i64 (u : Int), .int .i64 0] rfl rfl ?_ ?_ ?_ (by decide) ?_)
                    case refine_1 =>
                      have h := HM8.out.wk
                      rw [show ((S.advAt m).vis1 u).h = m + 1 from HMH.out] at h
                      exact Sl.alloc h _
                    case refine_2 =>
                      intro j y hy
                      match j, hy with
                      | 0, hy => simp at hy; subst hy; simp [Addr.add_lit]
                      | 1, hy => simp at hy; subst hy; simp [Addr.add_lit]
                    case refine_3 =>
                      intro y hy
                      simp at hy
                      rcases hy with rfl | rfl <;> rfl
                    case refine_4 => omega
                    intro a' cap' w9 hS hg hn2
                    as_aux_lemma =>
                      have hm9 := HM8.out.alloc (.cells #[.int .i64 (u : Int), .int .i64 0] 53)
                      have hz : ((S.advAt m).vis1 u).h = m + 1 := HMH.out
                      have hm10 := hm9.pushWalk (v := u) (by
                        rw [hz]
                        refine hS _ (fun i hi => ?_) (fun j y hy => ?_)
                        · rw [if_neg (by omega), if_neg (by omega)]
                        · match j, hy with
                          | 0, hy => simp at hy; subst hy; simp
                          | 1, hy => simp at hy; subst hy; simp) hg (by simpa using hn2)
                      have HM10 : Hid (M27 w9 B n ((S.visit u).advAt m) sa2 sc2 za zc a' cap') := by
                        have e : ((S.advAt m).vis1 u).pushF u = (S.visit u).advAt m := by
                          obtain ⟨_, _, a3, a4⟩ := HNT.out
                          rw [TS.vis1_push, ← a3]
                          exact TS.adv_visit a4 u
                        rw [e] at hm10
                        exact hm10
                      have HB10 : Hid (Below B w w9) := by
                        have hbl := HB8.out.alloc (by have := HM8.out.ix.lt; omega) (.cells #[.int .i64 (u : Int), .int .i64 0] 53)
                        have hx := HM8.out.wn _ rfl
                        have hl := HM8.out.ix.lt
                        exact ⟨hg.os.trans hbl.os, hg.tape.trans hbl.tape, hg.output.trans hbl.output, Nat.le_trans hbl.size hg.size, fun q hq => (hg.block q (by simp; omega) (by simp [blk] at hx ⊢; omega)).trans (hbl.block q hq)⟩
                      clear hS hg hn2 hm9 hm10 hz
                      go_wp2
                      go_roundg (((S.visit u).advAt m).left G n + 1)
                      case measure => have := TREE.out.2; omega
                      case rel => exact ⟨(S.visit u).advAt m, sa2, sc2, za, zc, a', cap', by omega, by show _ = Value.slice _ (S.h + 1) _; rw [HMH.out], rfl, TREE.out.1, HALL'.out, HM10.out, HB10.out⟩
                  · have t1 : (((S.idx u : Nat) : Int) == 0) = false := by simp; exact hi
                    have e4 := HM7.out.bo.cell (i := 0) (by omega)
                    have e5 : w7.cell? ⟨B + 4, u, none⟩ = some (.bool (S.onS u)) := HM7.out.on.cell (i := u) hun
                    cases hon : S.onS u with
                    | true =>
                      as_aux_lemma =>
                        rw [hon] at e5
                        have LOWB : Hid (((S.lowAt v (S.idx u)).advAt m).Ok G n ∧ ((S.lowAt v (S.idx u)).advAt m).left G n < S.left G n) := by
                          obtain ⟨a1, a2, a3, a4⟩ := HNT.out
                          have := HOK.out.lowBack a4 a1 (by rw [a2]; exact hon)
                          rw [a2, a3, ← HV.out] at this
                          exact this
                        have e6 := HM7.out.bl.cell (i := 0) (by omega)
                        have e7 : w7.cell? ⟨B + 2, v, none⟩ = some (.int .i64 (S.low v : Int)) := HM7.out.lw.cell (i := v) hvn
                        have f7 := HM7.out.lw.frozen v
                        have e8 : w7.cell? ⟨wb, wo + m * 2, none⟩ = some (.int .i64 (v : Int)) := by
                          have := Sl.cell HM7.out.wk (i := m * 2) (by show m * 2 < S.h * 2; rw [HMH.out]; omega)
                          rw [this, HV.out]; simp [fr, TS.advAt]
                        obtain ⟨mn, hmn⟩ : ∃ mn, mn = min (S.low v) (S.idx u) := ⟨_, rfl⟩
                        have hmi : (if S.idx u < S.low v then ((S.idx u : Nat) : Int) else ((S.low v : Nat) : Int)) = (mn : Int) := by split <;> omega
                        have HM8 : Hid (M27 (w7.setCell ⟨B + 2, v, none⟩ (.int .i64 (mn : Int))).drew B n ((S.lowAt v (S.idx u)).advAt m) sa sc za zc (some ⟨wb, wo, none⟩) wc) := by
                          have h := (HM7.out.setLow v mn).drewN 1
                          rw [hmn] at h ⊢
                          exact h
                        have HB8 : Hid (Below B w (w7.setCell ⟨B + 2, v, none⟩ (.int .i64 (mn : Int))).drew) := (HB7.out.setCell (by simp) _).drew
                        clear hi hon hmn
                        go_wp2
                        go_region
                        try rw [hmi]
                        clear hmi e1 e3 e4 e5 e6 e7 e8 f7 t1 HM7 HB7
                        go_wp2
                        go_roundg (((S.lowAt v (S.idx u)).advAt m).left G n + 1)
                        case measure => have := LOWB.out.2; omega
                        case rel => exact ⟨(S.lowAt v (S.idx u)).advAt m, sa, sc, za, zc, _, wc, by omega, by show _ = Value.slice _ S.h _; rw [HMH.out], rfl, LOWB.out.1, HALL.out, HM8.out, HB8.out⟩
                    | false =>
                      as_aux_lemma =>
                        rw [hon] at e5
                        have SKIP : Hid ((S.advAt m).Ok G n ∧ (S.advAt m).left G n < S.left G n) := by
                          obtain ⟨a1, a2, a3, a4⟩ := HNT.out
                          have := HOK.out.skip a4 a1 (by rw [a2]; exact hi) (by rw [a2]; exact hon)
                          rw [a3] at this
                          exact this
                        clear hi hon
                        go_wp2
                        go_roundg ((S.advAt m).left G n + 1)
                        case measure => have := SKIP.out.2; omega
                        case rel => exact ⟨S.advAt m, sa, sc, za, zc, _, wc, by omega, by show _ = Value.slice _ S.h _; rw [HMH.out], rfl, SKIP.out.1, HALL.out, HM7.out, HB7.out⟩
              · have hxl' : decide ((x : Int) < (G.ol v : Int)) = false := decide_eq_false (by omega)
                as_aux_lemma =>
                  have hxo : x = G.ol v := by omega
                  have hnt : S.nx (S.h - 1) = G.ol (S.g (S.h - 1)) := by rw [HMH.out, Nat.add_sub_cancel, ← HX.out, ← HV.out]; exact hxo
                  have HNT : Hid (S.nx (S.h - 1) = G.ol (S.g (S.h - 1)) ∧ S.h - 1 = m ∧ 0 < S.h) := ⟨hnt, by rw [HMH.out]; omega, by rw [HMH.out]; omega⟩
                  have hmw : (m : Int) ≤ (wc : Int) := by have := HMH.out; omega
                  clear hnt hxo
                  go_wp2
                  go_quiet (fail)
                  have HM6 : Hid (M27 (wr.drewN nq) B n S sa sc za zc (some ⟨wb, wo, none⟩) wc) := HM.out.drewN nq
                  have HB6 : Hid (Below B w (wr.drewN nq)) := HB.out.trans (below_drewN _ _ _)
                  have d1' : (wr.drewN nq).cell? ⟨wb, wo + m * 2, none⟩ = some (.int .i64 (v : Int)) := d1
                  generalize wr.drewN nq = w6 at *
                  clear d1 d2 d3 d4 HM HB
                  go_upto_region 27 with fail
                  clear d1'
                  by_cases hm0 : m = 0
                  · subst hm0
                    have HM8 : Hid (M27 w6 B n S.lowPar.back sa sc za zc (some ⟨wb, wo, none⟩) wc) := by
                      rw [show S.lowPar = S from if_pos HMH.out]
                      exact HM6.out.back
                    have HB8 : Hid (Below B w w6) := HB6.out
                    clear HM6 HB6
                    obtain ⟨w8, hw8⟩ : ∃ w8, w8 = w6 := ⟨_, rfl⟩
                    rw [← hw8] at HM8 HB8 ⊢
                    clear hw8
                    as_aux_lemma =>
                      obtain ⟨T, hT⟩ : ∃ T, T = S.lowPar := ⟨_, rfl⟩
                      rw [← hT] at HM8
                      obtain ⟨l1, l2, l3, l4, l5, l6, l7, l8, l9, l10, l11⟩ := S.lowPar_fields
                      have ltop := HOK.out.lowPar_top HNT.out.2.2
                      rw [show S.g (S.h - 1) = v by rw [HNT.out.2.1]; exact HV.out.symm] at ltop
                      have HOKT : Hid (T.Ok G n) := by rw [hT]; exact HOK.out.lowPar HNT.out.2.2
                      have HTF : Hid (T = S.lowPar) := hT
                      have enc : S.nc = T.nc := by rw [hT]; exact l9.symm
                      rw [enc]
                      have HEQ : Hid (T.low v = S.low v ∧ T.idx = S.idx ∧ T.k = S.k ∧ T.s = S.s ∧ T.g = S.g ∧ T.h = S.h ∧ T.nc = S.nc ∧ T.onS = S.onS) := by
                        rw [hT]; exact ⟨ltop, l1, l6, l5, l2, l4, l9, l7⟩
                      have hTnc : T.nc ≤ 4096 := by omega
                      have hTk : T.k ≤ 4096 := by have := HEQ.out.2.2.1; omega
                      clear l1 l2 l3 l4 l5 l6 l7 l8 l9 l10 l11 ltop hT enc
                      have g1 := HM8.out.bl.cell (i := 0) (by omega)
                      have g2 : w8.cell? ⟨B + 2, v, none⟩ = some (.int .i64 (T.low v : Int)) := HM8.out.lw.cell (i := v) hvn
                      have g3 := HM8.out.bi.cell (i := 0) (by omega)
                      have g4 : w8.cell? ⟨B, v, none⟩ = some (.int .i64 (T.idx v : Int)) := HM8.out.ix.cell (i := v) hvn
                      go_wp2
                      by_cases hlow : T.low v = T.idx v
                      · have t1 : (((T.low v : Nat) : Int) == ((T.idx v : Nat) : Int)) = true := by simp [hlow]
                        have HLOW : Hid (T.low v = T.idx v) := hlow
                        clear hlow
                        go_quiet (fail)
                        have HM9 : Hid (M27 (w8.drewN nq) B n T.back sa sc za zc (some ⟨wb, wo, none⟩) wc) := HM8.out.drewN nq
                        have HB9 : Hid (Below B w (w8.drewN nq)) := HB8.out.trans (below_drewN _ _ _)
                        generalize w8.drewN nq = w9 at *
                        clear g1 g2 g3 g4 HM8 HB8
                        go_wp2_with (at_builtin; refine wpList_append_int _ rfl (.tmp 172) (.tmp 173) rfl za T.nc zc (fun j => (T.size j : Int)) 0 rfl ⟨w9.heap.size, 0, none⟩ 1 rfl ?_ ?_ ?_ ?_)
                        case refine_1 => exact Sl.alloc HM9.out.sz _
                        case refine_2 => simp [Addr.add_lit]
                        case refine_3 => omega
                        intro a' cap' w10 hS hg hn2
                        have hm10 := (HM9.out.alloc (.cells #[.int .i64 0] 3)).pushSize hS (fun i _ => rfl) hg (by simpa using hn2)
                        obtain ⟨zb, zo, rfl, hzc⟩ := Sl.tag hm10.sz (by show 0 < T.nc + 1; omega)
                        have HM10 : Hid (M27 w10 B n T.back.openC sa sc (some ⟨zb, zo, none⟩) cap' (some ⟨wb, wo, none⟩) wc) := hm10
                        have HB10 : Hid (Below B w w10) := by
                          have hbl := HB9.out.alloc (by have := HM9.out.ix.lt; omega) (.cells #[.int .i64 0] 3)
                          have hl := HM9.out.ix.lt
                          exact ⟨hg.os.trans hbl.os, hg.tape.trans hbl.tape, hg.output.trans hbl.output, Nat.le_trans hbl.size hg.size, fun q hq => (hg.block q (by simp; omega) (by
                            intro e
                            cases h : za with
                            | none => rw [h] at e; simp [blk] at e
                            | some x => rw [h] at e; simp [blk] at e; have := HM9.out.zn x h; omega)).trans (hbl.block q hq)⟩
                        have hTon : T.onS v = true := by rw [HEQ.out.2.2.2.2.2.2.2]; exact hvon
                        obtain ⟨p, hp, hsp⟩ := (HOKT.out.inv.ons v).1 hTon
                        have HSP : Hid (T.s p = v) := hsp
                        clear hS hg hn2 hm10 HM9 HB9 t1 hTon hsp
                        go_wp2
                        go_loopg [18] T.k (fun g _ wr => ∃ (S' : TS) (j : Nat), T.back.Popping S' j ∧ p < j ∧ j ≤ g ∧ M27 wr B n S' sa sc (some ⟨zb, zo, none⟩) cap' (some ⟨wb, wo, none⟩) wc ∧ Below B w wr)
                        case atStart => exact ⟨T.back.openC, T.k, TS.Popping.init T.back, hp, Nat.le_refl _, HM10.out, HB10.out⟩
                        case round =>
                          as_aux_lemma =>
                            clear HM10 HB10
                            obtain ⟨S', j, hpop, hpj, hjg, hm, hb⟩ := hrel
                            obtain ⟨j', rfl⟩ : ∃ j', j = j' + 1 := ⟨j - 1, by omega⟩
                            have hk' : S'.k = j' + 1 := hpop.k
                            have hjk : j' + 1 ≤ T.k := hpop.jk
                            obtain ⟨sb, so, rfl, hsc⟩ := Sl.tag hm.st (by rw [hk']; omega)
                            rw [hk'] at hsc
                            obtain ⟨y, hy⟩ : ∃ y, y = S'.s j' := ⟨_, rfl⟩
                            have hyT : y = T.s j' := by rw [hy, hpop.s]; rfl
                            have hyn : y < n := by
                              have h := HOKT.out.inv
                              exact h.ilt y (h.pos y ((h.ons y).2 ⟨j', by omega, hyT.symm⟩))
                            have hyn' : (y : Int) < (n : Int) := by omega
                            have q1 : wr.cell? ⟨B + 7, 0, none⟩ = some (.slice (some ⟨sb, so, none⟩) (j' + 1) sc) := by
                              have := hm.bs.cell (i := 0) (by omega)
                              rw [hk'] at this
                              exact this
                            have q2 : wr.cell? ⟨sb, so + j', none⟩ = some (.int .i64 (y : Int)) := by
                              have := Sl.cell hm.st (i := j') (by rw [hk']; omega)
                              rw [this, hy]
                            have f1 := hm.bs.frozen 0
                            have q3 := hm.bo.cell (i := 0) (by omega)
                            have q4 := hm.on.cell (i := y) hyn
                            have f4 := hm.on.frozen y
                            have q6 := hm.cm.cell (i := y) hyn
                            have f6 := hm.cm.frozen y
                            have hsc' : (j' : Int) ≤ (sc : Int) := by omega
                            have hm11 : M27 (((wr.setCell ⟨B + 7, 0, none⟩ (.slice (some ⟨sb, so, none⟩) j' sc)).setCell ⟨B + 4, y, none⟩ (.bool false)).setCell ⟨B + 6, y, none⟩ (.int .i64 (T.nc : Int))) B n _ (some ⟨sb, so, none⟩) sc (some ⟨zb, zo, none⟩) cap' (some ⟨wb, wo, none⟩) wc := ((hm.cutStack (m := j') (by omega)).setOn y false).setComp y T.nc
                            have HM11 : Hid (M27 _ B n _ (some ⟨sb, so, none⟩) sc (some ⟨zb, zo, none⟩) cap' (some ⟨wb, wo, none⟩) wc) := hm11
                            have HB11 : Hid (Below B w _) := ((hb.setCell (p := ⟨B + 7, 0, none⟩) (by simp) (.slice (some ⟨sb, so, none⟩) j' sc)).setCell (p := ⟨B + 4, y, none⟩) (by simp) (.bool false)).setCell (p := ⟨B + 6, y, none⟩) (by simp) (.int .i64 (T.nc : Int))
                            have HPOP : Hid (T.back.Popping S' (j' + 1)) := hpop
                            have HY : Hid (y = S'.s j' ∧ y = T.s j' ∧ S'.k = j' + 1) := ⟨hy, hyT, hk'⟩
                            clear hm hb hpop hm11 hy hyT hk'
                            go_upto_region 37 with fail
                            generalize ((wr.setCell ⟨B + 7, 0, none⟩ (.slice (some ⟨sb, so, none⟩) j' sc)).setCell ⟨B + 4, y, none⟩ (.bool false)).setCell ⟨B + 6, y, none⟩ (.int .i64 (T.nc : Int)) = w11 at *
                            clear q1 q2 q3 q4 q6 f1 f4 f6
                            have hnc' : S'.nc = T.nc + 1 := HPOP.out.nc
                            have q7 : w11.cell? ⟨zb, zo + T.nc, none⟩ = some (.int .i64 (S'.size T.nc : Int)) := Sl.cell HM11.out.sz (i := T.nc) (by show T.nc < S'.nc * 1; rw [hnc']; omega)
                            have f7 : w11.frozen? ⟨zb, zo + T.nc, none⟩ = false := Sl.frozen HM11.out.sz T.nc
                            have hszb : S'.size T.nc ≤ 4096 := by have h : S'.size T.nc = T.k - (j' + 1) := HPOP.out.sin; omega
                            have HM12 : Hid (M27 (w11.setCell ⟨zb, zo + T.nc, none⟩ (.int .i64 ((S'.size T.nc : Int) + 1))) B n (S'.pop1 T.nc) (some ⟨sb, so, none⟩) sc (some ⟨zb, zo, none⟩) cap' (some ⟨wb, wo, none⟩) wc) := by
                              have h := HM11.out.setSize rfl T.nc (S'.size T.nc + 1)
                              obtain ⟨y1, y2, y3⟩ := HY.out
                              have e : S'.pop1 T.nc = { S' with k := j', onS := fun x => if x = y then false else S'.onS x, comp := fun x => if x = y then T.nc else S'.comp x, size := fun z => if z = T.nc then S'.size T.nc + 1 else S'.size z } := by
                                simp only [TS.pop1, y3, Nat.add_sub_cancel, ← y1]
                              rw [e]
                              exact h
                            have HB12 : Hid (Below B w (w11.setCell ⟨zb, zo + T.nc, none⟩ (.int .i64 ((S'.size T.nc : Int) + 1)))) := HB11.out.setCell (by have := HM11.out.zn _ rfl; simp at this ⊢; omega) _
                            have POP1 : Hid (T.back.Popping (S'.pop1 T.nc) j') := HPOP.out.step (by omega)
                            have hncz : (T.nc : Int) < ((T.nc + 1 : Nat) : Int) := by omega
                            clear HM11 HB11
                            by_cases hyv : y = v
                            · have t2 : ((y : Int) == (v : Int)) = true := by simp [hyv]
                              have DONE : Hid ((S'.pop1 T.nc).Ok G n ∧ (S'.pop1 T.nc).left G n < S.left G n) := by
                                obtain ⟨y1, y2, y3⟩ := HY.out
                                obtain ⟨z1, z2, z3, z4, z5, z6, z7, z8⟩ := HEQ.out
                                obtain ⟨a1, a2, a3⟩ := HNT.out
                                have egv : S.g (S.h - 1) = v := by rw [a2]; exact HV.out.symm
                                have ejp : j' = p := HOKT.out.inv.sinj (by omega) hp (by rw [← y2, hyv, HSP.out])
                                have P1 := POP1.out
                                rw [ejp] at P1
                                have hTg : T.s p = T.g (T.h - 1) := by rw [HSP.out, z5, z6, egv]
                                have P2 := P1.fin HOKT.out.inv hp hTg
                                rw [HTF.out] at P2
                                have hl : S.low (S.g (S.h - 1)) = S.idx (S.g (S.h - 1)) := by rw [egv, ← z1, HLOW.out, z2]
                                have hpS : p < S.k := by rw [← z3]; exact hp
                                have hsS : S.s p = S.g (S.h - 1) := by rw [egv, ← z4]; exact HSP.out
                                have := HOK.out.pop a3 a1 hl hpS hsS P2
                                rw [← HTF.out] at this
                                exact this
                              have HALL' : Hid (∀ v, v < k + 1 → (S'.pop1 T.nc).idx v ≠ 0) := fun z hz => by
                                have : (S'.pop1 T.nc).idx = S.idx := POP1.out.idx.trans HEQ.out.2.1
                                rw [this]; exact HALL.out z hz
                              have hH : (S'.pop1 T.nc).h = 0 := by
                                have h1 : (S'.pop1 T.nc).h = T.h - 1 := POP1.out.h
                                have h2 := HEQ.out.2.2.2.2.2.1
                                have h3 := HMH.out
                                omega
                              have hN : (S'.pop1 T.nc).nc = T.nc + 1 := POP1.out.nc
                              have HHN : Hid ((S'.pop1 T.nc).h = 0 ∧ (S'.pop1 T.nc).nc = T.nc + 1) := ⟨hH, hN⟩
                              clear hyv hH hN hnc'
                              go_wp2
                              go_roundg ((S'.pop1 T.nc).left G n + 1)
                              case measure => have := DONE.out.2; omega
                              case rel => exact ⟨S'.pop1 T.nc, _, sc, _, cap', _, wc, by omega, by rw [HHN.out.1], by rw [HHN.out.2], DONE.out.1, HALL'.out, HM12.out, HB12.out⟩
                            · have t2 : ((y : Int) == (v : Int)) = false := by simp; omega
                              have hpj' : p < j' := by
                                by_cases e : p = j'
                                · exfalso
                                  apply hyv
                                  rw [HY.out.2.1, ← e, HSP.out]
                                · omega
                              clear hyv hnc'
                              go_wp2
                              go_roundg j'
                              case measure => omega
                              case rel => exact ⟨S'.pop1 T.nc, j', POP1.out, hpj', Nat.le_refl _, HM12.out, HB12.out⟩
                      · have t1 : (((T.low v : Nat) : Int) == ((T.idx v : Nat) : Int)) = false := by simp; omega
                        have KEEP : Hid (T.back.Ok G n ∧ T.back.left G n < S.left G n) := by
                          obtain ⟨z1, z2, z3, z4, z5, z6, z7, z8⟩ := HEQ.out
                          obtain ⟨a1, a2, a3⟩ := HNT.out
                          have egv : S.g (S.h - 1) = v := by rw [a2]; exact HV.out.symm
                          have := HOK.out.keep a3 a1 (by rw [egv, ← z1, ← z2]; exact hlow)
                          rw [HTF.out]; exact this
                        have HALL' : Hid (∀ v, v < k + 1 → T.back.idx v ≠ 0) := fun z hz => by
                          have : T.back.idx = S.idx := HEQ.out.2.1
                          rw [this]; exact HALL.out z hz
                        have HHN : Hid (T.back.h = 0) := by
                          have h1 : T.back.h = T.h - 1 := rfl
                          have h2 := HEQ.out.2.2.2.2.2.1
                          have h3 := HMH.out
                          show T.back.h = 0
                          omega
                        as_aux_lemma =>
                          clear hlow
                          go_quiet (fail)
                          have HM9 : Hid (M27 (w8.drewN nq) B n T.back sa sc za zc (some ⟨wb, wo, none⟩) wc) := HM8.out.drewN nq
                          have HB9 : Hid (Below B w (w8.drewN nq)) := HB8.out.trans (below_drewN _ _ _)
                          generalize w8.drewN nq = w9 at *
                          clear g1 g2 g3 g4 HM8 HB8
                          go_wp2
                          go_roundg (T.back.left G n + 1)
                          case measure => have := KEEP.out.2; omega
                          case rel => exact ⟨T.back, sa, sc, za, zc, _, wc, by omega, by rw [HHN.out], rfl, KEEP.out.1, HALL'.out, HM9.out, HB9.out⟩
                  · obtain ⟨m', rfl⟩ : ∃ m', m = m' + 1 := ⟨m - 1, by omega⟩
                    obtain ⟨u, hu⟩ : ∃ u, u = S.g m' := ⟨_, rfl⟩
                    have hun : u < n := by
                      have h := HOK.out.inv
                      rw [hu]
                      exact h.ilt _ (h.pos _ (h.gon m' (by rw [HMH.out]; omega)))
                    have hun' : (u : Int) < (n : Int) := by omega
                    have e0 : w6.cell? ⟨wb, wo + m' * 2, none⟩ = some (.int .i64 (u : Int)) := by
                      have := Sl.cell HM6.out.wk (i := m' * 2) (by rw [HMH.out]; omega)
                      rw [this, hu]; simp [fr]
                    have e6 := HM6.out.bl.cell (i := 0) (by omega)
                    have e7 : w6.cell? ⟨B + 2, v, none⟩ = some (.int .i64 (S.low v : Int)) := HM6.out.lw.cell (i := v) hvn
                    have e8 : w6.cell? ⟨B + 2, u, none⟩ = some (.int .i64 (S.low u : Int)) := HM6.out.lw.cell (i := u) hun
                    have f7 := HM6.out.lw.frozen u
                    obtain ⟨mn, hmn⟩ : ∃ mn, mn = min (S.low u) (S.low v) := ⟨_, rfl⟩
                    have hmi : (if S.low v < S.low u then ((S.low v : Nat) : Int) else ((S.low u : Nat) : Int)) = (mn : Int) := by split <;> omega
                    have HM8 : Hid (M27 (w6.setCell ⟨B + 2, u, none⟩ (.int .i64 (mn : Int))).drew B n S.lowPar.back sa sc za zc (some ⟨wb, wo, none⟩) wc) := by
                      have h := ((HM6.out.setLow u mn).drewN 1).back
                      rw [show S.lowPar = S.lowAt u (S.low v) by
                        rw [TS.lowPar, if_neg (by rw [HMH.out]; omega), HMH.out, show m' + 1 + 1 - 2 = m' by omega, show m' + 1 + 1 - 1 = m' + 1 by omega, ← hu, ← HV.out]]
                      rw [hmn] at h ⊢
                      exact h
                    have HB8 : Hid (Below B w (w6.setCell ⟨B + 2, u, none⟩ (.int .i64 (mn : Int))).drew) := (HB6.out.setCell (by simp) _).drew
                    clear hmn hu hm0 HM6 HB6
                    go_wp2
                    go_region
                    try rw [hmi]
                    generalize (w6.setCell ⟨B + 2, u, none⟩ (.int .i64 (mn : Int))).drew = w8 at *
                    clear e0 e6 e7 e8 f7 hmi
                    as_aux_lemma =>
                      obtain ⟨T, hT⟩ : ∃ T, T = S.lowPar := ⟨_, rfl⟩
                      rw [← hT] at HM8
                      obtain ⟨l1, l2, l3, l4, l5, l6, l7, l8, l9, l10, l11⟩ := S.lowPar_fields
                      have ltop := HOK.out.lowPar_top HNT.out.2.2
                      rw [show S.g (S.h - 1) = v by rw [HNT.out.2.1]; exact HV.out.symm] at ltop
                      have HOKT : Hid (T.Ok G n) := by rw [hT]; exact HOK.out.lowPar HNT.out.2.2
                      have HTF : Hid (T = S.lowPar) := hT
                      have enc : S.nc = T.nc := by rw [hT]; exact l9.symm
                      rw [enc]
                      have HEQ : Hid (T.low v = S.low v ∧ T.idx = S.idx ∧ T.k = S.k ∧ T.s = S.s ∧ T.g = S.g ∧ T.h = S.h ∧ T.nc = S.nc ∧ T.onS = S.onS) := by
                        rw [hT]; exact ⟨ltop, l1, l6, l5, l2, l4, l9, l7⟩
                      have hTnc : T.nc ≤ 4096 := by omega
                      have hTk : T.k ≤ 4096 := by have := HEQ.out.2.2.1; omega
                      clear l1 l2 l3 l4 l5 l6 l7 l8 l9 l10 l11 ltop hT enc
                      have g1 := HM8.out.bl.cell (i := 0) (by omega)
                      have g2 : w8.cell? ⟨B + 2, v, none⟩ = some (.int .i64 (T.low v : Int)) := HM8.out.lw.cell (i := v) hvn
                      have g3 := HM8.out.bi.cell (i := 0) (by omega)
                      have g4 : w8.cell? ⟨B, v, none⟩ = some (.int .i64 (T.idx v : Int)) := HM8.out.ix.cell (i := v) hvn
                      go_wp2
                      by_cases hlow : T.low v = T.idx v
                      · have t1 : (((T.low v : Nat) : Int) == ((T.idx v : Nat) : Int)) = true := by simp [hlow]
                        have HLOW : Hid (T.low v = T.idx v) := hlow
                        clear hlow
                        go_quiet (fail)
                        have HM9 : Hid (M27 (w8.drewN nq) B n T.back sa sc za zc (some ⟨wb, wo, none⟩) wc) := HM8.out.drewN nq
                        have HB9 : Hid (Below B w (w8.drewN nq)) := HB8.out.trans (below_drewN _ _ _)
                        generalize w8.drewN nq = w9 at *
                        clear g1 g2 g3 g4 HM8 HB8
                        go_wp2_with (at_builtin; refine wpList_append_int _ rfl (.tmp 172) (.tmp 173) rfl za T.nc zc (fun j => (T.size j : Int)) 0 rfl ⟨w9.heap.size, 0, none⟩ 1 rfl ?_ ?_ ?_ ?_)
                        case refine_1 => exact Sl.alloc HM9.out.sz _
                        case refine_2 => simp [Addr.add_lit]
                        case refine_3 => omega
                        intro a' cap' w10 hS hg hn2
                        have hm10 := (HM9.out.alloc (.cells #[.int .i64 0] 3)).pushSize hS (fun i _ => rfl) hg (by simpa using hn2)
                        obtain ⟨zb, zo, rfl, hzc⟩ := Sl.tag hm10.sz (by show 0 < T.nc + 1; omega)
                        have HM10 : Hid (M27 w10 B n T.back.openC sa sc (some ⟨zb, zo, none⟩) cap' (some ⟨wb, wo, none⟩) wc) := hm10
                        have HB10 : Hid (Below B w w10) := by
                          have hbl := HB9.out.alloc (by have := HM9.out.ix.lt; omega) (.cells #[.int .i64 0] 3)
                          have hl := HM9.out.ix.lt
                          exact ⟨hg.os.trans hbl.os, hg.tape.trans hbl.tape, hg.output.trans hbl.output, Nat.le_trans hbl.size hg.size, fun q hq => (hg.block q (by simp; omega) (by
                            intro e
                            cases h : za with
                            | none => rw [h] at e; simp [blk] at e
                            | some x => rw [h] at e; simp [blk] at e; have := HM9.out.zn x h; omega)).trans (hbl.block q hq)⟩
                        have hTon : T.onS v = true := by rw [HEQ.out.2.2.2.2.2.2.2]; exact hvon
                        obtain ⟨p, hp, hsp⟩ := (HOKT.out.inv.ons v).1 hTon
                        have HSP : Hid (T.s p = v) := hsp
                        clear hS hg hn2 hm10 HM9 HB9 t1 hTon hsp
                        go_wp2
                        go_loopg [18] T.k (fun g _ wr => ∃ (S' : TS) (j : Nat), T.back.Popping S' j ∧ p < j ∧ j ≤ g ∧ M27 wr B n S' sa sc (some ⟨zb, zo, none⟩) cap' (some ⟨wb, wo, none⟩) wc ∧ Below B w wr)
                        case atStart => exact ⟨T.back.openC, T.k, TS.Popping.init T.back, hp, Nat.le_refl _, HM10.out, HB10.out⟩
                        case round =>
                          as_aux_lemma =>
                            clear HM10 HB10
                            obtain ⟨S', j, hpop, hpj, hjg, hm, hb⟩ := hrel
                            obtain ⟨j', rfl⟩ : ∃ j', j = j' + 1 := ⟨j - 1, by omega⟩
                            have hk' : S'.k = j' + 1 := hpop.k
                            have hjk : j' + 1 ≤ T.k := hpop.jk
                            obtain ⟨sb, so, rfl, hsc⟩ := Sl.tag hm.st (by rw [hk']; omega)
                            rw [hk'] at hsc
                            obtain ⟨y, hy⟩ : ∃ y, y = S'.s j' := ⟨_, rfl⟩
                            have hyT : y = T.s j' := by rw [hy, hpop.s]; rfl
                            have hyn : y < n := by
                              have h := HOKT.out.inv
                              exact h.ilt y (h.pos y ((h.ons y).2 ⟨j', by omega, hyT.symm⟩))
                            have hyn' : (y : Int) < (n : Int) := by omega
                            have q1 : wr.cell? ⟨B + 7, 0, none⟩ = some (.slice (some ⟨sb, so, none⟩) (j' + 1) sc) := by
                              have := hm.bs.cell (i := 0) (by omega)
                              rw [hk'] at this
                              exact this
                            have q2 : wr.cell? ⟨sb, so + j', none⟩ = some (.int .i64 (y : Int)) := by
                              have := Sl.cell hm.st (i := j') (by rw [hk']; omega)
                              rw [this, hy]
                            have f1 := hm.bs.frozen 0
                            have q3 := hm.bo.cell (i := 0) (by omega)
                            have q4 := hm.on.cell (i := y) hyn
                            have f4 := hm.on.frozen y
                            have q6 := hm.cm.cell (i := y) hyn
                            have f6 := hm.cm.frozen y
                            have hsc' : (j' : Int) ≤ (sc : Int) := by omega
                            have hm11 : M27 (((wr.setCell ⟨B + 7, 0, none⟩ (.slice (some ⟨sb, so, none⟩) j' sc)).setCell ⟨B + 4, y, none⟩ (.bool false)).setCell ⟨B + 6, y, none⟩ (.int .i64 (T.nc : Int))) B n _ (some ⟨sb, so, none⟩) sc (some ⟨zb, zo, none⟩) cap' (some ⟨wb, wo, none⟩) wc := ((hm.cutStack (m := j') (by omega)).setOn y false).setComp y T.nc
                            have HM11 : Hid (M27 _ B n _ (some ⟨sb, so, none⟩) sc (some ⟨zb, zo, none⟩) cap' (some ⟨wb, wo, none⟩) wc) := hm11
                            have HB11 : Hid (Below B w _) := ((hb.setCell (p := ⟨B + 7, 0, none⟩) (by simp) (.slice (some ⟨sb, so, none⟩) j' sc)).setCell (p := ⟨B + 4, y, none⟩) (by simp) (.bool false)).setCell (p := ⟨B + 6, y, none⟩) (by simp) (.int .i64 (T.nc : Int))
                            have HPOP : Hid (T.back.Popping S' (j' + 1)) := hpop
                            have HY : Hid (y = S'.s j' ∧ y = T.s j' ∧ S'.k = j' + 1) := ⟨hy, hyT, hk'⟩
                            clear hm hb hpop hm11 hy hyT hk'
                            go_upto_region 37 with fail
                            generalize ((wr.setCell ⟨B + 7, 0, none⟩ (.slice (some ⟨sb, so, none⟩) j' sc)).setCell ⟨B + 4, y, none⟩ (.bool false)).setCell ⟨B + 6, y, none⟩ (.int .i64 (T.nc : Int)) = w11 at *
                            clear q1 q2 q3 q4 q6 f1 f4 f6
                            have hnc' : S'.nc = T.nc + 1 := HPOP.out.nc
                            have q7 : w11.cell? ⟨zb, zo + T.nc, none⟩ = some (.int .i64 (S'.size T.nc : Int)) := Sl.cell HM11.out.sz (i := T.nc) (by show T.nc < S'.nc * 1; rw [hnc']; omega)
                            have f7 : w11.frozen? ⟨zb, zo + T.nc, none⟩ = false := Sl.frozen HM11.out.sz T.nc
                            have hszb : S'.size T.nc ≤ 4096 := by have h : S'.size T.nc = T.k - (j' + 1) := HPOP.out.sin; omega
                            have HM12 : Hid (M27 (w11.setCell ⟨zb, zo + T.nc, none⟩ (.int .i64 ((S'.size T.nc : Int) + 1))) B n (S'.pop1 T.nc) (some ⟨sb, so, none⟩) sc (some ⟨zb, zo, none⟩) cap' (some ⟨wb, wo, none⟩) wc) := by
                              have h := HM11.out.setSize rfl T.nc (S'.size T.nc + 1)
                              obtain ⟨y1, y2, y3⟩ := HY.out
                              have e : S'.pop1 T.nc = { S' with k := j', onS := fun x => if x = y then false else S'.onS x, comp := fun x => if x = y then T.nc else S'.comp x, size := fun z => if z = T.nc then S'.size T.nc + 1 else S'.size z } := by
                                simp only [TS.pop1, y3, Nat.add_sub_cancel, ← y1]
                              rw [e]
                              exact h
                            have HB12 : Hid (Below B w (w11.setCell ⟨zb, zo + T.nc, none⟩ (.int .i64 ((S'.size T.nc : Int) + 1)))) := HB11.out.setCell (by have := HM11.out.zn _ rfl; simp at this ⊢; omega) _
                            have POP1 : Hid (T.back.Popping (S'.pop1 T.nc) j') := HPOP.out.step (by omega)
                            have hncz : (T.nc : Int) < ((T.nc + 1 : Nat) : Int) := by omega
                            clear HM11 HB11
                            by_cases hyv : y = v
                            · have t2 : ((y : Int) == (v : Int)) = true := by simp [hyv]
                              have DONE : Hid ((S'.pop1 T.nc).Ok G n ∧ (S'.pop1 T.nc).left G n < S.left G n) := by
                                obtain ⟨y1, y2, y3⟩ := HY.out
                                obtain ⟨z1, z2, z3, z4, z5, z6, z7, z8⟩ := HEQ.out
                                obtain ⟨a1, a2, a3⟩ := HNT.out
                                have egv : S.g (S.h - 1) = v := by rw [a2]; exact HV.out.symm
                                have ejp : j' = p := HOKT.out.inv.sinj (by omega) hp (by rw [← y2, hyv, HSP.out])
                                have P1 := POP1.out
                                rw [ejp] at P1
                                have hTg : T.s p = T.g (T.h - 1) := by rw [HSP.out, z5, z6, egv]
                                have P2 := P1.fin HOKT.out.inv hp hTg
                                rw [HTF.out] at P2
                                have hl : S.low (S.g (S.h - 1)) = S.idx (S.g (S.h - 1)) := by rw [egv, ← z1, HLOW.out, z2]
                                have hpS : p < S.k := by rw [← z3]; exact hp
                                have hsS : S.s p = S.g (S.h - 1) := by rw [egv, ← z4]; exact HSP.out
                                have := HOK.out.pop a3 a1 hl hpS hsS P2
                                rw [← HTF.out] at this
                                exact this
                              have HALL' : Hid (∀ v, v < k + 1 → (S'.pop1 T.nc).idx v ≠ 0) := fun z hz => by
                                have : (S'.pop1 T.nc).idx = S.idx := POP1.out.idx.trans HEQ.out.2.1
                                rw [this]; exact HALL.out z hz
                              have hH : (S'.pop1 T.nc).h = m' + 1 := by
                                have h1 : (S'.pop1 T.nc).h = T.h - 1 := POP1.out.h
                                have h2 := HEQ.out.2.2.2.2.2.1
                                have h3 := HMH.out
                                omega
                              have hN : (S'.pop1 T.nc).nc = T.nc + 1 := POP1.out.nc
                              have HHN : Hid ((S'.pop1 T.nc).h = m' + 1 ∧ (S'.pop1 T.nc).nc = T.nc + 1) := ⟨hH, hN⟩
                              clear hyv hH hN hnc'
                              go_wp2
                              go_roundg ((S'.pop1 T.nc).left G n + 1)
                              case measure => have := DONE.out.2; omega
                              case rel => exact ⟨S'.pop1 T.nc, _, sc, _, cap', _, wc, by omega, by rw [HHN.out.1], by rw [HHN.out.2], DONE.out.1, HALL'.out, HM12.out, HB12.out⟩
                            · have t2 : ((y : Int) == (v : Int)) = false := by simp; omega
                              have hpj' : p < j' := by
                                by_cases e : p = j'
                                · exfalso
                                  apply hyv
                                  rw [HY.out.2.1, ← e, HSP.out]
                                · omega
                              clear hyv hnc'
                              go_wp2
                              go_roundg j'
                              case measure => omega
                              case rel => exact ⟨S'.pop1 T.nc, j', POP1.out, hpj', Nat.le_refl _, HM12.out, HB12.out⟩
                      · have t1 : (((T.low v : Nat) : Int) == ((T.idx v : Nat) : Int)) = false := by simp; omega
                        have KEEP : Hid (T.back.Ok G n ∧ T.back.left G n < S.left G n) := by
                          obtain ⟨z1, z2, z3, z4, z5, z6, z7, z8⟩ := HEQ.out
                          obtain ⟨a1, a2, a3⟩ := HNT.out
                          have egv : S.g (S.h - 1) = v := by rw [a2]; exact HV.out.symm
                          have := HOK.out.keep a3 a1 (by rw [egv, ← z1, ← z2]; exact hlow)
                          rw [HTF.out]; exact this
                        have HALL' : Hid (∀ v, v < k + 1 → T.back.idx v ≠ 0) := fun z hz => by
                          have : T.back.idx = S.idx := HEQ.out.2.1
                          rw [this]; exact HALL.out z hz
                        have HHN : Hid (T.back.h = m' + 1) := by
                          have h1 : T.back.h = T.h - 1 := rfl
                          have h2 := HEQ.out.2.2.2.2.2.1
                          have h3 := HMH.out
                          show T.back.h = m' + 1
                          omega
                        as_aux_lemma =>
                          clear hlow
                          go_quiet (fail)
                          have HM9 : Hid (M27 (w8.drewN nq) B n T.back sa sc za zc (some ⟨wb, wo, none⟩) wc) := HM8.out.drewN nq
                          have HB9 : Hid (Below B w (w8.drewN nq)) := HB8.out.trans (below_drewN _ _ _)
                          generalize w8.drewN nq = w9 at *
                          clear g1 g2 g3 g4 HM8 HB8
                          go_wp2
                          go_roundg (T.back.left G n + 1)
                          case measure => have := KEEP.out.2; omega
                          case rel => exact ⟨T.back, sa, sc, za, zc, _, wc, by omega, by rw [HHN.out], rfl, KEEP.out.1, HALL'.out, HM9.out, HB9.out⟩
            · have hh' : S.h = 0 := by omega
              as_aux_lemma =>
                rw [hh']
                have HH' : Hid (S.h = 0) := hh'
                clear hok hall hm hb hh hh'
                go_wp2
                go_roundg (n - (k + 1))
                case measure => omega
                case rel => exact ⟨k + 1, S, sa, sc, za, zc, wa, wc, by omega, by go_num, rfl, HOK.out, HH'.out, HALL.out, HM.out, HB.out⟩
      · have t1 : (((S.idx k : Nat) : Int) != 0) = true := by simp; exact hi
        have HALL' : Hid (∀ v, v < k + 1 → S.idx v ≠ 0) := fun v hv => by
          by_cases e : v = k
          · rw [e]; exact hi
          · exact HALL.out v (by omega)
        clear hok hh hall hm hb hi
        as_aux_lemma =>
          go_wp2
          go_roundg (n - (k + 1))
          case measure => omega
          case rel => exact ⟨k + 1, S, sa, sc, za, zc, wa, wc, by omega, by go_num, rfl, HOK.out, HH0.out, HALL'.out, HM.out, HB.out⟩
    · have hlt' : decide ((k : Int) < (n : Int)) = false := decide_eq_false (by omega)
      as_aux_lemma =>
        have SCC : Hid (Scc G n S.comp S.size S.nc) := hok.scc hh (fun v hv => hall v (by omega))
        clear hok hh hall hm hb
        go_wp2
        have hBB := HBB.out
        subst hBB
        go_ret2
        exact ⟨S.comp, S.size, S.nc, za, zc, rfl, HB.out, HM.out.cm, HM.out.sz.ints, SCC.out⟩
end Go.Proofs.Qxb6605452a
