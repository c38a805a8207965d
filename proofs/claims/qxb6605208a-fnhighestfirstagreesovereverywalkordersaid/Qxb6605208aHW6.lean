import Derived.Test.Qxb6605208aHW5
import Derived.Test.Qxb6605208aHSort
namespace Go.Proofs.Qxb6605208a
open Go.RowKit
open HP (WOK IsH mx)

/-- After i entities of the walk. -/
def HInv (n : Nat) (H W : Nat → Nat) (i : Nat) (ht : Nat → Nat) : Prop := (∀ x, x < n → ht x ≤ H x) ∧ ∀ j, j < i → ht (W j) = H (W j)

theorem max_if_nat (a b : Nat) : (if (a : Int) < (b : Int) + 1 then (b : Int) + 1 else (a : Int)) = ((max a (b + 1) : Nat) : Int) := by
  split <;> omega

theorem max_if_nat2 (a b : Nat) : (if a < b then (b : Int) else (a : Int)) = ((max a b : Nat) : Int) := by
  split <;> omega

/-- One parent more. -/
theorem hinv_up {n : Nat} {cnt : Nat → Nat} {P : Nat → Nat → Nat} {H W ht : Nat → Nat} {i v c : Nat} (hH : IsH n cnt P H) (h : HInv n H W i ht) (hv : v < n) (hc : c < cnt v) (hp : ht (P v c) = H (P v c)) (hm : mx P H v c ≤ ht v) :
    HInv n H W i (fun x => if x = v then max (ht v) (ht (P v c) + 1) else ht x) ∧ mx P H v (c + 1) ≤ max (ht v) (ht (P v c) + 1) := by
  have h1 := hH.up hv hc
  have h2 := h.1 v hv
  refine ⟨⟨fun x hx => ?_, fun j hj => ?_⟩, ?_⟩
  · by_cases e : x = v
    · subst e; simp only [if_true]; omega
    · simp only [e, if_false]; exact h.1 x hx
  · have h3 := h.2 j hj
    by_cases e : W j = v
    · simp only [e, if_true]; rw [e] at h3; omega
    · simp only [e, if_false]; exact h3
  · simp only [mx]; omega

theorem hinv_next {n : Nat} {cnt : Nat → Nat} {P : Nat → Nat → Nat} {H W ht : Nat → Nat} {i : Nat} (hH : IsH n cnt P H) (h : HInv n H W i ht) (hv : W i < n) (hm : mx P H (W i) (cnt (W i)) ≤ ht (W i)) : HInv n H W (i + 1) ht := by
  refine ⟨h.1, fun j hj => ?_⟩
  by_cases e : j = i
  · subst e
    have h1 := h.1 _ hv
    have h2 := hH _ hv
    omega
  · exact h.2 j (by omega)

theorem cnt_row (dep : Nat → Nat) (k x y : Nat) (e : dep k = y) : (if x = y + 1 then Value.int .i64 ((HS.cnt dep k y : Int) + 1) else Value.int .i64 ((if x = 0 then 0 else HS.cnt dep k (x - 1) : Nat) : Int)) = Value.int .i64 ((if x = 0 then 0 else HS.cnt dep (k + 1) (x - 1) : Nat) : Int) := by
  by_cases h : x = y + 1
  · subst h
    simp [HS.cnt, e]
  · rw [if_neg h]
    by_cases h0 : x = 0
    · simp [h0]
    · simp [h0, HS.cnt, e, show ¬ y = x - 1 by omega]

theorem base_row (dep : Nat → Nat) (m d x : Nat) : (if x = d + 1 then Value.int .i64 ((HS.cnt dep m d : Int) + (HS.base dep m d : Int)) else Value.int .i64 ((if x < d + 1 then HS.base dep m x else HS.cnt dep m (x - 1) : Nat) : Int)) = Value.int .i64 ((if x < d + 1 + 1 then HS.base dep m x else HS.cnt dep m (x - 1) : Nat) : Int) := by
  by_cases h : x = d + 1
  · subst h
    rw [if_pos rfl, if_pos (by omega)]
    simp only [HS.base]
    congr 1
    omega
  · rw [if_neg h]
    by_cases h1 : x < d + 1
    · rw [if_pos h1, if_pos (by omega)]
    · rw [if_neg h1, if_neg (by omega)]

theorem start_row (dep : Nat → Nat) (m k x y ps : Nat) (e : dep k = y) (ep : ps = HS.base dep m (dep k) + HS.cnt dep k (dep k)) : (if x = y then Value.int .i64 ((ps : Int) + 1) else Value.int .i64 ((HS.base dep m x + HS.cnt dep k x : Nat) : Int)) = Value.int .i64 ((HS.base dep m x + HS.cnt dep (k + 1) x : Nat) : Int) := by
  by_cases h : x = y
  · subst h
    rw [if_pos rfl]
    simp only [HS.cnt, e, if_true]
    rw [ep, e]
    congr 1
  · rw [if_neg h]
    simp [HS.cnt, e, show ¬ y = x from fun h' => h h'.symm]

/-- What is known of the graph, its fields, the members and the walk. -/
structure HIn (w : World) (bg n ns nl m nw c2 c3 : Nat) (au a2 a3 a4 a5 : Option Addr) (cu : Nat) (S L : Nat → Int) (M W H : Nat → Nat) : Prop where
  f0 : w.cell? ⟨bg, 0, none⟩ = some (.slice au n cu)
  f1 : w.cell? ⟨bg, 1, none⟩ = some (.slice a2 ns c2)
  f2 : w.cell? ⟨bg, 2, none⟩ = some (.slice a3 nl c3)
  hS : Ints w a2 ns S
  hL : Ints w a3 nl L
  hM : Ints w a4 m (fun i => (M i : Int))
  hW : Ints w a5 nw (fun i => (W i : Int))
  hn : n ≤ 4096
  hns : ns ≤ 8192
  hnl : nl ≤ 8192
  hm : m ≤ 4096
  hnw : nw ≤ 4096
  hc3 : nl ≤ c3
  g : GOK n ns nl S L
  mlt : ∀ i, i < m → M i < n
  wok : WOK n (cntN ns S) (parN ns S L) W nw
  isH : IsH n (cntN ns S) (parN ns S L) H
  hb : ∀ k, H k ≤ 4096

theorem HIn.below {w w' : World} {bg n ns nl m nw c2 c3 : Nat} {au a2 a3 a4 a5 : Option Addr} {cu : Nat} {S L : Nat → Int} {M W H : Nat → Nat} (h : HIn w bg n ns nl m nw c2 c3 au a2 a3 a4 a5 cu S L M W H) {B : Nat} (hb : Below B w w') (hB : w.heap.size ≤ B) : HIn w' bg n ns nl m nw c2 c3 au a2 a3 a4 a5 cu S L M W H := by
  have lt : bg < w.heap.size := World.block_lt_of_cell? w ⟨bg, 0, none⟩ h.f0
  exact { h with
    f0 := (hb.cell (p := ⟨bg, 0, none⟩) (by simp; omega)).trans h.f0
    f1 := (hb.cell (p := ⟨bg, 1, none⟩) (by simp; omega)).trans h.f1
    f2 := (hb.cell (p := ⟨bg, 2, none⟩) (by simp; omega)).trans h.f2
    hS := h.hS.below hb hB
    hL := h.hL.below hb hB
    hM := h.hM.below hb hB
    hW := h.hW.below hb hB }

set_option maxRecDepth 100000 in
set_option maxHeartbeats 4000000 in
theorem hf_any (bg n ns nl m nw c2 c3 c4 c5 cu : Nat) (au a2 a3 a4 a5 : Option Addr) (S L : Nat → Int) (M W H : Nat → Nat) (w : World) (hin : HIn w bg n ns nl m nw c2 c3 au a2 a3 a4 a5 cu S L M W H) :
    Calls Try.prog 29 #[.pointer (some ⟨bg, 0, none⟩), .slice a4 m c4, .slice a5 nw c5] w fun e w' => ∃ (a' : Option Addr) (c' : Nat) (A dep : Nat → Nat) (hh : Nat), e = .returned (.slice a' m c') ∧ Below w.heap.size w w' ∧ Ints w' a' m (fun i => (A i : Int)) ∧
      (∀ i, i < m → H (M i) + dep i = hh) ∧ HS.lst m A = HS.sorted dep M m (hh + 1) := by
  have IN : Hid (HIn w bg n ns nl m nw c2 c3 au a2 a3 a4 a5 cu S L M W H) := hin
  have f0 := hin.f0
  have kn := hin.hn
  have km := hin.hm
  have kw := hin.hnw
  clear hin
  have hmk := run_make_row' (P := Try.prog) 22 3 (.int .i64 0) 8 Try.underlying22 Try.info3 rfl .i64 .i64 n (by omega) (by omega)
  go_enter Try.func29, Try.ntmps29
  go_wp2
  clear hmk f0
  go_loopg [31] nw (fun g i wr => ∃ (k : Nat) (ht : Nat → Nat), k + g = nw ∧ i = .int .i64 k ∧ Below w.heap.size w wr ∧ wr.rowIs w.heap.size 3 n (fun j => .int .i64 (ht j : Int)) ∧ HInv n H W k ht)
  case atStart => exact ⟨0, fun _ => 0, by omega, rfl, (Below.refl _ _).alloc (Nat.le_refl _) _, World.rowIs_made w (.int .i64 0) n 3, fun x _ => Nat.zero_le _, fun j h => by omega⟩
  case round =>
    obtain ⟨k, ht, hk, rfl, hb, hr, hi⟩ := hrel
    have BEL : Hid (Below w.heap.size w wr) := hb
    have ROW : Hid (wr.rowIs w.heap.size 3 n (fun j => .int .i64 (ht j : Int))) := hr
    have INV : Hid (HInv n H W k ht) := hi
    clear hb hr hi
    obtain ⟨wo, hwo⟩ : ∃ wo, wo = wr := ⟨_, rfl⟩
    subst hwo
    by_cases hlt : k < nw
    · have hlt' : (k : Int) < (nw : Int) := by omega
      rcases (IN.out.below BEL.out (Nat.le_refl _)).hW with h0 | ⟨bw, ow, e, hc⟩
      · omega
      have ck : wo.cell? ⟨bw, ow + k, none⟩ = some (.int .i64 (W k : Int)) := hc k hlt
      subst e
      clear hc
      have hv := (IN.out.wok.1 k hlt).1
      generalize hvv : W k = v at ck hv
      have HV : Hid (W k = v) := hvv
      clear hvv
      go_wp2_with fail
      have IN1 := IN.out.below BEL.out (Nat.le_refl _)
      refine (parents_any bg v n ns c2 nl c3 a2 a3 S L wo w (by omega) IN1.hc3 (IN1.g v hv) IN1.f1 IN1.f2 IN1.hS IN.out.hL).mono ?_
      clear IN1
      rintro e w1 ⟨ap, cp, rfl, ⟨q, rfl⟩, hpar⟩
      have HPAR : Hid (Ints w ap (cntN ns S v) (fun c => (parN ns S L v c : Int))) := hpar
      clear hpar
      have hcn : cntN ns S v ≤ 8192 := by
        have h1 := (IN.out.g v hv).nat.2.2
        have h2 := IN.out.hnl
        omega
      generalize hcc : cntN ns S v = cn at HPAR hcn ⊢
      have HC : Hid (cntN ns S v = cn) := hcc
      clear hcc
      go_wp2
      go_loopg [39] cn (fun g i wx => ∃ (c : Nat) (ht : Nat → Nat), c + g = cn ∧ i = .int .i64 c ∧ Below w.heap.size w wx ∧ wx.rowIs w.heap.size 3 n (fun j => .int .i64 (ht j : Int)) ∧ HInv n H W k ht ∧ mx (parN ns S L) H v c ≤ ht v)
      case atStart => exact ⟨0, ht, by omega, rfl, BEL.out.trans (below_drewN _ _ _), rowIs_drewN ROW.out q, INV.out, Nat.zero_le _⟩
      case round =>
        obtain ⟨c, ht2, hc, rfl, hb2, hr2, hi2, hm2⟩ := hrel
        have BEL2 : Hid (Below w.heap.size w wr) := hb2
        have ROW2 : Hid (wr.rowIs w.heap.size 3 n (fun j => .int .i64 (ht2 j : Int))) := hr2
        have INV2 : Hid (HInv n H W k ht2 ∧ mx (parN ns S L) H v c ≤ ht2 v) := ⟨hi2, hm2⟩
        clear hb2 hr2 hi2 hm2 ROW INV
        by_cases hcl : c < cn
        · have hcl' : (c : Int) < (cn : Int) := by omega
          have hcn2 : c < cntN ns S v := by rw [HC.out]; exact hcl
          rcases HPAR.out with h0 | ⟨bp, op, e, hcc⟩
          · omega
          have cc0 : wr.cell? ⟨bp, op + c, none⟩ = some (.int .i64 (parN ns S L v c : Int)) := (BEL2.out.cell (p := ⟨bp, op + c, none⟩) (World.block_lt_of_cell? w ⟨bp, op + c, none⟩ (hcc c hcl))).trans (hcc c hcl)
          have hpn := IN.out.g.lt v hv c hcn2
          have HPE : Hid (ht2 (parN ns S L v c) = H (parN ns S L v c)) := by
            obtain ⟨j, hj, ej⟩ := (IN.out.wok.1 k hlt).2 c (by rw [HV.out]; exact hcn2)
            rw [HV.out] at ej
            show _ = _
            rw [← ej]
            exact INV2.out.1.2 j hj
          subst e
          clear hcc
          have STEP := hinv_up IN.out.isH INV2.out.1 hv hcn2 HPE.out INV2.out.2
          generalize hpp : parN ns S L v c = p at cc0 hpn STEP
          have HPP : Hid (parN ns S L v c = p) := hpp
          clear hpp HPE
          have SH : Hid (HInv n H W k (fun x => if x = v then max (ht2 v) (ht2 p + 1) else ht2 x) ∧ mx (parN ns S L) H v (c + 1) ≤ max (ht2 v) (ht2 p + 1)) := STEP
          have cv := ROW2.out.cell hv
          have cpp := ROW2.out.cell hpn
          have fv := ROW2.out.frozen v
          have hv' : (v : Int) < (n : Int) := by omega
          have hp' : (p : Int) < (n : Int) := by omega
          have bv : ht2 v ≤ 4096 := by have h1 := INV2.out.1.1 v hv; have h2 := IN.out.hb v; omega
          have bp' : ht2 p ≤ 4096 := by have h1 := INV2.out.1.1 p hpn; have h2 := IN.out.hb p; omega
          have hmx := max_if_nat (ht2 v) (ht2 p)
          clear STEP
          go_wp2
          go_region
          go_wp2
          go_roundg (cn - (c + 1))
          case measure => omega
          case rel =>
            refine ⟨c + 1, _, by omega, by go_num, (BEL2.out.setCell (Nat.le_refl _) _).drew, ?_, SH.out.1, ?_⟩
            · exact ((ROW2.out.set v (.int .i64 ((max (ht2 v) (ht2 p + 1) : Nat) : Int))).drew).congr fun j _ => by split <;> rfl
            · simp only [if_true]; exact SH.out.2
        · obtain rfl : c = cn := by omega
          have NEXT : Hid (HInv n H W (k + 1) ht2) := by
            refine hinv_next IN.out.isH INV2.out.1 (by rw [HV.out]; exact hv) ?_
            rw [HV.out, HC.out]
            exact INV2.out.2
          go_wp2
          go_roundg (nw - (k + 1))
          case measure => omega
          case rel => exact ⟨k + 1, ht2, by omega, by go_num, BEL2.out, ROW2.out, NEXT.out⟩
    · have HROW0 : wo.rowIs w.heap.size 3 n (fun j => .int .i64 (H j : Int)) := ROW.out.congr fun x hx => by
        obtain ⟨j, hj, ej⟩ := IN.out.wok.2 x hx
        have h1 := INV.out.2 j (by omega)
        rw [ej] at h1
        rw [h1]
      have HROW : Hid (wo.rowIs w.heap.size 3 n (fun j => .int .i64 (H j : Int))) := HROW0
      clear HROW0 ROW INV
      go_wp2
      go_loopg [12, 60] m (fun g s i wr => ∃ k hh : Nat, k + g = m ∧ i = .int .i64 k ∧ s = .int .i64 (hh : Int) ∧ hh ≤ 4096 ∧ (∀ i, i < k → H (M i) ≤ hh) ∧ wo = wr)
      case atStart => exact ⟨0, 0, by omega, rfl, rfl, by omega, fun i h => by omega, rfl⟩
      case round =>
        obtain ⟨k3, hh, hk3, rfl, rfl, hhb, hmx3, rfl⟩ := hrel
        have HMX : Hid (∀ i, i < k3 → H (M i) ≤ hh) := hmx3
        clear hmx3
        by_cases hlt3 : k3 < m
        · have hlt3' : (k3 : Int) < (m : Int) := by omega
          rcases (IN.out.below BEL.out (Nat.le_refl _)).hM with h0 | ⟨bm, om, e, hc⟩
          · omega
          have ck : wo.cell? ⟨bm, om + k3, none⟩ = some (.int .i64 (M k3 : Int)) := hc k3 hlt3
          subst e
          clear hc
          have hv := IN.out.mlt k3 hlt3
          have hHb := IN.out.hb (M k3)
          have HMX' : Hid (∀ i, i < k3 + 1 → H (M i) ≤ max hh (H (M k3))) := by
            intro i hi
            by_cases e : i = k3
            · subst e; omega
            · have := HMX.out i (by omega); omega
          have cv := HROW.out.cell hv
          generalize hvv : M k3 = v at ck hv cv hHb HMX'
          have HVV : Hid (M k3 = v) := hvv
          clear hvv
          have hv' : (v : Int) < (n : Int) := by omega
          have hmx := max_if_nat2 hh (H v)
          go_wp2
          go_roundg (m - (k3 + 1))
          case measure => omega
          case rel => exact ⟨k3 + 1, max hh (H v), by omega, by go_num, rfl, by omega, HMX'.out, rfl⟩
        · have DEP : Hid (∀ i, i < m → H (M i) + (hh - H (M i)) = hh) := by
            intro i hi
            have := HMX.out i (by omega)
            omega
          have lt1 : w.heap.size < wo.heap.size := HROW.out.lt
          have hmk := run_make_row' (P := Try.prog) 22 3 (.int .i64 0) 8 Try.underlying22 Try.info3 rfl .i64 .i64 (hh + 2) (by omega) (by omega)
          have ec : ((hh + 2 : Nat) : Int) = (hh : Int) + 2 := by omega
          rw [ec] at hmk
          clear ec HMX
          obtain ⟨dep, hdep⟩ : ∃ dep : Nat → Nat, dep = fun i => hh - H (M i) := ⟨_, rfl⟩
          have HDEP : Hid (∀ i, dep i = hh - H (M i)) := fun i => by rw [hdep]
          have DEP' : Hid (∀ i, i < m → H (M i) + dep i = hh) := fun i hi => by rw [HDEP.out]; exact DEP.out i hi
          clear hdep DEP
          go_wp2
          clear hmk
          go_loopg [76] m (fun g i wr => ∃ k : Nat, k + g = m ∧ i = .int .i64 k ∧ Below w.heap.size w wr ∧ wr.rowIs w.heap.size 3 n (fun j => .int .i64 (H j : Int)) ∧ wr.rowIs wo.heap.size 3 (hh + 2) (fun x => .int .i64 ((if x = 0 then 0 else HS.cnt dep k (x - 1) : Nat) : Int)))
          case atStart =>
            refine ⟨0, by omega, rfl, BEL.out.alloc BEL.out.size _, HROW.out.alloc _, (World.rowIs_made wo (.int .i64 0) (hh + 2) 3).congr fun x _ => ?_⟩
            split <;> rfl
          case round =>
            obtain ⟨k4, hk4, rfl, hb4, hr4, hs4⟩ := hrel
            have BEL4 : Hid (Below w.heap.size w wr) := hb4
            have HROW4 : Hid (wr.rowIs w.heap.size 3 n (fun j => .int .i64 (H j : Int))) := hr4
            have SROW4 : Hid (wr.rowIs wo.heap.size 3 (hh + 2) (fun x => .int .i64 ((if x = 0 then 0 else HS.cnt dep k4 (x - 1) : Nat) : Int))) := hs4
            clear hb4 hr4 hs4
            by_cases hlt4 : k4 < m
            · have hlt4' : (k4 : Int) < (m : Int) := by omega
              rcases (IN.out.below BEL4.out (Nat.le_refl _)).hM with h0 | ⟨bm, om, e, hc⟩
              · omega
              have ck : wr.cell? ⟨bm, om + k4, none⟩ = some (.int .i64 (M k4 : Int)) := hc k4 hlt4
              subst e
              clear hc
              have hv := IN.out.mlt k4 hlt4
              have hd4 := DEP'.out k4 hlt4
              have cv := HROW4.out.cell hv
              have ED : Hid (dep k4 = hh - H (M k4)) := HDEP.out k4
              have hHl : H (M k4) ≤ hh := by omega
              have cs : wr.cell? ⟨wo.heap.size, hh - H (M k4) + 1, none⟩ = some (.int .i64 (HS.cnt dep k4 (hh - H (M k4)) : Int)) := by
                rw [SROW4.out.cell (by omega)]
                simp
              have fs := SROW4.out.frozen (hh - H (M k4) + 1)
              have cb := HS.cnt_le dep k4 (hh - H (M k4))
              clear hd4
              generalize hvv : M k4 = v at ck hv cv ED hHl cs fs cb
              have HVV : Hid (M k4 = v) := hvv
              clear hvv
              have hv' : (v : Int) < (n : Int) := by omega
              have hHl' : (H v : Int) ≤ (hh : Int) := by omega
              go_wp2
              go_roundg (m - (k4 + 1))
              case measure => omega
              case rel =>
                refine ⟨k4 + 1, by omega, by go_num, BEL4.out.setCell (Nat.le_of_lt lt1) _, HROW4.out.setOther (Nat.ne_of_lt lt1) _, (SROW4.out.set _ _).congr fun x _ => ?_⟩
                exact cnt_row dep k4 x _ ED.out
            · obtain rfl : k4 = m := by omega
              go_wp2
              go_loopg [18] (hh + 1) (fun g i wr => ∃ d : Nat, d + g = hh + 1 ∧ i = .int .i64 ((d + 1 : Nat) : Int) ∧ Below w.heap.size w wr ∧ wr.rowIs w.heap.size 3 n (fun j => .int .i64 (H j : Int)) ∧ wr.rowIs wo.heap.size 3 (hh + 2) (fun x => .int .i64 ((if x < d + 1 then HS.base dep k4 x else HS.cnt dep k4 (x - 1) : Nat) : Int)))
              case atStart =>
                refine ⟨0, by omega, rfl, BEL4.out, HROW4.out, SROW4.out.congr fun x _ => ?_⟩
                by_cases e : x = 0
                · subst e; rfl
                · simp [e]
              case round =>
                obtain ⟨d, hd, rfl, hb5, hr5, hs5⟩ := hrel
                have BEL5 : Hid (Below w.heap.size w wr) := hb5
                have HROW5 : Hid (wr.rowIs w.heap.size 3 n (fun j => .int .i64 (H j : Int))) := hr5
                have SROW5 : Hid (wr.rowIs wo.heap.size 3 (hh + 2) (fun x => .int .i64 ((if x < d + 1 then HS.base dep k4 x else HS.cnt dep k4 (x - 1) : Nat) : Int))) := hs5
                clear hb5 hr5 hs5
                by_cases hlt5 : d < hh + 1
                · have t1 : ((d + 1 : Nat) : Int) < ((hh + 2 : Nat) : Int) := by omega
                  have t2 : (d : Int) < ((hh + 2 : Nat) : Int) := by omega
                  have c1 : wr.cell? ⟨wo.heap.size, d + 1, none⟩ = some (.int .i64 (HS.cnt dep k4 d : Int)) := by
                    rw [SROW5.out.cell (by omega)]; simp
                  have c2 : wr.cell? ⟨wo.heap.size, d, none⟩ = some (.int .i64 (HS.base dep k4 d : Int)) := by
                    rw [SROW5.out.cell (by omega)]; simp
                  have fs := SROW5.out.frozen (d + 1)
                  have b1 := HS.cnt_le dep k4 d
                  have b2 : HS.base dep k4 d ≤ k4 := by
                    have h1 := HS.base_mono dep k4 (show d ≤ hh + 1 by omega)
                    rw [HS.base_all dep (hh + 1) k4 (fun i hi => by have := DEP'.out i hi; omega)] at h1
                    exact h1
                  go_wp2
                  go_region
                  go_wp2
                  go_roundg (hh + 1 - (d + 1))
                  case measure => omega
                  case rel =>
                    refine ⟨d + 1, by omega, by go_num, ((BEL5.out.setCell (Nat.le_of_lt lt1) _)).drew, (HROW5.out.setOther (Nat.ne_of_lt lt1) _).drew, ((SROW5.out.set _ _).drew).congr fun x _ => ?_⟩
                    exact base_row dep k4 d x
                · obtain rfl : d = hh + 1 := by omega
                  have PROW5 : Hid (wr.rowIs wo.heap.size 3 (hh + 2) (fun x => .int .i64 ((HS.base dep k4 x + HS.cnt dep 0 x : Nat) : Int))) := SROW5.out.congr fun x hx => by
                    rw [if_pos (by omega)]; simp [HS.cnt]
                  clear SROW5
                  obtain ⟨w5, hw5⟩ : ∃ w5, w5 = wr := ⟨_, rfl⟩
                  subst hw5
                  have lt5 : wo.heap.size < w5.heap.size := PROW5.out.lt
                  have hmk := run_make_row' (P := Try.prog) 22 3 (.int .i64 0) 8 Try.underlying22 Try.info3 rfl .i64 .i64 k4 (by omega) (by omega)
                  go_wp2
                  clear hmk
                  go_loopg [115] k4 (fun g i wr => ∃ (k : Nat) (A : Nat → Nat), k + g = k4 ∧ i = .int .i64 k ∧ Below w.heap.size w wr ∧ wr.rowIs w.heap.size 3 n (fun j => .int .i64 (H j : Int)) ∧ wr.rowIs wo.heap.size 3 (hh + 2) (fun x => .int .i64 ((HS.base dep k4 x + HS.cnt dep k x : Nat) : Int)) ∧ wr.rowIs w5.heap.size 3 k4 (fun x => .int .i64 (A x : Int)) ∧ HS.Placed dep M k4 k A)
                  case atStart =>
                    refine ⟨0, fun _ => 0, by omega, rfl, BEL5.out.alloc BEL5.out.size _, HROW5.out.alloc _, PROW5.out.alloc _, (World.rowIs_made w5 (.int .i64 0) k4 3).congr fun x _ => rfl, HS.placed_start _ _ _ _⟩
                  case round =>
                    obtain ⟨k6, A, hk6, rfl, hb6, hr6, hs6, ho6, hp6⟩ := hrel
                    have BEL6 : Hid (Below w.heap.size w wr) := hb6
                    have HROW6 : Hid (wr.rowIs w.heap.size 3 n (fun j => .int .i64 (H j : Int))) := hr6
                    have SROW6 : Hid (wr.rowIs wo.heap.size 3 (hh + 2) (fun x => .int .i64 ((HS.base dep k4 x + HS.cnt dep k6 x : Nat) : Int))) := hs6
                    have OROW6 : Hid (wr.rowIs w5.heap.size 3 k4 (fun x => .int .i64 (A x : Int))) := ho6
                    have PL6 : Hid (HS.Placed dep M k4 k6 A) := hp6
                    clear hb6 hr6 hs6 ho6 hp6
                    by_cases hlt6 : k6 < k4
                    · have hlt6' : (k6 : Int) < (k4 : Int) := by omega
                      rcases (IN.out.below BEL6.out (Nat.le_refl _)).hM with h0 | ⟨bm, om, e, hc⟩
                      · omega
                      have ck : wr.cell? ⟨bm, om + k6, none⟩ = some (.int .i64 (M k6 : Int)) := hc k6 hlt6
                      subst e
                      clear hc
                      have hv := IN.out.mlt k6 hlt6
                      have hd6 := DEP'.out k6 hlt6
                      have cv := HROW6.out.cell hv
                      have hHl : H (M k6) ≤ hh := by omega
                      have hDl : ∀ i, i < k4 → dep i < hh + 1 := fun i hi => by have := DEP'.out i hi; omega
                      have hps := HS.pos_lt dep hDl hlt6
                      have PSTEP : Hid (HS.Placed dep M k4 (k6 + 1) (fun x => if x = HS.pos dep k4 k6 then M k6 else A x)) := HS.placed_step PL6.out hlt6
                      have EP : Hid (HS.pos dep k4 k6 = HS.base dep k4 (dep k6) + HS.cnt dep k6 (dep k6)) := rfl
                      have cs : wr.cell? ⟨wo.heap.size, hh - H (M k6), none⟩ = some (.int .i64 (HS.pos dep k4 k6 : Int)) := by
                        rw [SROW6.out.cell (by omega), show hh - H (M k6) = dep k6 by omega]
                        rfl
                      have fs := SROW6.out.frozen (hh - H (M k6))
                      have co := OROW6.out.cell hps
                      have fo := OROW6.out.frozen (HS.pos dep k4 k6)
                      have ED : Hid (dep k6 = hh - H (M k6)) := HDEP.out k6
                      generalize hpp : HS.pos dep k4 k6 = ps at hps PSTEP EP cs co fo
                      have HPS : Hid (HS.pos dep k4 k6 = ps) := hpp
                      clear hpp hd6 hDl
                      generalize hvv : M k6 = v at ck hv cv hHl cs fs ED PSTEP
                      have HVV : Hid (M k6 = v) := hvv
                      clear hvv
                      have hv' : (v : Int) < (n : Int) := by omega
                      have hHl' : (H v : Int) ≤ (hh : Int) := by omega
                      have hps' : (ps : Int) < (k4 : Int) := by omega
                      have ne1 : ¬ wo.heap.size = w5.heap.size := by omega
                      go_wp2
                      go_roundg (k4 - (k6 + 1))
                      case measure => omega
                      case rel =>
                        refine ⟨k6 + 1, _, by omega, by go_num, (BEL6.out.setCell (Nat.le_of_lt (Nat.lt_trans lt1 lt5)) _).setCell (Nat.le_of_lt lt1) _, (HROW6.out.setOther (Nat.ne_of_lt (Nat.lt_trans lt1 lt5)) _).setOther (Nat.ne_of_lt lt1) _, ((SROW6.out.setOther (Nat.ne_of_lt lt5) _).set _ _).congr fun x _ => ?_, ((OROW6.out.set ps (.int .i64 (v : Int))).setOther (Nat.ne_of_gt lt5) _).congr fun x _ => ?_, PSTEP.out⟩
                        · exact start_row dep k4 k6 x _ _ ED.out EP.out
                        · split <;> rfl
                    · obtain rfl : k6 = k4 := by omega
                      have FIN : Hid (HS.lst k6 A = HS.sorted dep M k6 (hh + 1)) := HS.placed_end PL6.out (fun i hi => by have := DEP'.out i hi; omega)
                      go_wp2
                      go_ret
                      exact ⟨_, _, A, dep, hh, rfl, BEL6.out, ints_of_row OROW6.out, DEP'.out, FIN.out⟩
end Go.Proofs.Qxb6605208a
