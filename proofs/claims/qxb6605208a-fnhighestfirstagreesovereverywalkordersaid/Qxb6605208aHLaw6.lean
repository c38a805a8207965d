import Derived.Test.Qxb6605208aHLong6
import Derived.Test.Qxb6605208aHW10
namespace Go.Proofs.Qxb6605208a
open Go.RowKit
open HP (WOK IsH)

theorem mk_cap (n : Nat) (hn : n ≤ 4096) (w : World) :
    (Instr.makeSlice 22 (.int .i64 0) (.int .i64 (n : Int))).run Try.prog w = .ok (.slice (some ⟨w.heap.size, 0, none⟩) 0 n) (w.alloc (.cells (madeCells #[.int .i64 0] n) 3)) := by
  obtain ⟨i, hi, hz, hs, hb⟩ := info_parts Try.info3
  have hr := run_make (P := Try.prog) w 22 3 i _ Try.underlying22 hi hz .i64 .i64 0 (n : Int) (by omega) (by omega) (by rw [hb]; omega) (by omega)
  rw [hs] at hr
  simp only [Int.toNat_natCast, Nat.mul_one] at hr
  exact hr

theorem ints_lf {w : World} {B n : Nat} {l : List Nat} (h : w.rowIs B 3 n (LF l)) (hl : l.length ≤ n) : Ints w (some ⟨B, 0, none⟩) l.length (fun i => ((l.getD i 0 : Nat) : Int)) :=
  .inr ⟨B, 0, rfl, fun i hi => by rw [Nat.zero_add]; exact h.cell (by omega)⟩

theorem bel_grown' {w w' w'' : World} {k : Nat} (h : Below w.heap.size w w') (g : w'.grownBy w'' (some k)) (hk : w.heap.size ≤ k) : Below w.heap.size w w'' :=
  h.grown g h.size (fun x e => by cases e; exact hk)

set_option maxRecDepth 100000 in
set_option maxHeartbeats 4000000 in
theorem law6_main (a0 : Option Addr) (n0 c0 : Nat) (a1 : Option Addr) (n1 c1 : Nat) (a2 : Option Addr) (n2 c2 : Nat) (a3 : Option Addr) (n3 c3 : Nat) (a4 : Option Addr) (n4 c4 : Nat) (a5 : Option Addr) (n5 c5 : Nat) (s0 s1 : Nat → ByteArray) (f2 f3 f4 f5 : Nat → Int) (w : World) (k0 : n0 ≤ 4096) (z0 : a0 = none → n0 = 0) (k1 : n1 ≤ 4096) (z1 : a1 = none → n1 = 0) (k2 : n2 ≤ 8192) (z2 : a2 = none → n2 = 0) (k3 : n3 ≤ 8192) (z3 : a3 = none → n3 = 0) (k4 : n4 ≤ 4096) (z4 : a4 = none → n4 = 0) (k5 : n5 ≤ 4096) (z5 : a5 = none → n5 = 0) (I0 : Strs w a0 n0 s0) (I1 : Strs w a1 n1 s1) (I2 : Ints w a2 n2 f2) (I3 : Ints w a3 n3 f3) (I4 : Ints w a4 n4 f4) (I5 : Ints w a5 n5 f5) :
    Calls Try.prog 6 #[.slice a0 n0 c0, .slice a1 n1 c1, .slice a2 n2 c2, .slice a3 n3 c3, .slice a4 n4 c4, .slice a5 n5 c5] w fun e w' => e = .returned (.bool true) ∧ Below w.heap.size w w' := by
  have k0' : decide ((4096 : Int) < (n0 : Int)) = false := decide_eq_false (by omega)
  have k1' : decide ((4096 : Int) < (n1 : Int)) = false := decide_eq_false (by omega)
  have k2' : decide ((8192 : Int) < (n2 : Int)) = false := decide_eq_false (by omega)
  have k3' : decide ((8192 : Int) < (n3 : Int)) = false := decide_eq_false (by omega)
  have k4' : decide ((4096 : Int) < (n4 : Int)) = false := decide_eq_false (by omega)
  have k5' : decide ((4096 : Int) < (n5 : Int)) = false := decide_eq_false (by omega)
  have Z0 : Hid (a0 = none → n0 = 0) := z0
  have Z1 : Hid (a1 = none → n1 = 0) := z1
  have Z2 : Hid (a2 = none → n2 = 0) := z2
  have Z3 : Hid (a3 = none → n3 = 0) := z3
  have Z4 : Hid (a4 = none → n4 = 0) := z4
  have Z5 : Hid (a5 = none → n5 = 0) := z5
  clear z0 z1 z2 z3 z4 z5
  go_enter Try.func6, Try.ntmps6
  go_wp2_with fail
  refine (some22 a0 a1 a2 a3 a4 a5 n0 c0 n1 c1 n2 c2 n3 c3 n4 c4 n5 c5 s0 s1 _ I0 I1).mono ?_
  rintro e w' ⟨r, rfl, rfl⟩
  cases r
  · go_wp2
    go_ret
    exact ⟨rfl, Below.refl _ _⟩
  go_wp2_with fail
  refine (some16 a0 a1 a2 a3 a4 a5 n0 c0 n1 c1 n2 c2 n3 c3 n4 c4 n5 c5 s0 s1 _ k0 k1 k2 k3 k4 k5 I0 I1).mono ?_
  rintro e w ⟨r, rfl, rfl⟩
  cases r
  · go_wp2
    go_ret
    exact ⟨rfl, Below.refl _ _⟩
  go_wp2_with fail
  refine (dom_any a0 a1 a2 a3 a4 a5 n0 c0 n1 c1 n2 c2 n3 c3 n4 c4 n5 c5 f2 f3 f4 f5 w k0 k2 k3 k4 I2 I3 I4 I5).mono ?_
  rintro e wd ⟨r, rfl, bb, hr⟩
  have BEL := bb
  replace I0 := I0.below bb (Nat.le_refl _)
  replace I1 := I1.below bb (Nat.le_refl _)
  replace I2 := I2.below bb (Nat.le_refl _)
  replace I3 := I3.below bb (Nat.le_refl _)
  replace I4 := I4.below bb (Nat.le_refl _)
  replace I5 := I5.below bb (Nat.le_refl _)
  clear bb
  cases r
  · clear hr
    go_wp2
    go_ret
    exact ⟨rfl, BEL⟩
  have hx := hr rfl
  clear hr
  obtain ⟨e1, e5, mr, gok, wr, wok⟩ := hx
  have E1 : Hid (n1 = n0) := e1
  have E5 : Hid (n5 = n0) := e5
  have MR : Hid (∀ i, i < n4 → 0 ≤ f4 i ∧ f4 i < n0) := mr
  have WR : Hid (∀ i, i < n0 → 0 ≤ f5 i ∧ f5 i < n0) := wr
  have GOKH : Hid (GOK n0 n2 n3 f2 f3) := gok
  have WOKH : Hid (WOK n0 (cntN n2 f2) (parN n2 f2 f3) (fun i => (f5 i).toNat) n0) := wok
  clear e1 e5 mr gok wr wok
  go_wp2_with fail
  refine (copyS_any a0 n0 c0 s0 wd (by omega) Z0.out I0).mono ?_
  rintro e wc0 ⟨x0, y0, rfl, bb, J0⟩
  replace BEL := bel_trans BEL bb
  replace I1 := I1.below bb (Nat.le_refl _)
  replace I2 := I2.below bb (Nat.le_refl _)
  replace I3 := I3.below bb (Nat.le_refl _)
  replace I4 := I4.below bb (Nat.le_refl _)
  replace I5 := I5.below bb (Nat.le_refl _)
  clear bb I0
  go_wp2_with fail
  refine (copyS_any a1 n1 c1 s1 wc0 (by omega) Z1.out I1).mono ?_
  rintro e wc1 ⟨x1, y1, rfl, bb, J1⟩
  replace BEL := bel_trans BEL bb
  replace J0 := J0.below bb (Nat.le_refl _)
  replace I2 := I2.below bb (Nat.le_refl _)
  replace I3 := I3.below bb (Nat.le_refl _)
  replace I4 := I4.below bb (Nat.le_refl _)
  replace I5 := I5.below bb (Nat.le_refl _)
  clear bb I1
  go_wp2_with fail
  refine (copy_cap a2 n2 c2 f2 wc1 (by omega) Z2.out I2).mono ?_
  rintro e wc2 ⟨x2, y2, rfl, cy2, bb, J2⟩
  replace BEL := bel_trans BEL bb
  replace J0 := J0.below bb (Nat.le_refl _)
  replace J1 := J1.below bb (Nat.le_refl _)
  replace I3 := I3.below bb (Nat.le_refl _)
  replace I4 := I4.below bb (Nat.le_refl _)
  replace I5 := I5.below bb (Nat.le_refl _)
  clear bb I2
  go_wp2_with fail
  refine (copy_cap a3 n3 c3 f3 wc2 (by omega) Z3.out I3).mono ?_
  rintro e wc3 ⟨x3, y3, rfl, cy3, bb, J3⟩
  replace BEL := bel_trans BEL bb
  replace J0 := J0.below bb (Nat.le_refl _)
  replace J1 := J1.below bb (Nat.le_refl _)
  replace J2 := J2.below bb (Nat.le_refl _)
  replace I4 := I4.below bb (Nat.le_refl _)
  replace I5 := I5.below bb (Nat.le_refl _)
  clear bb I3
  go_wp2_with fail
  refine (copy_cap a4 n4 c4 f4 wc3 (by omega) Z4.out I4).mono ?_
  rintro e wc4 ⟨x4, y4, rfl, cy4, bb, J4⟩
  replace BEL := bel_trans BEL bb
  replace J0 := J0.below bb (Nat.le_refl _)
  replace J1 := J1.below bb (Nat.le_refl _)
  replace J2 := J2.below bb (Nat.le_refl _)
  replace J3 := J3.below bb (Nat.le_refl _)
  replace I5 := I5.below bb (Nat.le_refl _)
  clear bb I4
  go_wp2_with fail
  refine (copy_cap a5 n5 c5 f5 wc4 (by omega) Z5.out I5).mono ?_
  rintro e wc5 ⟨x5, y5, rfl, cy5, bb, J5⟩
  replace BEL := bel_trans BEL bb
  replace J0 := J0.below bb (Nat.le_refl _)
  replace J1 := J1.below bb (Nat.le_refl _)
  replace J2 := J2.below bb (Nat.le_refl _)
  replace J3 := J3.below bb (Nat.le_refl _)
  replace J4 := J4.below bb (Nat.le_refl _)
  clear bb I5
  obtain rfl := E1.out
  obtain rfl := E5.out
  clear E1 E5 k1' k5'
  obtain ⟨H, isH, hb⟩ := HP.isH_exists WOKH.out
  have ISH : Hid (IsH n5 (cntN n2 f2) (parN n2 f2 f3) H) := isH
  have HBD : Hid (∀ k, H k ≤ n5) := hb
  clear isH hb
  replace J4 := ints_nat J4 MR.out
  replace J5 := ints_nat J5 WR.out
  go_wp2_with fail
  refine (heights_any n5 n2 n3 y2 y3 x2 x3 f2 f3 H wc5 J2 J3 (by omega) (by omega) (by omega) GOKH.out ISH.out HBD.out).mono ?_
  rintro e wh ⟨rfl, bb, hrow⟩
  replace BEL := bel_trans BEL bb
  replace J0 := J0.below bb (Nat.le_refl _)
  replace J1 := J1.below bb (Nat.le_refl _)
  replace J2 := J2.below bb (Nat.le_refl _)
  replace J3 := J3.below bb (Nat.le_refl _)
  replace J4 := J4.below bb (Nat.le_refl _)
  replace J5 := J5.below bb (Nat.le_refl _)
  clear bb
  have HROW : Hid (wh.rowIs wc5.heap.size 3 n5 (fun j => .int .i64 (H j : Int))) := hrow
  have BELH : Hid (Below w.heap.size w wh) := BEL
  have JJ : Hid (Strs wh x0 n5 s0 ∧ Strs wh x1 n5 s1 ∧ Ints wh x2 n2 f2 ∧ Ints wh x3 n3 f3 ∧ Ints wh x4 n4 (fun i => ((f4 i).toNat : Int)) ∧ Ints wh x5 n5 (fun i => ((f5 i).toNat : Int))) := ⟨J0, J1, J2, J3, J4, J5⟩
  have CY3 : Hid (n3 ≤ y3) := cy3
  clear hrow BEL J0 J1 J2 J3 J4 J5 cy2 cy3 cy4 cy5 Z0 Z1 Z2 Z3 Z4 Z5
  go_wp2
  go_loopg [15, 16] n5 (fun g s i wr => ∃ k mh : Nat, k + g = n5 ∧ i = .int .i64 k ∧ s = .int .i64 (mh : Int) ∧ mh ≤ 4096 ∧ (∀ i, i < k → H i ≤ mh) ∧ wh = wr)
  case atStart => exact ⟨0, 0, by omega, rfl, rfl, by omega, fun i h => by omega, rfl⟩
  case round =>
    obtain ⟨k, mh, hk, rfl, rfl, hmb, hmx, rfl⟩ := hrel
    have HMX : Hid (∀ i, i < k → H i ≤ mh) := hmx
    clear hmx
    by_cases hlt : k < n5
    · have hlt' : (k : Int) < (n5 : Int) := by omega
      have ck := HROW.out.cell hlt
      have hHb := HBD.out k
      have HMX' : Hid (∀ i, i < k + 1 → H i ≤ max mh (H k)) := by
        intro i hi
        by_cases e : i = k
        · subst e; omega
        · have := HMX.out i (by omega); omega
      have hif := max_if_nat2 mh (H k)
      go_wp2
      go_roundg (n5 - (k + 1))
      case measure => omega
      case rel => exact ⟨k + 1, max mh (H k), by omega, by go_num, rfl, by omega, HMX'.out, rfl⟩
    · have MAX : Hid (∀ i, i < n5 → H i < mh + 1) := fun i hi => by have := HMX.out i (by omega); omega
      have hmk := mk_cap n5 (by omega)
      clear HMX
      go_wp2
      clear hmk
      go_loopg [17, 18] (mh + 1) (fun g s i wr => ∃ (d : Nat) (l : List Nat), d + g = mh + 1 ∧ i = .int .i64 d ∧ s = .slice (some ⟨wh.heap.size, 0, none⟩) l.length n5 ∧ l = HS.sorted H (fun x => x) n5 d ∧ Below wh.heap.size wh wr ∧ wr.rowIs wh.heap.size 3 n5 (LF l))
      case atStart => exact ⟨0, [], by omega, rfl, rfl, rfl, (Below.refl _ _).alloc (Nat.le_refl _) _, (World.rowIs_made wh (.int .i64 0) n5 3).congr fun x _ => rfl⟩
      case round =>
        obtain ⟨d, l, hd, rfl, rfl, hl, hb1, hr1⟩ := hrel
        have EL : Hid (l = HS.sorted H (fun x => x) n5 d) := hl
        have B1 : Hid (Below wh.heap.size wh wr) := hb1
        have R1 : Hid (wr.rowIs wh.heap.size 3 n5 (LF l)) := hr1
        clear hl hb1 hr1
        obtain ⟨wo, hwo⟩ : ∃ wo, wo = wr := ⟨_, rfl⟩
        subst hwo
        by_cases hdm : d ≤ mh
        · have hdm' : (d : Int) ≤ (mh : Int) := by omega
          go_wp2
          go_loopg [17, 19] n5 (fun g s i wr => ∃ (k : Nat) (l : List Nat), k + g = n5 ∧ i = .int .i64 k ∧ s = .slice (some ⟨wh.heap.size, 0, none⟩) l.length n5 ∧ l = HS.sorted H (fun x => x) n5 d ++ HS.fil H (fun x => x) k d ∧ Below wh.heap.size wh wr ∧ wr.rowIs wh.heap.size 3 n5 (LF l))
          case atStart => exact ⟨0, l, by omega, rfl, rfl, by rw [EL.out]; simp [HS.fil], B1.out, R1.out⟩
          case round =>
            obtain ⟨j, l2, hj, rfl, rfl, hl2, hb2, hr2⟩ := hrel
            have EL2 : Hid (l2 = HS.sorted H (fun x => x) n5 d ++ HS.fil H (fun x => x) j d) := hl2
            have B2 : Hid (Below wh.heap.size wh wr) := hb2
            have R2 : Hid (wr.rowIs wh.heap.size 3 n5 (LF l2)) := hr2
            clear hl2 hb2 hr2
            by_cases hjn : j < n5
            · have hjn' : (j : Int) < (n5 : Int) := by omega
              have cj := (B2.out.cell (p := ⟨wc5.heap.size, j, none⟩) HROW.out.lt).trans (HROW.out.cell hjn)
              by_cases hjd : H j = d
              · have hb : ((H j : Int) == (d : Int)) = true := by rw [beq_iff_eq]; omega
                have room : l2.length + 1 ≤ n5 := by
                  have h1 := HS.pos_lt H MAX.out hjn
                  have h2 : l2.length = HS.base H n5 d + HS.cnt H j d := by rw [EL2.out, List.length_append, HS.sorted_len, HS.fil_len]
                  unfold HS.pos at h1
                  rw [hjd] at h1
                  omega
                have EL3 : Hid (l2 ++ [j] = HS.sorted H (fun x => x) n5 d ++ HS.fil H (fun x => x) (j + 1) d) := by
                  show _ = _
                  rw [HS.fil_succ, if_pos hjd, EL2.out, List.append_assoc]
                clear hjd
                go_wp2_with (at_builtin; refine wpList_append_nat _ rfl (.tmp 117) (.tmp 119) rfl wh.heap.size n5 l2 j _ rfl rfl ⟨wr.heap.size, 0, none⟩ 1 rfl ?_ ?_ ?_ ?_)
                case refine_1 => exact R2.out.alloc _
                case refine_2 => simp [Addr.add_lit]
                case refine_3 => exact room
                intro w1 hr1 hg1
                have B3 : Hid (Below wh.heap.size wh w1) := bel_grown' (bel_alloc' B2.out _) hg1 (Nat.le_refl _)
                have R3 : Hid (w1.rowIs wh.heap.size 3 n5 (LF (l2 ++ [j]))) := hr1
                clear hr1 hg1
                go_wp2
                go_roundg (n5 - (j + 1))
                case measure => omega
                case rel => exact ⟨j + 1, l2 ++ [j], by omega, by go_num, by simp, EL3.out, B3.out, R3.out⟩
              · have hb : ((H j : Int) == (d : Int)) = false := by rw [beq_eq_false_iff_ne]; omega
                have EL3 : Hid (l2 = HS.sorted H (fun x => x) n5 d ++ HS.fil H (fun x => x) (j + 1) d) := by
                  show _ = _
                  rw [HS.fil_succ, if_neg hjd, List.append_nil, EL2.out]
                go_wp2
                go_roundg (n5 - (j + 1))
                case measure => omega
                case rel => exact ⟨j + 1, l2, by omega, by go_num, rfl, EL3.out, B2.out, R2.out⟩
            · obtain rfl : j = n5 := by omega
              go_wp2
              go_roundg (mh + 1 - (d + 1))
              case measure => omega
              case rel => exact ⟨d + 1, l2, by omega, by go_num, rfl, EL2.out, B2.out, R2.out⟩
        · obtain rfl : d = mh + 1 := by omega
          have LL : Hid (l.length = n5) := by
            show _ = _
            rw [EL.out, HS.sorted_len, HS.base_all H (mh + 1) n5 MAX.out]
          have WOK2 : Hid (WOK n5 (cntN n2 f2) (parN n2 f2 f3) (fun i => l.getD i 0) l.length) := by
            show WOK _ _ _ _ _
            rw [LL.out]
            refine HS.byHeight_wok ISH.out GOKH.out.lt MAX.out fun i hi => ?_
            rw [← EL.out]
            have : i < l.length := by rw [LL.out]; exact hi
            simp [this]
          have lle : l.length ≤ n5 := by have := LL.out; omega
          obtain ⟨J0, J1, J2, J3, J4, J5⟩ := JJ.out
          replace J0 := J0.below B1.out (Nat.le_refl _)
          replace J1 := J1.below B1.out (Nat.le_refl _)
          replace J2 := J2.below B1.out (Nat.le_refl _)
          replace J3 := J3.below B1.out (Nat.le_refl _)
          replace J4 := J4.below B1.out (Nat.le_refl _)
          replace J5 := J5.below B1.out (Nat.le_refl _)
          have BEL := bel_trans BELH.out B1.out
          have hrow := rowIs_below HROW.out B1.out
          have J6 := ints_lf R1.out lle
          clear JJ BELH HROW B1 R1
          go_wp2_with fail
          refine (zzhf_any x0 x1 x2 x3 x4 x5 n5 n2 n3 n4 n5 y0 y1 y2 y3 y4 y5 s0 s1 f2 f3 (fun i => (f4 i).toNat) (fun i => (f5 i).toNat) H wo J0 J1 J2 J3 J4 J5 (by omega) (by omega) (by omega) (by omega) (by omega) CY3.out GOKH.out
            (fun i hi => by have h := MR.out i hi; show (f4 i).toNat < n5; omega) WOKH.out ISH.out (fun k => Nat.le_trans (HBD.out k) (by omega))).mono ?_
          rintro e wg ⟨ag, cg, A, dep, hh, rfl, bb, JG, hdep, hsort⟩
          have S1 : Hid (HS.Desc H (HS.lst n4 A) ∧ ∀ d, (HS.lst n4 A).filter (H · == d) = (HS.lst n4 (fun i => (f4 i).toNat)).filter (H · == d)) := by
            show _ ∧ _
            rw [hsort]
            exact ⟨HS.sorted_desc hdep _, fun d => HS.sorted_stable hdep d⟩
          clear hdep hsort
          replace BEL := bel_trans BEL bb
          replace J0 := J0.below bb (Nat.le_refl _)
          replace J1 := J1.below bb (Nat.le_refl _)
          replace J2 := J2.below bb (Nat.le_refl _)
          replace J3 := J3.below bb (Nat.le_refl _)
          replace J4 := J4.below bb (Nat.le_refl _)
          replace J6 := J6.below bb (Nat.le_refl _)
          replace hrow := rowIs_below hrow bb
          clear bb J5
          go_wp2_with fail
          refine (zzhf_any x0 x1 x2 x3 x4 (some ⟨wh.heap.size, 0, none⟩) n5 n2 n3 n4 l.length y0 y1 y2 y3 y4 n5 s0 s1 f2 f3 (fun i => (f4 i).toNat) (fun i => l.getD i 0) H wg J0 J1 J2 J3 J4 J6 (by omega) (by omega) (by omega) (by omega) (by omega) CY3.out GOKH.out
            (fun i hi => by have h := MR.out i hi; show (f4 i).toNat < n5; omega) WOK2.out ISH.out (fun k => Nat.le_trans (HBD.out k) (by omega))).mono ?_
          rintro e wg2 ⟨ag2, cg2, A2, dep2, hh2, rfl, bb, JG2, hdep, hsort⟩
          have EQ : Hid (∀ i, i < n4 → (A i : Int) = (A2 i : Int)) := by
            intro i hi
            have h := lst_inj (HS.desc_unique H S1.out.1 (hsort ▸ HS.sorted_desc hdep _) (fun d => by rw [S1.out.2, hsort, HS.sorted_stable hdep])) i hi
            rw [h]
          clear hdep hsort
          replace BEL := bel_trans BEL bb
          replace J4 := J4.below bb (Nat.le_refl _)
          replace JG := JG.below bb (Nat.le_refl _)
          replace hrow := rowIs_below hrow bb
          clear bb J0 J1 J2 J3 J6
          have ALT : Hid (∀ i, i < n4 → A i < n5) := by
            intro i hi
            obtain ⟨j, hj, e⟩ := HS.mem_same S1.out.2 hi
            rw [← e]
            have h := MR.out j hj
            show (f4 j).toNat < n5
            omega
          go_wp2_with fail
          refine (same_any ag ag2 n4 cg cg2 (fun i => (A i : Int)) (fun i => (A2 i : Int)) wg2 (by omega) JG JG2 EQ.out).mono ?_
          rintro e ws ⟨rfl, q, rfl⟩
          replace BEL := BEL.trans (below_drewN wg2 _ q)
          replace J4 := J4.below (below_drewN wg2 wg2.heap.size q) (Nat.le_refl _)
          replace JG := JG.below (below_drewN wg2 wg2.heap.size q) (Nat.le_refl _)
          replace hrow := rowIs_drewN hrow q
          clear JG2 EQ
          go_wp2_with fail
          refine (permOf_any ag x4 n5 n4 cg y4 A (fun i => (f4 i).toNat) (wg2.drewN q) (by omega) (by omega) JG J4 ALT.out (fun i hi => by have h := MR.out i hi; show (f4 i).toNat < n5; omega) (fun x => HS.cnt_same S1.out.2 x)).mono ?_
          rintro e wp ⟨rfl, bb⟩
          replace BEL := BEL.trans (bb.mono (BEL.size))
          replace JG := JG.below bb (Nat.le_refl _)
          replace hrow := rowIs_below hrow bb
          clear bb J4
          go_wp2_with fail
          refine (nonInc_any ag n5 n4 cg n5 wc5.heap.size A H wp (by omega) JG ALT.out hrow (HS.desc_next S1.out.1)).mono ?_
          rintro e wq ⟨rfl, q2, rfl⟩
          go_wp2
          go_ret
          exact ⟨rfl, BEL.trans (below_drewN _ _ _)⟩

theorem law6_any (a0 : Option Addr) (n0 c0 : Nat) (a1 : Option Addr) (n1 c1 : Nat) (a2 : Option Addr) (n2 c2 : Nat) (a3 : Option Addr) (n3 c3 : Nat) (a4 : Option Addr) (n4 c4 : Nat) (a5 : Option Addr) (n5 c5 : Nat) (s0 s1 : Nat → ByteArray) (f2 f3 f4 f5 : Nat → Int) (w : World) (z0 : a0 = none → n0 = 0) (z1 : a1 = none → n1 = 0) (z2 : a2 = none → n2 = 0) (z3 : a3 = none → n3 = 0) (z4 : a4 = none → n4 = 0) (z5 : a5 = none → n5 = 0) (I0 : Strs w a0 n0 s0) (I1 : Strs w a1 n1 s1) (I2 : Ints w a2 n2 f2) (I3 : Ints w a3 n3 f3) (I4 : Ints w a4 n4 f4) (I5 : Ints w a5 n5 f5) :
    Calls Try.prog 6 #[.slice a0 n0 c0, .slice a1 n1 c1, .slice a2 n2 c2, .slice a3 n3 c3, .slice a4 n4 c4, .slice a5 n5 c5] w fun e w' => e = .returned (.bool true) ∧ Below w.heap.size w w' := by
  by_cases h : 4096 < n0 ∨ 4096 < n1 ∨ 8192 < n2 ∨ 8192 < n3 ∨ 4096 < n4 ∨ 4096 < n5
  · exact law6_long a0 n0 c0 a1 n1 c1 a2 n2 c2 a3 n3 c3 a4 n4 c4 a5 n5 c5 s0 s1 w I0 I1 h
  · exact law6_main a0 n0 c0 a1 n1 c1 a2 n2 c2 a3 n3 c3 a4 n4 c4 a5 n5 c5 s0 s1 f2 f3 f4 f5 w (by omega) z0 (by omega) z1 (by omega) z2 (by omega) z3 (by omega) z4 (by omega) z5 I0 I1 I2 I3 I4 I5
end Go.Proofs.Qxb6605208a
