import Derived.Test.Qxb6605208aHLong5
namespace Go.Proofs.Qxb6605208a
open Go.RowKit
open HP (WOK IsH)

set_option maxRecDepth 100000 in
set_option maxHeartbeats 4000000 in
theorem law5_main (a0 : Option Addr) (n0 c0 : Nat) (a1 : Option Addr) (n1 c1 : Nat) (a2 : Option Addr) (n2 c2 : Nat) (a3 : Option Addr) (n3 c3 : Nat) (a4 : Option Addr) (n4 c4 : Nat) (a5 : Option Addr) (n5 c5 : Nat) (s0 s1 : Nat → ByteArray) (f2 f3 f4 f5 : Nat → Int) (w : World) (k0 : n0 ≤ 4096) (z0 : a0 = none → n0 = 0) (k1 : n1 ≤ 4096) (z1 : a1 = none → n1 = 0) (k2 : n2 ≤ 8192) (z2 : a2 = none → n2 = 0) (k3 : n3 ≤ 8192) (z3 : a3 = none → n3 = 0) (k4 : n4 ≤ 4096) (z4 : a4 = none → n4 = 0) (k5 : n5 ≤ 4096) (z5 : a5 = none → n5 = 0) (I0 : Strs w a0 n0 s0) (I1 : Strs w a1 n1 s1) (I2 : Ints w a2 n2 f2) (I3 : Ints w a3 n3 f3) (I4 : Ints w a4 n4 f4) (I5 : Ints w a5 n5 f5) :
    Calls Try.prog 5 #[.slice a0 n0 c0, .slice a1 n1 c1, .slice a2 n2 c2, .slice a3 n3 c3, .slice a4 n4 c4, .slice a5 n5 c5] w fun e w' => e = .returned (.bool true) ∧ Below w.heap.size w w' := by
  have k0' : decide ((4096 : Int) < (n0 : Int)) = false := decide_eq_false (by omega)
  have k1' : decide ((4096 : Int) < (n1 : Int)) = false := decide_eq_false (by omega)
  have k2' : decide ((8192 : Int) < (n2 : Int)) = false := decide_eq_false (by omega)
  have k3' : decide ((8192 : Int) < (n3 : Int)) = false := decide_eq_false (by omega)
  have k4' : decide ((4096 : Int) < (n4 : Int)) = false := decide_eq_false (by omega)
  have k5' : decide ((4096 : Int) < (n5 : Int)) = false := decide_eq_false (by omega)
  have Z0 : Hid (a0 = none → n0 = 0) := z0
  have Z1 : Hid (a1 = none → n1 = 0) := z1
  have Z2 : Hid (a2 = none → n2 = 0) := z2
  have Z3 : Hid (a3 = none → n3 = 0) := z3
  have Z4 : Hid (a4 = none → n4 = 0) := z4
  have Z5 : Hid (a5 = none → n5 = 0) := z5
  clear z0 z1 z2 z3 z4 z5
  go_enter Try.func5, Try.ntmps5
  go_wp2_with fail
  refine (some15 a0 a1 a2 a3 a4 a5 n0 c0 n1 c1 n2 c2 n3 c3 n4 c4 n5 c5 s0 s1 _ I0 I1).mono ?_
  rintro e w' ⟨r, rfl, rfl⟩
  cases r
  · go_wp2
    go_ret
    exact ⟨rfl, Below.refl _ _⟩
  go_wp2_with fail
  refine (some16 a0 a1 a2 a3 a4 a5 n0 c0 n1 c1 n2 c2 n3 c3 n4 c4 n5 c5 s0 s1 _ k0 k1 k2 k3 k4 k5 I0 I1).mono ?_
  rintro e w ⟨r, rfl, rfl⟩
  cases r
  · go_wp2
    go_ret
    exact ⟨rfl, Below.refl _ _⟩
  go_wp2_with fail
  refine (dom_any a0 a1 a2 a3 a4 a5 n0 c0 n1 c1 n2 c2 n3 c3 n4 c4 n5 c5 f2 f3 f4 f5 w k0 k2 k3 k4 I2 I3 I4 I5).mono ?_
  rintro e wd ⟨r, rfl, bb, hr⟩
  have BEL := bb
  replace I0 := I0.below bb (Nat.le_refl _)
  replace I1 := I1.below bb (Nat.le_refl _)
  replace I2 := I2.below bb (Nat.le_refl _)
  replace I3 := I3.below bb (Nat.le_refl _)
  replace I4 := I4.below bb (Nat.le_refl _)
  replace I5 := I5.below bb (Nat.le_refl _)
  clear bb
  cases r
  · clear hr
    go_wp2
    go_ret
    exact ⟨rfl, BEL⟩
  have hx := hr rfl
  clear hr
  obtain ⟨e1, e5, mr, gok, wr, wok⟩ := hx
  have E1 : Hid (n1 = n0) := e1
  have E5 : Hid (n5 = n0) := e5
  have MR : Hid (∀ i, i < n4 → 0 ≤ f4 i ∧ f4 i < n0) := mr
  have WR : Hid (∀ i, i < n0 → 0 ≤ f5 i ∧ f5 i < n0) := wr
  have GOKH : Hid (GOK n0 n2 n3 f2 f3) := gok
  have WOKH : Hid (WOK n0 (cntN n2 f2) (parN n2 f2 f3) (fun i => (f5 i).toNat) n0) := wok
  clear e1 e5 mr gok wr wok
  go_wp2_with fail
  refine (copyS_any a0 n0 c0 s0 wd (by omega) Z0.out I0).mono ?_
  rintro e wc0 ⟨x0, y0, rfl, bb, J0⟩
  replace BEL := bel_trans BEL bb
  replace I1 := I1.below bb (Nat.le_refl _)
  replace I2 := I2.below bb (Nat.le_refl _)
  replace I3 := I3.below bb (Nat.le_refl _)
  replace I4 := I4.below bb (Nat.le_refl _)
  replace I5 := I5.below bb (Nat.le_refl _)
  clear bb I0
  go_wp2_with fail
  refine (copyS_any a1 n1 c1 s1 wc0 (by omega) Z1.out I1).mono ?_
  rintro e wc1 ⟨x1, y1, rfl, bb, J1⟩
  replace BEL := bel_trans BEL bb
  replace J0 := J0.below bb (Nat.le_refl _)
  replace I2 := I2.below bb (Nat.le_refl _)
  replace I3 := I3.below bb (Nat.le_refl _)
  replace I4 := I4.below bb (Nat.le_refl _)
  replace I5 := I5.below bb (Nat.le_refl _)
  clear bb I1
  go_wp2_with fail
  refine (copy_cap a2 n2 c2 f2 wc1 (by omega) Z2.out I2).mono ?_
  rintro e wc2 ⟨x2, y2, rfl, cy2, bb, J2⟩
  replace BEL := bel_trans BEL bb
  replace J0 := J0.below bb (Nat.le_refl _)
  replace J1 := J1.below bb (Nat.le_refl _)
  replace I3 := I3.below bb (Nat.le_refl _)
  replace I4 := I4.below bb (Nat.le_refl _)
  replace I5 := I5.below bb (Nat.le_refl _)
  clear bb I2
  go_wp2_with fail
  refine (copy_cap a3 n3 c3 f3 wc2 (by omega) Z3.out I3).mono ?_
  rintro e wc3 ⟨x3, y3, rfl, cy3, bb, J3⟩
  replace BEL := bel_trans BEL bb
  replace J0 := J0.below bb (Nat.le_refl _)
  replace J1 := J1.below bb (Nat.le_refl _)
  replace J2 := J2.below bb (Nat.le_refl _)
  replace I4 := I4.below bb (Nat.le_refl _)
  replace I5 := I5.below bb (Nat.le_refl _)
  clear bb I3
  go_wp2_with fail
  refine (copy_cap a4 n4 c4 f4 wc3 (by omega) Z4.out I4).mono ?_
  rintro e wc4 ⟨x4, y4, rfl, cy4, bb, J4⟩
  replace BEL := bel_trans BEL bb
  replace J0 := J0.below bb (Nat.le_refl _)
  replace J1 := J1.below bb (Nat.le_refl _)
  replace J2 := J2.below bb (Nat.le_refl _)
  replace J3 := J3.below bb (Nat.le_refl _)
  replace I5 := I5.below bb (Nat.le_refl _)
  clear bb I4
  go_wp2_with fail
  refine (copy_cap a5 n5 c5 f5 wc4 (by omega) Z5.out I5).mono ?_
  rintro e wc5 ⟨x5, y5, rfl, cy5, bb, J5⟩
  replace BEL := bel_trans BEL bb
  replace J0 := J0.below bb (Nat.le_refl _)
  replace J1 := J1.below bb (Nat.le_refl _)
  replace J2 := J2.below bb (Nat.le_refl _)
  replace J3 := J3.below bb (Nat.le_refl _)
  replace J4 := J4.below bb (Nat.le_refl _)
  clear bb I5
  obtain rfl := E1.out
  obtain rfl := E5.out
  clear E1 E5 k1' k5'
  obtain ⟨H, isH, hb⟩ := HP.isH_exists WOKH.out
  have ISH : Hid (IsH n5 (cntN n2 f2) (parN n2 f2 f3) H) := isH
  have HBD : Hid (∀ k, H k ≤ n5) := hb
  clear isH hb
  replace J4 := ints_nat J4 MR.out
  replace J5 := ints_nat J5 WR.out
  go_wp2_with fail
  refine (zzhf_any x0 x1 x2 x3 x4 x5 n5 n2 n3 n4 n5 y0 y1 y2 y3 y4 y5 s0 s1 f2 f3 (fun i => (f4 i).toNat) (fun i => (f5 i).toNat) H wc5 J0 J1 J2 J3 J4 J5 (by omega) (by omega) (by omega) (by omega) (by omega) cy3 GOKH.out
    (fun i hi => by have h := MR.out i hi; show (f4 i).toNat < n5; omega) WOKH.out ISH.out (fun k => Nat.le_trans (HBD.out k) (by omega))).mono ?_
  rintro e wz ⟨ag, cg, A, dep, hh, rfl, bb, JG, hdep, hsort⟩
  have SORT : Hid ((∀ i, i < n4 → H ((f4 i).toNat) + dep i = hh) ∧ HS.lst n4 A = HS.sorted dep (fun i => (f4 i).toNat) n4 (hh + 1)) := ⟨hdep, hsort⟩
  clear hdep hsort
  replace BEL := bel_trans BEL bb
  replace J2 := J2.below bb (Nat.le_refl _)
  replace J3 := J3.below bb (Nat.le_refl _)
  replace J4 := J4.below bb (Nat.le_refl _)
  clear bb J0 J1 J5
  go_wp2_with fail
  refine (heights_any n5 n2 n3 y2 y3 x2 x3 f2 f3 H wz J2 J3 (by omega) (by omega) (by omega) GOKH.out ISH.out HBD.out).mono ?_
  rintro e wh ⟨rfl, bb, hrow⟩
  replace BEL := bel_trans BEL bb
  replace JG := JG.below bb (Nat.le_refl _)
  replace J4 := J4.below bb (Nat.le_refl _)
  clear bb J2 J3
  go_wp2_with fail
  refine (byHeight_any n5 n4 y4 wz.heap.size n5 x4 (fun i => (f4 i).toNat) H wh J4 hrow (by omega) (fun i hi => by have h := MR.out i hi; show (f4 i).toNat < n5; omega)).mono ?_
  rintro e wb ⟨o, rfl, bb, orow, oi, od⟩
  have EQ : Hid (∀ i, i < n4 → (A i : Int) = (o i : Int)) := by
    intro i hi
    have h := lst_inj (SORT.out.2.trans (HS.sorted_eq SORT.out.1 od oi.fil)) i hi
    rw [h]
  replace BEL := bel_trans BEL bb
  replace JG := JG.below bb (Nat.le_refl _)
  clear bb J4 oi od hrow
  go_wp2_with fail
  refine (same_any ag (some ⟨wh.heap.size, 0, none⟩) n4 cg n4 (fun i => (A i : Int)) (fun i => (o i : Int)) wb (by omega) JG (ints_of_row orow) EQ.out).mono ?_
  rintro e ws ⟨rfl, q, rfl⟩
  go_wp2
  go_ret
  exact ⟨rfl, BEL.trans (below_drewN _ _ _)⟩

theorem law5_any (a0 : Option Addr) (n0 c0 : Nat) (a1 : Option Addr) (n1 c1 : Nat) (a2 : Option Addr) (n2 c2 : Nat) (a3 : Option Addr) (n3 c3 : Nat) (a4 : Option Addr) (n4 c4 : Nat) (a5 : Option Addr) (n5 c5 : Nat) (s0 s1 : Nat → ByteArray) (f2 f3 f4 f5 : Nat → Int) (w : World) (z0 : a0 = none → n0 = 0) (z1 : a1 = none → n1 = 0) (z2 : a2 = none → n2 = 0) (z3 : a3 = none → n3 = 0) (z4 : a4 = none → n4 = 0) (z5 : a5 = none → n5 = 0) (I0 : Strs w a0 n0 s0) (I1 : Strs w a1 n1 s1) (I2 : Ints w a2 n2 f2) (I3 : Ints w a3 n3 f3) (I4 : Ints w a4 n4 f4) (I5 : Ints w a5 n5 f5) :
    Calls Try.prog 5 #[.slice a0 n0 c0, .slice a1 n1 c1, .slice a2 n2 c2, .slice a3 n3 c3, .slice a4 n4 c4, .slice a5 n5 c5] w fun e w' => e = .returned (.bool true) ∧ Below w.heap.size w w' := by
  by_cases h : 4096 < n0 ∨ 4096 < n1 ∨ 8192 < n2 ∨ 8192 < n3 ∨ 4096 < n4 ∨ 4096 < n5
  · exact law5_long a0 n0 c0 a1 n1 c1 a2 n2 c2 a3 n3 c3 a4 n4 c4 a5 n5 c5 s0 s1 w I0 I1 h
  · exact law5_main a0 n0 c0 a1 n1 c1 a2 n2 c2 a3 n3 c3 a4 n4 c4 a5 n5 c5 s0 s1 f2 f3 f4 f5 w (by omega) z0 (by omega) z1 (by omega) z2 (by omega) z3 (by omega) z4 (by omega) z5 I0 I1 I2 I3 I4 I5
end Go.Proofs.Qxb6605208a
