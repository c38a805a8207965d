import Derived.Test.Qxb6605208aULong
namespace Go.Proofs.Qxb6605208a
open Go.RowKit
open UP (Span PInv Canon IsUnion)

set_option maxRecDepth 100000 in
set_option maxHeartbeats 4000000 in
theorem law_main (a0 : Option Addr) (n0 c0 : Nat) (a1 : Option Addr) (n1 c1 : Nat) (a2 : Option Addr) (n2 c2 : Nat) (a3 : Option Addr) (n3 c3 : Nat) (a4 : Option Addr) (n4 c4 : Nat) (a5 : Option Addr) (n5 c5 : Nat) (w : World) (k0 : n0 ≤ 16384) (z0 : a0 = none → n0 = 0) (f0 : Nat → Int) (v0 : Wf n0 f0) (I0 : Ints w a0 n0 f0) (k1 : n1 ≤ 16384) (z1 : a1 = none → n1 = 0) (f1 : Nat → Int) (v1 : Wf n1 f1) (I1 : Ints w a1 n1 f1) (k2 : n2 ≤ 16384) (z2 : a2 = none → n2 = 0) (f2 : Nat → Int) (v2 : Wf n2 f2) (I2 : Ints w a2 n2 f2) (k3 : n3 ≤ 16384) (z3 : a3 = none → n3 = 0) (f3 : Nat → Int) (v3 : Wf n3 f3) (I3 : Ints w a3 n3 f3) (k4 : n4 ≤ 16384) (z4 : a4 = none → n4 = 0) (f4 : Nat → Int) (v4 : Wf n4 f4) (I4 : Ints w a4 n4 f4) (k5 : n5 ≤ 16384) (z5 : a5 = none → n5 = 0) (f5 : Nat → Int) (v5 : Wf n5 f5) (I5 : Ints w a5 n5 f5) :
    Calls Try.prog 4 #[.slice a0 n0 c0, .slice a1 n1 c1, .slice a2 n2 c2, .slice a3 n3 c3, .slice a4 n4 c4, .slice a5 n5 c5] w fun e w' => e = .returned (.bool true) ∧ Below w.heap.size w w' := by
  have k0' : ¬ (16384 : Int) < (n0 : Int) := by omega
  have k1' : ¬ (16384 : Int) < (n1 : Int) := by omega
  have k2' : ¬ (16384 : Int) < (n2 : Int) := by omega
  have k3' : ¬ (16384 : Int) < (n3 : Int) := by omega
  have k4' : ¬ (16384 : Int) < (n4 : Int) := by omega
  have k5' : ¬ (16384 : Int) < (n5 : Int) := by omega
  go_enter Try.func4, Try.ntmps4
  go_wp2_with fail
  refine (bytes_any a0 a1 a2 a3 a4 a5 n0 c0 n1 c1 n2 c2 n3 c3 n4 c4 n5 c5 _).mono ?_
  rintro e w' ⟨r, rfl, rfl⟩
  cases r
  · go_wp2
    go_ret
    exact ⟨rfl, Below.refl _ _⟩
  go_wp2_with fail
  refine (runsOK_any a0 a1 n0 n1 c0 c1 f0 f1 w' (by omega) v1 I0 I1).mono ?_
  rintro e wr0 ⟨r, rfl, d0, hr0⟩
  have B0 : Below w'.heap.size w' wr0 := d0.below _
  replace I0 := ints_drn I0 d0
  replace I1 := ints_drn I1 d0
  replace I2 := ints_drn I2 d0
  replace I3 := ints_drn I3 d0
  replace I4 := ints_drn I4 d0
  replace I5 := ints_drn I5 d0
  cases r
  · go_wp2_with fail
    go_ret
    exact ⟨rfl, B0⟩
  have hx := hr0 rfl
  clear hr0 d0
  obtain ⟨e0, hx0⟩ := hx
  have C0 := mkRuns_canon hx0 v0
  have E0 : Hid (n0 = n1) := e0
  clear hx0 e0
  go_wp2_with fail
  refine (runsOK_any a2 a3 n2 n3 c2 c3 f2 f3 wr0 (by omega) v3 I2 I3).mono ?_
  rintro e wr1 ⟨r, rfl, d1, hr1⟩
  have B1 : Below w'.heap.size w' wr1 := bel_drn B0 d1
  replace I0 := ints_drn I0 d1
  replace I1 := ints_drn I1 d1
  replace I2 := ints_drn I2 d1
  replace I3 := ints_drn I3 d1
  replace I4 := ints_drn I4 d1
  replace I5 := ints_drn I5 d1
  cases r
  · go_wp2_with fail
    go_ret
    exact ⟨rfl, B1⟩
  have hx := hr1 rfl
  clear hr1 d1
  obtain ⟨e1, hx1⟩ := hx
  have C1 := mkRuns_canon hx1 v2
  have E1 : Hid (n2 = n3) := e1
  clear hx1 e1
  go_wp2_with fail
  refine (runsOK_any a4 a5 n4 n5 c4 c5 f4 f5 wr1 (by omega) v5 I4 I5).mono ?_
  rintro e wr2 ⟨r, rfl, d2, hr2⟩
  have B2 : Below w'.heap.size w' wr2 := bel_drn B1 d2
  replace I0 := ints_drn I0 d2
  replace I1 := ints_drn I1 d2
  replace I2 := ints_drn I2 d2
  replace I3 := ints_drn I3 d2
  replace I4 := ints_drn I4 d2
  replace I5 := ints_drn I5 d2
  cases r
  · go_wp2_with fail
    go_ret
    exact ⟨rfl, B2⟩
  have hx := hr2 rfl
  clear hr2 d2
  obtain ⟨e2, hx2⟩ := hx
  have C2 := mkRuns_canon hx2 v4
  have E2 : Hid (n4 = n5) := e2
  clear hx2 e2
  have BEL := B2
  clear B0 B1 B2
  go_wp2_with fail
  refine (copy_any a0 n0 c0 f0 wr2 (by omega) z0 I0).mono ?_
  rintro e wc0 ⟨x0, y0, rfl, bb, J0⟩
  replace BEL := bel_trans BEL bb
  replace I1 := I1.below bb (Nat.le_refl _)
  replace I2 := I2.below bb (Nat.le_refl _)
  replace I3 := I3.below bb (Nat.le_refl _)
  replace I4 := I4.below bb (Nat.le_refl _)
  replace I5 := I5.below bb (Nat.le_refl _)
  clear bb I0
  go_wp2_with fail
  refine (copy_any a1 n1 c1 f1 wc0 (by omega) z1 I1).mono ?_
  rintro e wc1 ⟨x1, y1, rfl, bb, J1⟩
  replace BEL := bel_trans BEL bb
  replace J0 := J0.below bb (Nat.le_refl _)
  replace I2 := I2.below bb (Nat.le_refl _)
  replace I3 := I3.below bb (Nat.le_refl _)
  replace I4 := I4.below bb (Nat.le_refl _)
  replace I5 := I5.below bb (Nat.le_refl _)
  clear bb I1
  go_wp2_with fail
  refine (copy_any a2 n2 c2 f2 wc1 (by omega) z2 I2).mono ?_
  rintro e wc2 ⟨x2, y2, rfl, bb, J2⟩
  replace BEL := bel_trans BEL bb
  replace J0 := J0.below bb (Nat.le_refl _)
  replace J1 := J1.below bb (Nat.le_refl _)
  replace I3 := I3.below bb (Nat.le_refl _)
  replace I4 := I4.below bb (Nat.le_refl _)
  replace I5 := I5.below bb (Nat.le_refl _)
  clear bb I2
  go_wp2_with fail
  refine (copy_any a3 n3 c3 f3 wc2 (by omega) z3 I3).mono ?_
  rintro e wc3 ⟨x3, y3, rfl, bb, J3⟩
  replace BEL := bel_trans BEL bb
  replace J0 := J0.below bb (Nat.le_refl _)
  replace J1 := J1.below bb (Nat.le_refl _)
  replace J2 := J2.below bb (Nat.le_refl _)
  replace I4 := I4.below bb (Nat.le_refl _)
  replace I5 := I5.below bb (Nat.le_refl _)
  clear bb I3
  go_wp2_with fail
  refine (copy_any a4 n4 c4 f4 wc3 (by omega) z4 I4).mono ?_
  rintro e wc4 ⟨x4, y4, rfl, bb, J4⟩
  replace BEL := bel_trans BEL bb
  replace J0 := J0.below bb (Nat.le_refl _)
  replace J1 := J1.below bb (Nat.le_refl _)
  replace J2 := J2.below bb (Nat.le_refl _)
  replace J3 := J3.below bb (Nat.le_refl _)
  replace I5 := I5.below bb (Nat.le_refl _)
  clear bb I4
  go_wp2_with fail
  refine (copy_any a5 n5 c5 f5 wc4 (by omega) z5 I5).mono ?_
  rintro e wc5 ⟨x5, y5, rfl, bb, J5⟩
  replace BEL := bel_trans BEL bb
  replace J0 := J0.below bb (Nat.le_refl _)
  replace J1 := J1.below bb (Nat.le_refl _)
  replace J2 := J2.below bb (Nat.le_refl _)
  replace J3 := J3.below bb (Nat.le_refl _)
  replace J4 := J4.below bb (Nat.le_refl _)
  clear bb I5
  obtain rfl := E0.out
  obtain rfl := E1.out
  obtain rfl := E2.out
  clear E0 E1 E2
  have F0 := ints_fst f1 J0
  have F1 := ints_snd f0 J1
  have F2 := ints_fst f3 J2
  have F3 := ints_snd f2 J3
  have F4 := ints_fst f5 J4
  have F5 := ints_snd f4 J5
  clear J0 J1 J2 J3 J4 J5
  have L0 : Hid ((mkRuns n0 f0 f1).length = n0) := mkRuns_len _ _ _
  generalize mkRuns n0 f0 f1 = LA at *
  have L1 : Hid ((mkRuns n2 f2 f3).length = n2) := mkRuns_len _ _ _
  generalize mkRuns n2 f2 f3 = LB at *
  have L2 : Hid ((mkRuns n4 f4 f5).length = n4) := mkRuns_len _ _ _
  generalize mkRuns n4 f4 f5 = LC at *
  go_wp2_with fail
  refine (zzunion_at x0 x1 x2 x3 n0 n2 y0 y1 y2 y3 LA LB wc5 L0.out L1.out (by omega) (by omega) C0 C1 F0 F1 F2 F3).mono ?_
  rintro e wuab ⟨Uab, mab, pab, qab, cpab, cqab, rfl, hmab, hUab, bb, Gab, Kab, hlab⟩
  have Nab : Hid (mab = Uab.length) := hmab
  have Sab : mab ≤ n0 + n2 := by omega
  replace BEL := bel_trans BEL bb
  replace F0 := F0.below bb (Nat.le_refl _)
  replace F1 := F1.below bb (Nat.le_refl _)
  replace F2 := F2.below bb (Nat.le_refl _)
  replace F3 := F3.below bb (Nat.le_refl _)
  replace F4 := F4.below bb (Nat.le_refl _)
  replace F5 := F5.below bb (Nat.le_refl _)
  clear bb hmab hlab
  go_wp2_with fail
  refine (zzunion_at x2 x3 x0 x1 n2 n0 y2 y3 y0 y1 LB LA wuab L1.out L0.out (by omega) (by omega) C1 C0 F2 F3 F0 F1).mono ?_
  rintro e wuba ⟨Uba, mba, pba, qba, cpba, cqba, rfl, hmba, hUba, bb, Gba, Kba, hlba⟩
  have Nba : Hid (mba = Uba.length) := hmba
  have Sba : mba ≤ n2 + n0 := by omega
  replace BEL := bel_trans BEL bb
  replace F0 := F0.below bb (Nat.le_refl _)
  replace F1 := F1.below bb (Nat.le_refl _)
  replace F2 := F2.below bb (Nat.le_refl _)
  replace F3 := F3.below bb (Nat.le_refl _)
  replace F4 := F4.below bb (Nat.le_refl _)
  replace F5 := F5.below bb (Nat.le_refl _)
  replace Gab := Gab.below bb (Nat.le_refl _)
  replace Kab := Kab.below bb (Nat.le_refl _)
  clear bb hmba hlba
  go_wp2_with fail
  refine (zzunion_at x0 x1 x0 x1 n0 n0 y0 y1 y0 y1 LA LA wuba L0.out L0.out (by omega) (by omega) C0 C0 F0 F1 F0 F1).mono ?_
  rintro e wuaa ⟨Uaa, maa, paa, qaa, cpaa, cqaa, rfl, hmaa, hUaa, bb, Gaa, Kaa, hlaa⟩
  have Naa : Hid (maa = Uaa.length) := hmaa
  have Saa : maa ≤ n0 + n0 := by omega
  replace BEL := bel_trans BEL bb
  replace F0 := F0.below bb (Nat.le_refl _)
  replace F1 := F1.below bb (Nat.le_refl _)
  replace F2 := F2.below bb (Nat.le_refl _)
  replace F3 := F3.below bb (Nat.le_refl _)
  replace F4 := F4.below bb (Nat.le_refl _)
  replace F5 := F5.below bb (Nat.le_refl _)
  replace Gab := Gab.below bb (Nat.le_refl _)
  replace Kab := Kab.below bb (Nat.le_refl _)
  replace Gba := Gba.below bb (Nat.le_refl _)
  replace Kba := Kba.below bb (Nat.le_refl _)
  clear bb hmaa hlaa
  go_wp2_with fail
  refine (zzunion_at pab qab x4 x5 mab n4 cpab cqab y4 y5 Uab LC wuaa Nab.out.symm L2.out (by omega) (by omega) hUab.1 C2 Gab Kab F4 F5).mono ?_
  rintro e wul ⟨Ul, ml, pl, ql, cpl, cql, rfl, hml, hUl, bb, Gl, Kl, hll⟩
  have Nl : Hid (ml = Ul.length) := hml
  have Sl : ml ≤ mab + n4 := by omega
  replace BEL := bel_trans BEL bb
  replace F0 := F0.below bb (Nat.le_refl _)
  replace F1 := F1.below bb (Nat.le_refl _)
  replace F2 := F2.below bb (Nat.le_refl _)
  replace F3 := F3.below bb (Nat.le_refl _)
  replace F4 := F4.below bb (Nat.le_refl _)
  replace F5 := F5.below bb (Nat.le_refl _)
  replace Gab := Gab.below bb (Nat.le_refl _)
  replace Kab := Kab.below bb (Nat.le_refl _)
  replace Gba := Gba.below bb (Nat.le_refl _)
  replace Kba := Kba.below bb (Nat.le_refl _)
  replace Gaa := Gaa.below bb (Nat.le_refl _)
  replace Kaa := Kaa.below bb (Nat.le_refl _)
  clear bb hml hll
  go_wp2_with fail
  refine (zzunion_at x2 x3 x4 x5 n2 n4 y2 y3 y4 y5 LB LC wul L1.out L2.out (by omega) (by omega) C1 C2 F2 F3 F4 F5).mono ?_
  rintro e wubc ⟨Ubc, mbc, pbc, qbc, cpbc, cqbc, rfl, hmbc, hUbc, bb, Gbc, Kbc, hlbc⟩
  have Nbc : Hid (mbc = Ubc.length) := hmbc
  have Sbc : mbc ≤ n2 + n4 := by omega
  replace BEL := bel_trans BEL bb
  replace F0 := F0.below bb (Nat.le_refl _)
  replace F1 := F1.below bb (Nat.le_refl _)
  replace F2 := F2.below bb (Nat.le_refl _)
  replace F3 := F3.below bb (Nat.le_refl _)
  replace F4 := F4.below bb (Nat.le_refl _)
  replace F5 := F5.below bb (Nat.le_refl _)
  replace Gab := Gab.below bb (Nat.le_refl _)
  replace Kab := Kab.below bb (Nat.le_refl _)
  replace Gba := Gba.below bb (Nat.le_refl _)
  replace Kba := Kba.below bb (Nat.le_refl _)
  replace Gaa := Gaa.below bb (Nat.le_refl _)
  replace Kaa := Kaa.below bb (Nat.le_refl _)
  replace Gl := Gl.below bb (Nat.le_refl _)
  replace Kl := Kl.below bb (Nat.le_refl _)
  clear bb hmbc hlbc
  go_wp2_with fail
  refine (zzunion_at x0 x1 pbc qbc n0 mbc y0 y1 cpbc cqbc LA Ubc wubc L0.out Nbc.out.symm (by omega) (by omega) C0 hUbc.1 F0 F1 Gbc Kbc).mono ?_
  rintro e wur ⟨Ur, mr, pr, qr, cpr, cqr, rfl, hmr, hUr, bb, Gr, Kr, hlr⟩
  have Nr : Hid (mr = Ur.length) := hmr
  have Sr : mr ≤ n0 + mbc := by omega
  replace BEL := bel_trans BEL bb
  replace F0 := F0.below bb (Nat.le_refl _)
  replace F1 := F1.below bb (Nat.le_refl _)
  replace F2 := F2.below bb (Nat.le_refl _)
  replace F3 := F3.below bb (Nat.le_refl _)
  replace F4 := F4.below bb (Nat.le_refl _)
  replace F5 := F5.below bb (Nat.le_refl _)
  replace Gab := Gab.below bb (Nat.le_refl _)
  replace Kab := Kab.below bb (Nat.le_refl _)
  replace Gba := Gba.below bb (Nat.le_refl _)
  replace Kba := Kba.below bb (Nat.le_refl _)
  replace Gaa := Gaa.below bb (Nat.le_refl _)
  replace Kaa := Kaa.below bb (Nat.le_refl _)
  replace Gl := Gl.below bb (Nat.le_refl _)
  replace Kl := Kl.below bb (Nat.le_refl _)
  replace Gbc := Gbc.below bb (Nat.le_refl _)
  replace Kbc := Kbc.below bb (Nat.le_refl _)
  clear bb hmr hlr
  have q1 := UP.union_comm hUab hUba
  have q2 := UP.union_idem C0 hUaa
  have q3 := UP.union_assoc hUab hUl hUbc hUr
  go_wp2_with fail
  refine (same_fst pab pba mab mba cpab cpba Uab Uba wur (by omega) q1 (Nab.out.symm).symm (Nba.out.symm).symm Gab Gba).mono ?_
  rintro e ws1 ⟨rfl, dd⟩
  replace BEL := bel_drn BEL dd
  replace F0 := ints_drn F0 dd
  replace F1 := ints_drn F1 dd
  replace F2 := ints_drn F2 dd
  replace F3 := ints_drn F3 dd
  replace F4 := ints_drn F4 dd
  replace F5 := ints_drn F5 dd
  replace Gab := ints_drn Gab dd
  replace Kab := ints_drn Kab dd
  replace Gba := ints_drn Gba dd
  replace Kba := ints_drn Kba dd
  replace Gaa := ints_drn Gaa dd
  replace Kaa := ints_drn Kaa dd
  replace Gl := ints_drn Gl dd
  replace Kl := ints_drn Kl dd
  replace Gbc := ints_drn Gbc dd
  replace Kbc := ints_drn Kbc dd
  replace Gr := ints_drn Gr dd
  replace Kr := ints_drn Kr dd
  clear dd
  go_wp2_with fail
  refine (same_snd qab qba mab mba cqab cqba Uab Uba ws1 (by omega) q1 (Nab.out.symm).symm (Nba.out.symm).symm Kab Kba).mono ?_
  rintro e ws2 ⟨rfl, dd⟩
  replace BEL := bel_drn BEL dd
  replace F0 := ints_drn F0 dd
  replace F1 := ints_drn F1 dd
  replace F2 := ints_drn F2 dd
  replace F3 := ints_drn F3 dd
  replace F4 := ints_drn F4 dd
  replace F5 := ints_drn F5 dd
  replace Gab := ints_drn Gab dd
  replace Kab := ints_drn Kab dd
  replace Gba := ints_drn Gba dd
  replace Kba := ints_drn Kba dd
  replace Gaa := ints_drn Gaa dd
  replace Kaa := ints_drn Kaa dd
  replace Gl := ints_drn Gl dd
  replace Kl := ints_drn Kl dd
  replace Gbc := ints_drn Gbc dd
  replace Kbc := ints_drn Kbc dd
  replace Gr := ints_drn Gr dd
  replace Kr := ints_drn Kr dd
  clear dd
  go_wp2_with fail
  refine (same_fst paa x0 maa n0 cpaa y0 Uaa LA ws2 (by omega) q2 (Naa.out.symm).symm (L0.out).symm Gaa F0).mono ?_
  rintro e ws3 ⟨rfl, dd⟩
  replace BEL := bel_drn BEL dd
  replace F0 := ints_drn F0 dd
  replace F1 := ints_drn F1 dd
  replace F2 := ints_drn F2 dd
  replace F3 := ints_drn F3 dd
  replace F4 := ints_drn F4 dd
  replace F5 := ints_drn F5 dd
  replace Gab := ints_drn Gab dd
  replace Kab := ints_drn Kab dd
  replace Gba := ints_drn Gba dd
  replace Kba := ints_drn Kba dd
  replace Gaa := ints_drn Gaa dd
  replace Kaa := ints_drn Kaa dd
  replace Gl := ints_drn Gl dd
  replace Kl := ints_drn Kl dd
  replace Gbc := ints_drn Gbc dd
  replace Kbc := ints_drn Kbc dd
  replace Gr := ints_drn Gr dd
  replace Kr := ints_drn Kr dd
  clear dd
  go_wp2_with fail
  refine (same_snd qaa x1 maa n0 cqaa y1 Uaa LA ws3 (by omega) q2 (Naa.out.symm).symm (L0.out).symm Kaa F1).mono ?_
  rintro e ws4 ⟨rfl, dd⟩
  replace BEL := bel_drn BEL dd
  replace F0 := ints_drn F0 dd
  replace F1 := ints_drn F1 dd
  replace F2 := ints_drn F2 dd
  replace F3 := ints_drn F3 dd
  replace F4 := ints_drn F4 dd
  replace F5 := ints_drn F5 dd
  replace Gab := ints_drn Gab dd
  replace Kab := ints_drn Kab dd
  replace Gba := ints_drn Gba dd
  replace Kba := ints_drn Kba dd
  replace Gaa := ints_drn Gaa dd
  replace Kaa := ints_drn Kaa dd
  replace Gl := ints_drn Gl dd
  replace Kl := ints_drn Kl dd
  replace Gbc := ints_drn Gbc dd
  replace Kbc := ints_drn Kbc dd
  replace Gr := ints_drn Gr dd
  replace Kr := ints_drn Kr dd
  clear dd
  go_wp2_with fail
  refine (same_fst pl pr ml mr cpl cpr Ul Ur ws4 (by omega) q3 (Nl.out.symm).symm (Nr.out.symm).symm Gl Gr).mono ?_
  rintro e ws5 ⟨rfl, dd⟩
  replace BEL := bel_drn BEL dd
  replace F0 := ints_drn F0 dd
  replace F1 := ints_drn F1 dd
  replace F2 := ints_drn F2 dd
  replace F3 := ints_drn F3 dd
  replace F4 := ints_drn F4 dd
  replace F5 := ints_drn F5 dd
  replace Gab := ints_drn Gab dd
  replace Kab := ints_drn Kab dd
  replace Gba := ints_drn Gba dd
  replace Kba := ints_drn Kba dd
  replace Gaa := ints_drn Gaa dd
  replace Kaa := ints_drn Kaa dd
  replace Gl := ints_drn Gl dd
  replace Kl := ints_drn Kl dd
  replace Gbc := ints_drn Gbc dd
  replace Kbc := ints_drn Kbc dd
  replace Gr := ints_drn Gr dd
  replace Kr := ints_drn Kr dd
  clear dd
  go_wp2_with fail
  refine (same_snd ql qr ml mr cql cqr Ul Ur ws5 (by omega) q3 (Nl.out.symm).symm (Nr.out.symm).symm Kl Kr).mono ?_
  rintro e ws6 ⟨rfl, dd⟩
  replace BEL := bel_drn BEL dd
  replace F0 := ints_drn F0 dd
  replace F1 := ints_drn F1 dd
  replace F2 := ints_drn F2 dd
  replace F3 := ints_drn F3 dd
  replace F4 := ints_drn F4 dd
  replace F5 := ints_drn F5 dd
  replace Gab := ints_drn Gab dd
  replace Kab := ints_drn Kab dd
  replace Gba := ints_drn Gba dd
  replace Kba := ints_drn Kba dd
  replace Gaa := ints_drn Gaa dd
  replace Kaa := ints_drn Kaa dd
  replace Gl := ints_drn Gl dd
  replace Kl := ints_drn Kl dd
  replace Gbc := ints_drn Gbc dd
  replace Kbc := ints_drn Kbc dd
  replace Gr := ints_drn Gr dd
  replace Kr := ints_drn Kr dd
  clear dd
  go_wp2_with fail
  go_ret
  exact ⟨rfl, BEL⟩

theorem law_any (a0 : Option Addr) (n0 c0 : Nat) (a1 : Option Addr) (n1 c1 : Nat) (a2 : Option Addr) (n2 c2 : Nat) (a3 : Option Addr) (n3 c3 : Nat) (a4 : Option Addr) (n4 c4 : Nat) (a5 : Option Addr) (n5 c5 : Nat) (w : World) (z0 : a0 = none → n0 = 0) (f0 : Nat → Int) (v0 : Wf n0 f0) (I0 : Ints w a0 n0 f0) (z1 : a1 = none → n1 = 0) (f1 : Nat → Int) (v1 : Wf n1 f1) (I1 : Ints w a1 n1 f1) (z2 : a2 = none → n2 = 0) (f2 : Nat → Int) (v2 : Wf n2 f2) (I2 : Ints w a2 n2 f2) (z3 : a3 = none → n3 = 0) (f3 : Nat → Int) (v3 : Wf n3 f3) (I3 : Ints w a3 n3 f3) (z4 : a4 = none → n4 = 0) (f4 : Nat → Int) (v4 : Wf n4 f4) (I4 : Ints w a4 n4 f4) (z5 : a5 = none → n5 = 0) (f5 : Nat → Int) (v5 : Wf n5 f5) (I5 : Ints w a5 n5 f5) :
    Calls Try.prog 4 #[.slice a0 n0 c0, .slice a1 n1 c1, .slice a2 n2 c2, .slice a3 n3 c3, .slice a4 n4 c4, .slice a5 n5 c5] w fun e w' => e = .returned (.bool true) ∧ Below w.heap.size w w' := by
  by_cases h : 16384 < n0 ∨ 16384 < n1 ∨ 16384 < n2 ∨ 16384 < n3 ∨ 16384 < n4 ∨ 16384 < n5
  · exact law_long a0 n0 c0 a1 n1 c1 a2 n2 c2 a3 n3 c3 a4 n4 c4 a5 n5 c5 w h
  · exact law_main a0 n0 c0 a1 n1 c1 a2 n2 c2 a3 n3 c3 a4 n4 c4 a5 n5 c5 w (by omega) z0 f0 v0 I0 (by omega) z1 f1 v1 I1 (by omega) z2 f2 v2 I2 (by omega) z3 f3 v3 I3 (by omega) z4 f4 v4 I4 (by omega) z5 f5 v5 I5
end Go.Proofs.Qxb6605208a
