import Derived.Test.Qxb6605208aUApp
namespace Go.Proofs.Qxb6605208a
open Go.RowKit
open UP (Span PInv Canon IsUnion)

/-- What the merge's loop carries. -/
structure ULoop (w : World) (na nb ca cb ba oa bb ob : Nat) (LA LB : List Span) (g : Nat) (s0 s1 s5 : Value) (wr : World) (i j ra rb ka kb : Nat) (aa ab : Option Addr) (u : List Span) : Prop where
  g : g = ra + rb
  hi : i + ra = na
  hj : j + rb = nb
  hka : i + ka = ca
  hkb : j + kb = cb
  s0 : s0 = .slice aa ra ka
  s1 : s1 = .slice ab rb kb
  haa : 0 < ra → aa = some ⟨ba, oa + i * 2, none⟩
  hab : 0 < rb → ab = some ⟨bb, ob + j * 2, none⟩
  s5 : s5 = .slice (some ⟨w.heap.size, 0, none⟩) u.length (na + nb)
  row : wr.rowIs w.heap.size 41 (2 * (na + nb)) (UF u)
  below : Below w.heap.size w wr
  inv : PInv LA LB i j u

theorem rowIs_drewN {w : World} {b : Nat} {t : TypeId} {n : Nat} {f : Nat → Value} (h : w.rowIs b t n f) (q : Nat) : (w.drewN q).rowIs b t n f := h
theorem bel_drewN {w w' : World} (h : Below w.heap.size w w') (q : Nat) : Below w.heap.size w (w'.drewN q) := h.trans (below_drewN w' _ q)
theorem bel_alloc {w w' : World} (h : Below w.heap.size w w') (o : Obj) : Below w.heap.size w (w'.alloc o) := h.alloc h.size o
theorem bel_grown {w w' w'' : World} {k : Nat} (h : Below w.heap.size w w') (g : w'.grownBy w'' (some k)) (hk : w.heap.size ≤ k) : Below w.heap.size w w'' :=
  h.grown g h.size (fun x e => by cases e; exact hk)

theorem max_if (a b : Int) : (if a < b then b else a) = max a b := by rw [Int.max_def]; split <;> split <;> omega

/-- A's run goes in. -/
theorem inv_new {LA LB : List Span} {na nb i j : Nat} {u : List Span} {fa ta fb tb : Nat → Int} (I : PInv LA LB i j u) (cA : Canon LA) (lA : LA.length = na) (lB : LB.length = nb)
    (eA : ∀ i (h : i < LA.length), LA[i] = (fa i, ta i)) (eB : ∀ i (h : i < LB.length), LB[i] = (fb i, tb i)) (hi : i < na) (hle : j < nb → fa i ≤ fb j)
    (hn : ∀ v p, u = v ++ [p] → p.2 + 1 < fa i) : PInv LA LB (i + 1) j (u ++ [(fa i, ta i)]) := by
  have h := I.takeNew cA (by omega) (fun hj => by rw [eA, eB]; exact hle (by omega)) (fun v p e => by rw [eA]; exact hn v p e)
  rw [eA] at h
  exact h

theorem inv_join {LA LB : List Span} {na nb i j : Nat} {v : List Span} {px py : Int} {fa ta fb tb : Nat → Int} (I : PInv LA LB i j (v ++ [(px, py)])) (cA : Canon LA) (lA : LA.length = na) (lB : LB.length = nb)
    (eA : ∀ i (h : i < LA.length), LA[i] = (fa i, ta i)) (eB : ∀ i (h : i < LB.length), LB[i] = (fb i, tb i)) (hi : i < na) (hle : j < nb → fa i ≤ fb j)
    (hn : fa i ≤ py + 1) {mx : Int} (hm : (if py < ta i then ta i else py) = mx) : PInv LA LB (i + 1) j (v ++ [(px, mx)]) := by
  subst hm
  have h := I.takeJoin cA (by omega) (fun hj => by rw [eA, eB]; exact hle (by omega)) (by rw [eA]; exact hn)
  rw [eA] at h
  rw [max_if]
  exact h

theorem row_join {wr : World} {B cap : Nat} {v : List Span} {px py y : Int} (h : wr.rowIs B 41 (2 * cap) (UF (v ++ [(px, py)]))) :
    (wr.setCell ⟨B, v.length * 2 + 1, none⟩ (.int .i64 y)).rowIs B 41 (2 * cap) (UF (v ++ [(px, y)])) :=
  (h.set (v.length * 2 + 1) _).congr fun j _ => uf_join v (px, py) y j

set_option maxRecDepth 100000 in
set_option maxHeartbeats 4000000 in
theorem union_some (ba oa bb ob na nb ca cb : Nat) (fa ta fb tb : Nat → Int) (LA LB : List Span) (w : World) (hna : 0 < na) (hnb : 0 < nb) (hca : na ≤ ca) (hcb : nb ≤ cb) (ha : na ≤ 1048576) (hb : nb ≤ 1048576)
    (lA : LA.length = na) (lB : LB.length = nb) (cA : Canon LA) (cB : Canon LB)
    (eA : ∀ i (h : i < LA.length), LA[i] = (fa i, ta i)) (eB : ∀ i (h : i < LB.length), LB[i] = (fb i, tb i))
    (hA : ∀ i, i < na → w.cell? ⟨ba, oa + i * 2, none⟩ = some (.int .i64 (fa i)) ∧ w.cell? ⟨ba, oa + i * 2 + 1, none⟩ = some (.int .i64 (ta i)))
    (hB : ∀ i, i < nb → w.cell? ⟨bb, ob + i * 2, none⟩ = some (.int .i64 (fb i)) ∧ w.cell? ⟨bb, ob + i * 2 + 1, none⟩ = some (.int .i64 (tb i))) :
    Calls Try.prog 25 #[.slice (some ⟨ba, oa, none⟩) na ca, .slice (some ⟨bb, ob, none⟩) nb cb] w fun e w' => ∃ u, e = .returned (.slice (some ⟨w.heap.size, 0, none⟩) u.length (na + nb)) ∧ IsUnion LA LB u ∧ Below w.heap.size w w' ∧ w'.rowIs w.heap.size 41 (2 * (na + nb)) (UF u) ∧ u.length ≤ na + nb := by
  have ec : ((na + nb : Nat) : Int) = (na : Int) + (nb : Int) := by omega
  have hmk : ∀ w, (Instr.makeSlice 37 (.int .i64 0) (.int .i64 ((na : Int) + (nb : Int)))).run Try.prog w = .ok (.slice (some ⟨w.heap.size, 0, none⟩) 0 (na + nb)) (w.alloc (.cells (madeCells #[.int .i64 0, .int .i64 0] ((na + nb) * 2)) 41)) := by
    intro w
    rw [← ec]
    exact mk_runs 0 (na + nb) (Nat.zero_le _) (by omega) w
  have hza : ((na : Int) == 0) = false := by rw [beq_eq_false_iff_ne]; omega
  have hzb : ((nb : Int) == 0) = false := by rw [beq_eq_false_iff_ne]; omega
  have HA : Hid (∀ i, i < na → w.cell? ⟨ba, oa + i * 2, none⟩ = some (.int .i64 (fa i)) ∧ w.cell? ⟨ba, oa + i * 2 + 1, none⟩ = some (.int .i64 (ta i))) := hA
  have HB : Hid (∀ i, i < nb → w.cell? ⟨bb, ob + i * 2, none⟩ = some (.int .i64 (fb i)) ∧ w.cell? ⟨bb, ob + i * 2 + 1, none⟩ = some (.int .i64 (tb i))) := hB
  have EA : Hid (∀ i (h : i < LA.length), LA[i] = (fa i, ta i)) := eA
  have EB : Hid (∀ i (h : i < LB.length), LB[i] = (fb i, tb i)) := eB
  have CA : Hid (Canon LA) := cA
  have CB : Hid (Canon LB) := cB
  have NA : Hid (LA.length = na) := lA
  have NB : Hid (LB.length = nb) := lB
  clear hA hB eA eB cA cB lA lB ec
  go_enter Try.func25, Try.ntmps25
  go_wp2
  go_loopg [0, 1, 5] (na + nb) (fun g s0 s1 s5 wr => ∃ i j ra rb ka kb aa ab u, ULoop w na nb ca cb ba oa bb ob LA LB g s0 s1 s5 wr i j ra rb ka kb aa ab u)
  case atStart =>
    refine ⟨0, 0, na, nb, ca, cb, _, _, [], ⟨rfl, by omega, by omega, by omega, by omega, rfl, rfl, fun _ => by simp, fun _ => by simp, rfl, ?_, (Below.refl _ _).alloc (Nat.le_refl _) _, PInv.start _ _⟩⟩
    exact (rowIs_runs w (na + nb)).congr fun i _ => by simp [UF, SF]
  case round =>
    obtain ⟨i, j, ra, rb, ka, kb, aa, ab, u, h⟩ := hrel
    obtain ⟨hg, hi, hj, hka, hkb, rfl, rfl, haa, hab, rfl, hrow, hbel, hinv⟩ := h
    have ROW : Hid (wr.rowIs w.heap.size 41 (2 * (na + nb)) (UF u)) := hrow
    have BEL : Hid (Below w.heap.size w wr) := hbel
    have INV : Hid (PInv LA LB i j u) := hinv
    have hul : u.length ≤ i + j := hinv.len
    have HG : Hid (gk = ra + rb) := hg
    have HAA : Hid (0 < ra → aa = some ⟨ba, oa + i * 2, none⟩) := haa
    have HAB : Hid (0 < rb → ab = some ⟨bb, ob + j * 2, none⟩) := hab
    have EQ : Hid (i + ra = na ∧ j + rb = nb ∧ i + ka = ca ∧ j + kb = cb) := ⟨hi, hj, hka, hkb⟩
    have hi1 : i + ra ≤ na := by omega
    have hi2 : na ≤ i + ra := by omega
    have hj1 : j + rb ≤ nb := by omega
    have hj2 : nb ≤ j + rb := by omega
    have hk1 : ra ≤ ka := by omega
    have hk2 : rb ≤ kb := by omega
    clear hinv hrow hbel hg haa hab hi hj hka hkb
    by_cases hin : 0 < ra
    · by_cases hjn : 0 < rb
      · by_cases hle : fa i ≤ fb j
        · obtain rfl := HAA.out hin
          obtain rfl := HAB.out hjn
          have a0 := (BEL.out.cell (p := ⟨ba, oa + i * 2, none⟩) (World.block_lt_of_cell? w ⟨ba, oa + i * 2, none⟩ (HA.out i (by omega)).1)).trans (HA.out i (by omega)).1
          have a1 := (BEL.out.cell (p := ⟨ba, oa + i * 2 + 1, none⟩) (World.block_lt_of_cell? w ⟨ba, oa + i * 2 + 1, none⟩ (HA.out i (by omega)).2)).trans (HA.out i (by omega)).2
          have la : ba < wr.heap.size := World.block_lt_of_cell? wr ⟨ba, oa + i * 2, none⟩ a0
          have b0 := (BEL.out.cell (p := ⟨bb, ob + j * 2, none⟩) (World.block_lt_of_cell? w ⟨bb, ob + j * 2, none⟩ (HB.out j (by omega)).1)).trans (HB.out j (by omega)).1
          have b1 := (BEL.out.cell (p := ⟨bb, ob + j * 2 + 1, none⟩) (World.block_lt_of_cell? w ⟨bb, ob + j * 2 + 1, none⟩ (HB.out j (by omega)).2)).trans (HB.out j (by omega)).2
          have lb : bb < wr.heap.size := World.block_lt_of_cell? wr ⟨bb, ob + j * 2, none⟩ b0
          have lu : w.heap.size < wr.heap.size := ROW.out.lt
          have p1 : (0 : Int) < (ra : Int) := by omega
          have p2 : (0 : Int) < (rb : Int) := by omega
          have p3 : ((rb : Int) == 0) = false := by rw [beq_eq_false_iff_ne]; omega
          obtain ⟨a2, ha2, HA2⟩ : ∃ a2, (if ka = 1 then some (⟨ba, oa + i * 2, none⟩ : Addr) else some ⟨ba, oa + i * 2 + 2, none⟩) = a2 ∧ Hid (0 < ra - 1 → a2 = some ⟨ba, oa + (i + 1) * 2, none⟩) :=
            ⟨_, rfl, fun h => by rw [if_neg (by omega), show oa + (i + 1) * 2 = oa + i * 2 + 2 by omega]⟩
          clear HAA HAB
          rcases List.eq_nil_or_concat u with rfl | ⟨v, p, rfl⟩
          · clear hmk hul
            go_wp2
            go_quiet (fail)
            go_wp2
            go_region
            go_wp2
            go_quiet (fail)
            go_wp2_with (at_builtin; refine wpList_append_span _ rfl (.tmp 87) (.tmp 89) rfl w.heap.size (na + nb) [] (fa i, ta i) 0 ?_ rfl ⟨wr.heap.size + 1, 0, none⟩ 1 rfl ?_ ?_ ?_ ?_ ?_)
            case refine_1 => simp
            case refine_2 => exact (World.rowIs.alloc (rowIs_drewN (World.rowIs.setOther (World.rowIs.setOther (rowIs_drewN (World.rowIs.alloc ROW.out _) _) (Nat.ne_of_lt lu) _) (Nat.ne_of_lt lu) _) _) _)
            case refine_5 => simp; omega
            intro w1 hr1 hg1
            have BEL1 : Hid (Below w.heap.size w w1) := bel_grown (bel_alloc (bel_drewN (Below.setCell (Below.setCell (bel_drewN (bel_alloc BEL.out _) _) (Nat.le_of_lt lu) _) (Nat.le_of_lt lu) _) _) _) hg1 (Nat.le_refl _)
            have ROW1 : Hid (w1.rowIs w.heap.size 41 (2 * (na + nb)) (UF ([] ++ [(fa i, ta i)]))) := by show World.rowIs _ _ _ _ _; simpa using hr1
            clear hr1 hg1
            go_wp2
            go_roundg (ra - 1 + rb)
            case measure => have := HG.out; omega
            case rel => exact ⟨i + 1, j, ra - 1, rb, ka - 1, kb, a2, _, [] ++ [(fa i, ta i)], ⟨rfl, by have := EQ.out; omega, by have := EQ.out; omega, by have := EQ.out; omega, by have := EQ.out; omega, rfl, rfl, HA2.out, fun _ => rfl, by simp, ROW1.out, BEL1.out, (inv_new INV.out CA.out NA.out NB.out EA.out EB.out (by omega) (fun _ => hle) (fun v p e => by simp at e))⟩⟩
          · obtain ⟨px, py⟩ := p
            rw [List.concat_eq_append] at *
            have lv : v.length + 1 ≤ i + j := by simpa using hul
            have r1 : wr.cell? ⟨w.heap.size, v.length * 2 + 1, none⟩ = some (.int .i64 py) := by
              rw [ROW.out.cell (i := v.length * 2 + 1) (by omega), uf_last]
            have r2 := ROW.out.frozen (v.length * 2 + 1)
            have q1 : -9223372036854775808 ≤ py := by have := INV.out.canon.1 (px, py) (by simp); unfold UP.Fit at this; simp only at this; omega
            have q2 : py ≤ 9223372036854775806 := by have := INV.out.canon.1 (px, py) (by simp); unfold UP.Fit at this; simp only at this; omega
            clear hmk hul
            by_cases hjo : fa i ≤ py + 1
            · obtain ⟨mx, hmx, HMX⟩ : ∃ mx, (if py < ta i then ta i else py) = mx ∧ Hid ((if py < ta i then ta i else py) = mx) := ⟨_, rfl, rfl⟩
              go_wp2
              go_quiet (fail)
              go_wp2
              go_region
              go_wp2
              go_quiet (fail)
              go_wp2
              go_region
              go_wp2
              go_roundg (ra - 1 + rb)
              case measure => have := HG.out; omega
              case rel => exact ⟨i + 1, j, ra - 1, rb, ka - 1, kb, a2, _, v ++ [(px, mx)], ⟨rfl, by have := EQ.out; omega, by have := EQ.out; omega, by have := EQ.out; omega, by have := EQ.out; omega, rfl, rfl, HA2.out, fun _ => rfl, by simp, row_join (rowIs_drewN (World.rowIs.setOther (World.rowIs.setOther (rowIs_drewN (World.rowIs.alloc ROW.out _) _) (Nat.ne_of_lt lu) _) (Nat.ne_of_lt lu) _) _), (Below.setCell (bel_drewN (Below.setCell (Below.setCell (bel_drewN (bel_alloc BEL.out _) _) (Nat.le_of_lt lu) _) (Nat.le_of_lt lu) _) _) (Nat.le_refl _) _), (inv_join INV.out CA.out NA.out NB.out EA.out EB.out (by omega) (fun _ => hle) hjo HMX.out)⟩⟩
            · have hj' : py + 1 < fa i := by omega
              go_wp2
              go_quiet (fail)
              go_wp2
              go_region
              go_wp2
              go_quiet (fail)
              go_wp2_with (at_builtin; refine wpList_append_span _ rfl (.tmp 87) (.tmp 89) rfl w.heap.size (na + nb) (v ++ [(px, py)]) (fa i, ta i) _ ?_ rfl ⟨wr.heap.size + 1, 0, none⟩ 1 rfl ?_ ?_ ?_ ?_ ?_)
              case refine_1 => simp
              case refine_2 => exact (World.rowIs.alloc (rowIs_drewN (World.rowIs.setOther (World.rowIs.setOther (rowIs_drewN (World.rowIs.alloc ROW.out _) _) (Nat.ne_of_lt lu) _) (Nat.ne_of_lt lu) _) _) _)
              case refine_5 => simp; omega
              intro w1 hr1 hg1
              have BEL1 : Hid (Below w.heap.size w w1) := bel_grown (bel_alloc (bel_drewN (Below.setCell (Below.setCell (bel_drewN (bel_alloc BEL.out _) _) (Nat.le_of_lt lu) _) (Nat.le_of_lt lu) _) _) _) hg1 (Nat.le_refl _)
              have ROW1 : Hid (w1.rowIs w.heap.size 41 (2 * (na + nb)) (UF ((v ++ [(px, py)]) ++ [(fa i, ta i)]))) := by show World.rowIs _ _ _ _ _; simpa using hr1
              clear hr1 hg1
              go_wp2
              go_roundg (ra - 1 + rb)
              case measure => have := HG.out; omega
              case rel => exact ⟨i + 1, j, ra - 1, rb, ka - 1, kb, a2, _, (v ++ [(px, py)]) ++ [(fa i, ta i)], ⟨rfl, by have := EQ.out; omega, by have := EQ.out; omega, by have := EQ.out; omega, by have := EQ.out; omega, rfl, rfl, HA2.out, fun _ => rfl, by simp, ROW1.out, BEL1.out, (inv_new INV.out CA.out NA.out NB.out EA.out EB.out (by omega) (fun _ => hle) (fun v' p e => by have e' := List.append_inj_right' e rfl; simp at e'; rw [← e']; exact hj'))⟩⟩
        · have hle' : fb j < fa i := by omega
          obtain rfl := HAA.out hin
          obtain rfl := HAB.out hjn
          have a0 := (BEL.out.cell (p := ⟨ba, oa + i * 2, none⟩) (World.block_lt_of_cell? w ⟨ba, oa + i * 2, none⟩ (HA.out i (by omega)).1)).trans (HA.out i (by omega)).1
          have a1 := (BEL.out.cell (p := ⟨ba, oa + i * 2 + 1, none⟩) (World.block_lt_of_cell? w ⟨ba, oa + i * 2 + 1, none⟩ (HA.out i (by omega)).2)).trans (HA.out i (by omega)).2
          have la : ba < wr.heap.size := World.block_lt_of_cell? wr ⟨ba, oa + i * 2, none⟩ a0
          have b0 := (BEL.out.cell (p := ⟨bb, ob + j * 2, none⟩) (World.block_lt_of_cell? w ⟨bb, ob + j * 2, none⟩ (HB.out j (by omega)).1)).trans (HB.out j (by omega)).1
          have b1 := (BEL.out.cell (p := ⟨bb, ob + j * 2 + 1, none⟩) (World.block_lt_of_cell? w ⟨bb, ob + j * 2 + 1, none⟩ (HB.out j (by omega)).2)).trans (HB.out j (by omega)).2
          have lb : bb < wr.heap.size := World.block_lt_of_cell? wr ⟨bb, ob + j * 2, none⟩ b0
          have lu : w.heap.size < wr.heap.size := ROW.out.lt
          have p1 : (0 : Int) < (ra : Int) := by omega
          have p2 : (0 : Int) < (rb : Int) := by omega
          have p3 : ((rb : Int) == 0) = false := by rw [beq_eq_false_iff_ne]; omega
          obtain ⟨a2, ha2, HA2⟩ : ∃ a2, (if kb = 1 then some (⟨bb, ob + j * 2, none⟩ : Addr) else some ⟨bb, ob + j * 2 + 2, none⟩) = a2 ∧ Hid (0 < rb - 1 → a2 = some ⟨bb, ob + (j + 1) * 2, none⟩) :=
            ⟨_, rfl, fun h => by rw [if_neg (by omega), show ob + (j + 1) * 2 = ob + j * 2 + 2 by omega]⟩
          clear HAA HAB
          rcases List.eq_nil_or_concat u with rfl | ⟨v, p, rfl⟩
          · clear hmk hul
            go_wp2
            go_quiet (fail)
            go_wp2
            go_region
            go_wp2
            go_quiet (fail)
            go_wp2_with (at_builtin; refine wpList_append_span _ rfl (.tmp 87) (.tmp 89) rfl w.heap.size (na + nb) [] (fb j, tb j) 0 ?_ rfl ⟨wr.heap.size + 1, 0, none⟩ 1 rfl ?_ ?_ ?_ ?_ ?_)
            case refine_1 => simp
            case refine_2 => exact (World.rowIs.alloc (rowIs_drewN (World.rowIs.setOther (World.rowIs.setOther (rowIs_drewN (World.rowIs.alloc ROW.out _) _) (Nat.ne_of_lt lu) _) (Nat.ne_of_lt lu) _) _) _)
            case refine_5 => simp; omega
            intro w1 hr1 hg1
            have BEL1 : Hid (Below w.heap.size w w1) := bel_grown (bel_alloc (bel_drewN (Below.setCell (Below.setCell (bel_drewN (bel_alloc BEL.out _) _) (Nat.le_of_lt lu) _) (Nat.le_of_lt lu) _) _) _) hg1 (Nat.le_refl _)
            have ROW1 : Hid (w1.rowIs w.heap.size 41 (2 * (na + nb)) (UF ([] ++ [(fb j, tb j)]))) := by show World.rowIs _ _ _ _ _; simpa using hr1
            clear hr1 hg1
            go_wp2
            go_roundg (ra + (rb - 1))
            case measure => have := HG.out; omega
            case rel => exact ⟨i, j + 1, ra, rb - 1, ka, kb - 1, _, a2, [] ++ [(fb j, tb j)], ⟨rfl, by have := EQ.out; omega, by have := EQ.out; omega, by have := EQ.out; omega, by have := EQ.out; omega, rfl, rfl, fun _ => rfl, HA2.out, by simp, ROW1.out, BEL1.out, (inv_new INV.out.symm CB.out NB.out NA.out EB.out EA.out (by omega) (fun _ => by omega) (fun v p e => by simp at e)).symm⟩⟩
          · obtain ⟨px, py⟩ := p
            rw [List.concat_eq_append] at *
            have lv : v.length + 1 ≤ i + j := by simpa using hul
            have r1 : wr.cell? ⟨w.heap.size, v.length * 2 + 1, none⟩ = some (.int .i64 py) := by
              rw [ROW.out.cell (i := v.length * 2 + 1) (by omega), uf_last]
            have r2 := ROW.out.frozen (v.length * 2 + 1)
            have q1 : -9223372036854775808 ≤ py := by have := INV.out.canon.1 (px, py) (by simp); unfold UP.Fit at this; simp only at this; omega
            have q2 : py ≤ 9223372036854775806 := by have := INV.out.canon.1 (px, py) (by simp); unfold UP.Fit at this; simp only at this; omega
            clear hmk hul
            by_cases hjo : fb j ≤ py + 1
            · obtain ⟨mx, hmx, HMX⟩ : ∃ mx, (if py < tb j then tb j else py) = mx ∧ Hid ((if py < tb j then tb j else py) = mx) := ⟨_, rfl, rfl⟩
              go_wp2
              go_quiet (fail)
              go_wp2
              go_region
              go_wp2
              go_quiet (fail)
              go_wp2
              go_region
              go_wp2
              go_roundg (ra + (rb - 1))
              case measure => have := HG.out; omega
              case rel => exact ⟨i, j + 1, ra, rb - 1, ka, kb - 1, _, a2, v ++ [(px, mx)], ⟨rfl, by have := EQ.out; omega, by have := EQ.out; omega, by have := EQ.out; omega, by have := EQ.out; omega, rfl, rfl, fun _ => rfl, HA2.out, by simp, row_join (rowIs_drewN (World.rowIs.setOther (World.rowIs.setOther (rowIs_drewN (World.rowIs.alloc ROW.out _) _) (Nat.ne_of_lt lu) _) (Nat.ne_of_lt lu) _) _), (Below.setCell (bel_drewN (Below.setCell (Below.setCell (bel_drewN (bel_alloc BEL.out _) _) (Nat.le_of_lt lu) _) (Nat.le_of_lt lu) _) _) (Nat.le_refl _) _), (inv_join INV.out.symm CB.out NB.out NA.out EB.out EA.out (by omega) (fun _ => by omega) hjo HMX.out).symm⟩⟩
            · have hj' : py + 1 < fb j := by omega
              go_wp2
              go_quiet (fail)
              go_wp2
              go_region
              go_wp2
              go_quiet (fail)
              go_wp2_with (at_builtin; refine wpList_append_span _ rfl (.tmp 87) (.tmp 89) rfl w.heap.size (na + nb) (v ++ [(px, py)]) (fb j, tb j) _ ?_ rfl ⟨wr.heap.size + 1, 0, none⟩ 1 rfl ?_ ?_ ?_ ?_ ?_)
              case refine_1 => simp
              case refine_2 => exact (World.rowIs.alloc (rowIs_drewN (World.rowIs.setOther (World.rowIs.setOther (rowIs_drewN (World.rowIs.alloc ROW.out _) _) (Nat.ne_of_lt lu) _) (Nat.ne_of_lt lu) _) _) _)
              case refine_5 => simp; omega
              intro w1 hr1 hg1
              have BEL1 : Hid (Below w.heap.size w w1) := bel_grown (bel_alloc (bel_drewN (Below.setCell (Below.setCell (bel_drewN (bel_alloc BEL.out _) _) (Nat.le_of_lt lu) _) (Nat.le_of_lt lu) _) _) _) hg1 (Nat.le_refl _)
              have ROW1 : Hid (w1.rowIs w.heap.size 41 (2 * (na + nb)) (UF ((v ++ [(px, py)]) ++ [(fb j, tb j)]))) := by show World.rowIs _ _ _ _ _; simpa using hr1
              clear hr1 hg1
              go_wp2
              go_roundg (ra + (rb - 1))
              case measure => have := HG.out; omega
              case rel => exact ⟨i, j + 1, ra, rb - 1, ka, kb - 1, _, a2, (v ++ [(px, py)]) ++ [(fb j, tb j)], ⟨rfl, by have := EQ.out; omega, by have := EQ.out; omega, by have := EQ.out; omega, by have := EQ.out; omega, rfl, rfl, fun _ => rfl, HA2.out, by simp, ROW1.out, BEL1.out, (inv_new INV.out.symm CB.out NB.out NA.out EB.out EA.out (by omega) (fun _ => by omega) (fun v' p e => by have e' := List.append_inj_right' e rfl; simp at e'; rw [← e']; exact hj')).symm⟩⟩
      · obtain rfl : rb = 0 := by omega
        obtain rfl := HAA.out hin
        have a0 := (BEL.out.cell (p := ⟨ba, oa + i * 2, none⟩) (World.block_lt_of_cell? w ⟨ba, oa + i * 2, none⟩ (HA.out i (by omega)).1)).trans (HA.out i (by omega)).1
        have a1 := (BEL.out.cell (p := ⟨ba, oa + i * 2 + 1, none⟩) (World.block_lt_of_cell? w ⟨ba, oa + i * 2 + 1, none⟩ (HA.out i (by omega)).2)).trans (HA.out i (by omega)).2
        have la : ba < wr.heap.size := World.block_lt_of_cell? wr ⟨ba, oa + i * 2, none⟩ a0
        have lu : w.heap.size < wr.heap.size := ROW.out.lt
        have p1 : (0 : Int) < (ra : Int) := by omega
        obtain ⟨a2, ha2, HA2⟩ : ∃ a2, (if ka = 1 then some (⟨ba, oa + i * 2, none⟩ : Addr) else some ⟨ba, oa + i * 2 + 2, none⟩) = a2 ∧ Hid (0 < ra - 1 → a2 = some ⟨ba, oa + (i + 1) * 2, none⟩) :=
          ⟨_, rfl, fun h => by rw [if_neg (by omega), show oa + (i + 1) * 2 = oa + i * 2 + 2 by omega]⟩
        clear HAA HAB
        rcases List.eq_nil_or_concat u with rfl | ⟨v, p, rfl⟩
        · clear hmk hul
          go_wp2
          go_quiet (fail)
          go_wp2
          go_region
          go_wp2
          go_quiet (fail)
          go_wp2_with (at_builtin; refine wpList_append_span _ rfl (.tmp 87) (.tmp 89) rfl w.heap.size (na + nb) [] (fa i, ta i) 0 ?_ rfl ⟨wr.heap.size + 1, 0, none⟩ 1 rfl ?_ ?_ ?_ ?_ ?_)
          case refine_1 => simp
          case refine_2 => exact (World.rowIs.alloc (rowIs_drewN (World.rowIs.setOther (World.rowIs.setOther (rowIs_drewN (World.rowIs.alloc ROW.out _) _) (Nat.ne_of_lt lu) _) (Nat.ne_of_lt lu) _) _) _)
          case refine_5 => simp; omega
          intro w1 hr1 hg1
          have BEL1 : Hid (Below w.heap.size w w1) := bel_grown (bel_alloc (bel_drewN (Below.setCell (Below.setCell (bel_drewN (bel_alloc BEL.out _) _) (Nat.le_of_lt lu) _) (Nat.le_of_lt lu) _) _) _) hg1 (Nat.le_refl _)
          have ROW1 : Hid (w1.rowIs w.heap.size 41 (2 * (na + nb)) (UF ([] ++ [(fa i, ta i)]))) := by show World.rowIs _ _ _ _ _; simpa using hr1
          clear hr1 hg1
          go_wp2
          go_roundg (ra - 1 + 0)
          case measure => have := HG.out; omega
          case rel => exact ⟨i + 1, j, ra - 1, 0, ka - 1, kb, a2, _, [] ++ [(fa i, ta i)], ⟨rfl, by have := EQ.out; omega, by have := EQ.out; omega, by have := EQ.out; omega, by have := EQ.out; omega, rfl, rfl, HA2.out, fun h => by omega, by simp, ROW1.out, BEL1.out, (inv_new INV.out CA.out NA.out NB.out EA.out EB.out (by omega) (fun h => absurd h (by omega)) (fun v p e => by simp at e))⟩⟩
        · obtain ⟨px, py⟩ := p
          rw [List.concat_eq_append] at *
          have lv : v.length + 1 ≤ i + j := by simpa using hul
          have r1 : wr.cell? ⟨w.heap.size, v.length * 2 + 1, none⟩ = some (.int .i64 py) := by
            rw [ROW.out.cell (i := v.length * 2 + 1) (by omega), uf_last]
          have r2 := ROW.out.frozen (v.length * 2 + 1)
          have q1 : -9223372036854775808 ≤ py := by have := INV.out.canon.1 (px, py) (by simp); unfold UP.Fit at this; simp only at this; omega
          have q2 : py ≤ 9223372036854775806 := by have := INV.out.canon.1 (px, py) (by simp); unfold UP.Fit at this; simp only at this; omega
          clear hmk hul
          by_cases hjo : fa i ≤ py + 1
          · obtain ⟨mx, hmx, HMX⟩ : ∃ mx, (if py < ta i then ta i else py) = mx ∧ Hid ((if py < ta i then ta i else py) = mx) := ⟨_, rfl, rfl⟩
            go_wp2
            go_quiet (fail)
            go_wp2
            go_region
            go_wp2
            go_quiet (fail)
            go_wp2
            go_region
            go_wp2
            go_roundg (ra - 1 + 0)
            case measure => have := HG.out; omega
            case rel => exact ⟨i + 1, j, ra - 1, 0, ka - 1, kb, a2, _, v ++ [(px, mx)], ⟨rfl, by have := EQ.out; omega, by have := EQ.out; omega, by have := EQ.out; omega, by have := EQ.out; omega, rfl, rfl, HA2.out, fun h => by omega, by simp, row_join (rowIs_drewN (World.rowIs.setOther (World.rowIs.setOther (rowIs_drewN (World.rowIs.alloc ROW.out _) _) (Nat.ne_of_lt lu) _) (Nat.ne_of_lt lu) _) _), (Below.setCell (bel_drewN (Below.setCell (Below.setCell (bel_drewN (bel_alloc BEL.out _) _) (Nat.le_of_lt lu) _) (Nat.le_of_lt lu) _) _) (Nat.le_refl _) _), (inv_join INV.out CA.out NA.out NB.out EA.out EB.out (by omega) (fun h => absurd h (by omega)) hjo HMX.out)⟩⟩
          · have hj' : py + 1 < fa i := by omega
            go_wp2
            go_quiet (fail)
            go_wp2
            go_region
            go_wp2
            go_quiet (fail)
            go_wp2_with (at_builtin; refine wpList_append_span _ rfl (.tmp 87) (.tmp 89) rfl w.heap.size (na + nb) (v ++ [(px, py)]) (fa i, ta i) _ ?_ rfl ⟨wr.heap.size + 1, 0, none⟩ 1 rfl ?_ ?_ ?_ ?_ ?_)
            case refine_1 => simp
            case refine_2 => exact (World.rowIs.alloc (rowIs_drewN (World.rowIs.setOther (World.rowIs.setOther (rowIs_drewN (World.rowIs.alloc ROW.out _) _) (Nat.ne_of_lt lu) _) (Nat.ne_of_lt lu) _) _) _)
            case refine_5 => simp; omega
            intro w1 hr1 hg1
            have BEL1 : Hid (Below w.heap.size w w1) := bel_grown (bel_alloc (bel_drewN (Below.setCell (Below.setCell (bel_drewN (bel_alloc BEL.out _) _) (Nat.le_of_lt lu) _) (Nat.le_of_lt lu) _) _) _) hg1 (Nat.le_refl _)
            have ROW1 : Hid (w1.rowIs w.heap.size 41 (2 * (na + nb)) (UF ((v ++ [(px, py)]) ++ [(fa i, ta i)]))) := by show World.rowIs _ _ _ _ _; simpa using hr1
            clear hr1 hg1
            go_wp2
            go_roundg (ra - 1 + 0)
            case measure => have := HG.out; omega
            case rel => exact ⟨i + 1, j, ra - 1, 0, ka - 1, kb, a2, _, (v ++ [(px, py)]) ++ [(fa i, ta i)], ⟨rfl, by have := EQ.out; omega, by have := EQ.out; omega, by have := EQ.out; omega, by have := EQ.out; omega, rfl, rfl, HA2.out, fun h => by omega, by simp, ROW1.out, BEL1.out, (inv_new INV.out CA.out NA.out NB.out EA.out EB.out (by omega) (fun h => absurd h (by omega)) (fun v' p e => by have e' := List.append_inj_right' e rfl; simp at e'; rw [← e']; exact hj'))⟩⟩
    · by_cases hjn : 0 < rb
      · obtain rfl : ra = 0 := by omega
        obtain rfl := HAB.out hjn
        have b0 := (BEL.out.cell (p := ⟨bb, ob + j * 2, none⟩) (World.block_lt_of_cell? w ⟨bb, ob + j * 2, none⟩ (HB.out j (by omega)).1)).trans (HB.out j (by omega)).1
        have b1 := (BEL.out.cell (p := ⟨bb, ob + j * 2 + 1, none⟩) (World.block_lt_of_cell? w ⟨bb, ob + j * 2 + 1, none⟩ (HB.out j (by omega)).2)).trans (HB.out j (by omega)).2
        have lb : bb < wr.heap.size := World.block_lt_of_cell? wr ⟨bb, ob + j * 2, none⟩ b0
        have lu : w.heap.size < wr.heap.size := ROW.out.lt
        have p2 : (0 : Int) < (rb : Int) := by omega
        have p3 : ((rb : Int) == 0) = false := by rw [beq_eq_false_iff_ne]; omega
        obtain ⟨a2, ha2, HA2⟩ : ∃ a2, (if kb = 1 then some (⟨bb, ob + j * 2, none⟩ : Addr) else some ⟨bb, ob + j * 2 + 2, none⟩) = a2 ∧ Hid (0 < rb - 1 → a2 = some ⟨bb, ob + (j + 1) * 2, none⟩) :=
          ⟨_, rfl, fun h => by rw [if_neg (by omega), show ob + (j + 1) * 2 = ob + j * 2 + 2 by omega]⟩
        clear HAA HAB
        rcases List.eq_nil_or_concat u with rfl | ⟨v, p, rfl⟩
        · clear hmk hul
          go_wp2
          go_quiet (fail)
          go_wp2
          go_region
          go_wp2
          go_quiet (fail)
          go_wp2_with (at_builtin; refine wpList_append_span _ rfl (.tmp 87) (.tmp 89) rfl w.heap.size (na + nb) [] (fb j, tb j) 0 ?_ rfl ⟨wr.heap.size + 1, 0, none⟩ 1 rfl ?_ ?_ ?_ ?_ ?_)
          case refine_1 => simp
          case refine_2 => exact (World.rowIs.alloc (rowIs_drewN (World.rowIs.setOther (World.rowIs.setOther (rowIs_drewN (World.rowIs.alloc ROW.out _) _) (Nat.ne_of_lt lu) _) (Nat.ne_of_lt lu) _) _) _)
          case refine_5 => simp; omega
          intro w1 hr1 hg1
          have BEL1 : Hid (Below w.heap.size w w1) := bel_grown (bel_alloc (bel_drewN (Below.setCell (Below.setCell (bel_drewN (bel_alloc BEL.out _) _) (Nat.le_of_lt lu) _) (Nat.le_of_lt lu) _) _) _) hg1 (Nat.le_refl _)
          have ROW1 : Hid (w1.rowIs w.heap.size 41 (2 * (na + nb)) (UF ([] ++ [(fb j, tb j)]))) := by show World.rowIs _ _ _ _ _; simpa using hr1
          clear hr1 hg1
          go_wp2
          go_roundg (0 + (rb - 1))
          case measure => have := HG.out; omega
          case rel => exact ⟨i, j + 1, 0, rb - 1, ka, kb - 1, _, a2, [] ++ [(fb j, tb j)], ⟨rfl, by have := EQ.out; omega, by have := EQ.out; omega, by have := EQ.out; omega, by have := EQ.out; omega, rfl, rfl, fun h => by omega, HA2.out, by simp, ROW1.out, BEL1.out, (inv_new INV.out.symm CB.out NB.out NA.out EB.out EA.out (by omega) (fun h => absurd h (by omega)) (fun v p e => by simp at e)).symm⟩⟩
        · obtain ⟨px, py⟩ := p
          rw [List.concat_eq_append] at *
          have lv : v.length + 1 ≤ i + j := by simpa using hul
          have r1 : wr.cell? ⟨w.heap.size, v.length * 2 + 1, none⟩ = some (.int .i64 py) := by
            rw [ROW.out.cell (i := v.length * 2 + 1) (by omega), uf_last]
          have r2 := ROW.out.frozen (v.length * 2 + 1)
          have q1 : -9223372036854775808 ≤ py := by have := INV.out.canon.1 (px, py) (by simp); unfold UP.Fit at this; simp only at this; omega
          have q2 : py ≤ 9223372036854775806 := by have := INV.out.canon.1 (px, py) (by simp); unfold UP.Fit at this; simp only at this; omega
          clear hmk hul
          by_cases hjo : fb j ≤ py + 1
          · obtain ⟨mx, hmx, HMX⟩ : ∃ mx, (if py < tb j then tb j else py) = mx ∧ Hid ((if py < tb j then tb j else py) = mx) := ⟨_, rfl, rfl⟩
            go_wp2
            go_quiet (fail)
            go_wp2
            go_region
            go_wp2
            go_quiet (fail)
            go_wp2
            go_region
            go_wp2
            go_roundg (0 + (rb - 1))
            case measure => have := HG.out; omega
            case rel => exact ⟨i, j + 1, 0, rb - 1, ka, kb - 1, _, a2, v ++ [(px, mx)], ⟨rfl, by have := EQ.out; omega, by have := EQ.out; omega, by have := EQ.out; omega, by have := EQ.out; omega, rfl, rfl, fun h => by omega, HA2.out, by simp, row_join (rowIs_drewN (World.rowIs.setOther (World.rowIs.setOther (rowIs_drewN (World.rowIs.alloc ROW.out _) _) (Nat.ne_of_lt lu) _) (Nat.ne_of_lt lu) _) _), (Below.setCell (bel_drewN (Below.setCell (Below.setCell (bel_drewN (bel_alloc BEL.out _) _) (Nat.le_of_lt lu) _) (Nat.le_of_lt lu) _) _) (Nat.le_refl _) _), (inv_join INV.out.symm CB.out NB.out NA.out EB.out EA.out (by omega) (fun h => absurd h (by omega)) hjo HMX.out).symm⟩⟩
          · have hj' : py + 1 < fb j := by omega
            go_wp2
            go_quiet (fail)
            go_wp2
            go_region
            go_wp2
            go_quiet (fail)
            go_wp2_with (at_builtin; refine wpList_append_span _ rfl (.tmp 87) (.tmp 89) rfl w.heap.size (na + nb) (v ++ [(px, py)]) (fb j, tb j) _ ?_ rfl ⟨wr.heap.size + 1, 0, none⟩ 1 rfl ?_ ?_ ?_ ?_ ?_)
            case refine_1 => simp
            case refine_2 => exact (World.rowIs.alloc (rowIs_drewN (World.rowIs.setOther (World.rowIs.setOther (rowIs_drewN (World.rowIs.alloc ROW.out _) _) (Nat.ne_of_lt lu) _) (Nat.ne_of_lt lu) _) _) _)
            case refine_5 => simp; omega
            intro w1 hr1 hg1
            have BEL1 : Hid (Below w.heap.size w w1) := bel_grown (bel_alloc (bel_drewN (Below.setCell (Below.setCell (bel_drewN (bel_alloc BEL.out _) _) (Nat.le_of_lt lu) _) (Nat.le_of_lt lu) _) _) _) hg1 (Nat.le_refl _)
            have ROW1 : Hid (w1.rowIs w.heap.size 41 (2 * (na + nb)) (UF ((v ++ [(px, py)]) ++ [(fb j, tb j)]))) := by show World.rowIs _ _ _ _ _; simpa using hr1
            clear hr1 hg1
            go_wp2
            go_roundg (0 + (rb - 1))
            case measure => have := HG.out; omega
            case rel => exact ⟨i, j + 1, 0, rb - 1, ka, kb - 1, _, a2, (v ++ [(px, py)]) ++ [(fb j, tb j)], ⟨rfl, by have := EQ.out; omega, by have := EQ.out; omega, by have := EQ.out; omega, by have := EQ.out; omega, rfl, rfl, fun h => by omega, HA2.out, by simp, ROW1.out, BEL1.out, (inv_new INV.out.symm CB.out NB.out NA.out EB.out EA.out (by omega) (fun h => absurd h (by omega)) (fun v' p e => by have e' := List.append_inj_right' e rfl; simp at e'; rw [← e']; exact hj')).symm⟩⟩
      · obtain rfl : ra = 0 := by omega
        obtain rfl : rb = 0 := by omega
        have hfin : IsUnion LA LB u := by
          have h := INV.out
          obtain ⟨e1, e2, _⟩ := EQ.out
          have n1 := NA.out
          have n2 := NB.out
          obtain rfl : i = LA.length := by omega
          obtain rfl : j = LB.length := by omega
          exact h.done
        have FIN : Hid (IsUnion LA LB u) := hfin
        clear hfin hmk
        go_wp2
        go_ret
        exact ⟨u, rfl, FIN.out, BEL.out, ROW.out, by omega⟩
end Go.Proofs.Qxb6605208a
