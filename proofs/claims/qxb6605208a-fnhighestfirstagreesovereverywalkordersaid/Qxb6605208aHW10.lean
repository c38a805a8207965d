import Derived.Test.Qxb6605208aHPre
import Derived.Test.Qxb6605208aHPerm
namespace Go.Proofs.Qxb6605208a
open Go.RowKit

/-! ### zzNonIncreasing -/

set_option maxHeartbeats 1000000 in
theorem nonInc_some (b o n m c ch bh : Nat) (A H : Nat → Nat) (w : World) (hm : m ≤ 4096) (hA : ∀ i, i < m → w.cell? ⟨b, o + i, none⟩ = some (.int .i64 (A i : Int))) (lt : ∀ i, i < m → A i < n)
    (hH : w.rowIs bh 3 n (fun j => .int .i64 (H j : Int))) (hd : ∀ i, i + 1 < m → H (A (i + 1)) ≤ H (A i)) :
    Calls Try.prog 24 #[.slice (some ⟨b, o, none⟩) m c, .slice (some ⟨bh, 0, none⟩) n ch] w fun e w' => e = .returned (.bool true) ∧ Drn w w' := by
  have HA : Hid (∀ i, i < m → w.cell? ⟨b, o + i, none⟩ = some (.int .i64 (A i : Int))) := hA
  have LT : Hid (∀ i, i < m → A i < n) := lt
  have HD : Hid (∀ i, i + 1 < m → H (A (i + 1)) ≤ H (A i)) := hd
  have HH : Hid (w.rowIs bh 3 n (fun j => .int .i64 (H j : Int))) := hH
  clear hA lt hd hH
  go_enter Try.func24, Try.ntmps24
  go_wp2
  go_loopg [5] m (fun g s wr => ∃ i : Nat, i + g = m ∧ s = .int .i64 ((i + 1 : Nat) : Int) ∧ Drn w wr)
  case atStart => exact ⟨0, by omega, rfl, Drn.refl _⟩
  case round =>
    obtain ⟨i, hi, rfl, q, rfl⟩ := hrel
    have hq : Drn w (w.drewN q) := Drn.mk w q
    by_cases hlt : i + 1 < m
    · have t1 : ((i + 1 : Nat) : Int) < (m : Int) := by omega
      have t0 : (i : Int) < (m : Int) := by omega
      have c0 := HA.out i (by omega)
      have c1 := HA.out (i + 1) hlt
      have l0 := LT.out i (by omega)
      have l1 := LT.out (i + 1) hlt
      have e0 := HH.out.cell l0
      have e1 := HH.out.cell l1
      have l0' : (A i : Int) < (n : Int) := by omega
      have l1' : (A (i + 1) : Int) < (n : Int) := by omega
      have hdd := HD.out i hlt
      have hdf : decide (H (A i) < H (A (i + 1))) = false := decide_eq_false (by omega)
      go_wp2
      go_quiet (fail)
      go_wp2
      go_roundg (m - (i + 1))
      case measure => omega
      case rel => exact ⟨i + 1, by omega, by go_num, by repeat (first | exact hq | exact Drn.refl _ | apply Drn.step | apply Drn.drew)⟩
    · go_wp2
      go_ret
      exact ⟨rfl, hq⟩

theorem nonInc_zero (a : Option Addr) (n c ch bh : Nat) (w : World) :
    Calls Try.prog 24 #[.slice a 0 c, .slice (some ⟨bh, 0, none⟩) n ch] w fun e w' => e = .returned (.bool true) ∧ w' = w := by
  go_enter Try.func24, Try.ntmps24
  go_wp2
  refine wp_loop_rounds 1 ?_
  rw [rounds_succ]
  go_wp2
  go_ret
  exact ⟨rfl, rfl⟩

theorem nonInc_any (a : Option Addr) (n m c ch bh : Nat) (A H : Nat → Nat) (w : World) (hm : m ≤ 4096) (hA : Ints w a m (fun i => (A i : Int))) (lt : ∀ i, i < m → A i < n)
    (hH : w.rowIs bh 3 n (fun j => .int .i64 (H j : Int))) (hd : ∀ i, i + 1 < m → H (A (i + 1)) ≤ H (A i)) :
    Calls Try.prog 24 #[.slice a m c, .slice (some ⟨bh, 0, none⟩) n ch] w fun e w' => e = .returned (.bool true) ∧ Drn w w' := by
  rcases hA with h0 | ⟨b, o, rfl, hA⟩
  · subst h0
    exact (nonInc_zero a n c ch bh w).mono fun e w' ⟨he, hw⟩ => ⟨he, hw ▸ Drn.refl _⟩
  · exact nonInc_some b o n m c ch bh A H w hm hA lt hH hd

/-! ### zzPermOf -/

theorem inc_row (M : Nat → Nat) (k x v : Nat) (e : M k = v) : (if x = v then Value.int .i64 ((HS.cnt M k v : Int) + 1) else Value.int .i64 (HS.cnt M k x : Int)) = Value.int .i64 (HS.cnt M (k + 1) x : Int) := by
  by_cases h : x = v
  · subst h; simp [HS.cnt, e]
  · simp [h, HS.cnt, e, show ¬ v = x from fun h' => h h'.symm]

theorem dec_row (A : Nat → Nat) (T : Nat → Nat) (k x v : Nat) (e : A k = v) : (if x = v then Value.int .i64 ((T v : Int) - (HS.cnt A k v : Int) - 1) else Value.int .i64 ((T x : Int) - (HS.cnt A k x : Int))) = Value.int .i64 ((T x : Int) - (HS.cnt A (k + 1) x : Int)) := by
  by_cases h : x = v
  · subst h; simp only [HS.cnt, e, if_true]; congr 1; omega
  · simp [h, HS.cnt, e, show ¬ v = x from fun h' => h h'.symm]

set_option maxRecDepth 100000 in
set_option maxHeartbeats 2000000 in
theorem permOf_any (a a4 : Option Addr) (n m c c4 : Nat) (A M : Nat → Nat) (w : World) (hn : n ≤ 4096) (hm : m ≤ 4096) (hA : Ints w a m (fun i => (A i : Int))) (hM : Ints w a4 m (fun i => (M i : Int))) (ltA : ∀ i, i < m → A i < n) (ltM : ∀ i, i < m → M i < n)
    (hs : ∀ x, HS.cnt A m x = HS.cnt M m x) :
    Calls Try.prog 23 #[.slice a m c, .slice a4 m c4, .int .i64 n] w fun e w' => e = .returned (.bool true) ∧ Below w.heap.size w w' := by
  have HA : Hid (Ints w a m (fun i => (A i : Int))) := hA
  have HM : Hid (Ints w a4 m (fun i => (M i : Int))) := hM
  have LA : Hid (∀ i, i < m → A i < n) := ltA
  have LM : Hid (∀ i, i < m → M i < n) := ltM
  have HSM : Hid (∀ x, HS.cnt A m x = HS.cnt M m x) := hs
  clear hA hM ltA ltM hs
  have hne : ((m : Int) != (m : Int)) = false := by simp
  have hmk := run_make_row' (P := Try.prog) 22 3 (.int .i64 0) 8 Try.underlying22 Try.info3 rfl .i64 .i64 n (by omega) (by omega)
  go_enter Try.func23, Try.ntmps23
  go_wp2
  clear hmk
  go_loopg [8] m (fun g i wr => ∃ k : Nat, k + g = m ∧ i = .int .i64 k ∧ Below w.heap.size w wr ∧ wr.rowIs w.heap.size 3 n (fun x => .int .i64 (HS.cnt M k x : Int)))
  case atStart => exact ⟨0, by omega, rfl, (Below.refl _ _).alloc (Nat.le_refl _) _, (World.rowIs_made w (.int .i64 0) n 3).congr fun x _ => rfl⟩
  case round =>
    obtain ⟨k, hk, rfl, hb, hr⟩ := hrel
    have BEL : Hid (Below w.heap.size w wr) := hb
    have ROW : Hid (wr.rowIs w.heap.size 3 n (fun x => .int .i64 (HS.cnt M k x : Int))) := hr
    clear hb hr
    by_cases hlt : k < m
    · have hlt' : (k : Int) < (m : Int) := by omega
      rcases HM.out with h0 | ⟨b, off, e, hc⟩
      · omega
      have ck : wr.cell? ⟨b, off + k, none⟩ = some (.int .i64 (M k : Int)) := (BEL.out.cell (p := ⟨b, off + k, none⟩) (World.block_lt_of_cell? w ⟨b, off + k, none⟩ (hc k hlt))).trans (hc k hlt)
      subst e
      clear hc
      have hv := LM.out k hlt
      have cv := ROW.out.cell hv
      have fv := ROW.out.frozen (M k)
      have cb := HS.cnt_le M k (M k)
      generalize hvv : M k = v at ck hv cv fv cb
      have HVV : Hid (M k = v) := hvv
      clear hvv
      have hv' : (v : Int) < (n : Int) := by omega
      go_wp2
      go_roundg (m - (k + 1))
      case measure => omega
      case rel => exact ⟨k + 1, by omega, by go_num, BEL.out.setCell (Nat.le_refl _) _, (ROW.out.set v _).congr fun x _ => inc_row M k x v HVV.out⟩
    · obtain rfl : k = m := by omega
      go_wp2
      go_loopg [9] k (fun g i wr => ∃ k2 : Nat, k2 + g = k ∧ i = .int .i64 k2 ∧ Below w.heap.size w wr ∧ wr.rowIs w.heap.size 3 n (fun x => .int .i64 ((HS.cnt M k x : Int) - (HS.cnt A k2 x : Int))))
      case atStart => exact ⟨0, by omega, rfl, BEL.out, ROW.out.congr fun x _ => by simp [HS.cnt]⟩
      case round =>
        obtain ⟨k2, hk2, rfl, hb2, hr2⟩ := hrel
        have BEL2 : Hid (Below w.heap.size w wr) := hb2
        have ROW2 : Hid (wr.rowIs w.heap.size 3 n (fun x => .int .i64 ((HS.cnt M k x : Int) - (HS.cnt A k2 x : Int)))) := hr2
        clear hb2 hr2
        by_cases hlt2 : k2 < k
        · have hlt2' : (k2 : Int) < (k : Int) := by omega
          rcases HA.out with h0 | ⟨b, off, e, hc⟩
          · omega
          have ck : wr.cell? ⟨b, off + k2, none⟩ = some (.int .i64 (A k2 : Int)) := (BEL2.out.cell (p := ⟨b, off + k2, none⟩) (World.block_lt_of_cell? w ⟨b, off + k2, none⟩ (hc k2 hlt2))).trans (hc k2 hlt2)
          subst e
          clear hc
          have hv := LA.out k2 hlt2
          have cv := ROW2.out.cell hv
          have fv := ROW2.out.frozen (A k2)
          have b1 := HS.cnt_le M k (A k2)
          have b2 : HS.cnt A k2 (A k2) + 1 ≤ HS.cnt M k (A k2) := by
            rw [← HSM.out]
            exact HS.cnt_lt A hlt2
          generalize hvv : A k2 = v at ck hv cv fv b1 b2
          have HVV : Hid (A k2 = v) := hvv
          clear hvv
          have STEP : Hid (∀ x, (if x = v then Value.int .i64 ((HS.cnt M k v : Int) - (HS.cnt A k2 v : Int) - 1) else Value.int .i64 ((HS.cnt M k x : Int) - (HS.cnt A k2 x : Int))) = Value.int .i64 ((HS.cnt M k x : Int) - (HS.cnt A (k2 + 1) x : Int))) := fun x => dec_row A (HS.cnt M k) k2 x v HVV.out
          generalize hc1 : HS.cnt M k v = q1 at cv b1 b2 STEP
          generalize hc2 : HS.cnt A k2 v = q2 at cv b2 STEP
          clear hc1 hc2
          have hv' : (v : Int) < (n : Int) := by omega
          have d1 : decide ((v : Int) < 0) = false := decide_eq_false (by omega)
          have d2 : decide (n ≤ v) = false := decide_eq_false (by omega)
          have d3 : decide ((q1 : Int) - (q2 : Int) - 1 < 0) = false := decide_eq_false (by omega)
          go_wp2
          go_roundg (k - (k2 + 1))
          case measure => omega
          case rel => exact ⟨k2 + 1, by omega, by go_num, BEL2.out.setCell (Nat.le_refl _) _, (ROW2.out.set v _).congr fun x _ => STEP.out x⟩
        · go_wp2
          go_ret
          exact ⟨rfl, BEL2.out⟩

/-! ### 'w2 = append(w2, k)', there is room -/

/-- The row under the list l. -/
def LF (l : List Nat) (x : Nat) : Value := .int .i64 ((l.getD x 0 : Nat) : Int)

theorem lf_append (l : List Nat) (v x : Nat) : LF (l ++ [v]) x = if x = l.length then .int .i64 (v : Int) else LF l x := by
  unfold LF
  simp only [List.getD_eq_getElem?_getD]
  by_cases e : x = l.length
  · subst e; simp
  · rw [if_neg e]
    by_cases h : x < l.length
    · rw [List.getElem?_append_left h]
    · rw [List.getElem?_eq_none (l := l ++ [v]) (by simp; omega), List.getElem?_eq_none (l := l) (by omega)]

theorem run_append_nat (w : World) (B cap : Nat) (l : List Nat) (v : Nat) (ty : TypeId) (hr : w.rowIs B 3 cap (LF l)) (ad : Addr) (c : Nat)
    (h0 : w.cell? (ad.add 0) = some (.int .i64 (v : Int))) (hroom : l.length + 1 ≤ cap) :
    ∃ w', (Builtin.append_ #[22, 22] ty #[.slice (some ⟨B, 0, none⟩) l.length cap, .slice (some ad) 1 c]).run Try.prog w = .ok (.slice (some ⟨B, 0, none⟩) (l.length + 1) cap) w' ∧
      w'.rowIs B 3 cap (LF (l ++ [v])) ∧ w.grownBy w' (some B) := by
  obtain ⟨i, hi, hz, hs, hb⟩ := info_parts Try.info3
  obtain ⟨cur, hcur, hsz, hc⟩ := hr
  have hrun := run_append_room (P := Try.prog) w 22 ty 3 i Try.underlying22 hi B l.length cap cur hcur ad 1 c [.int .i64 (v : Int)] (by rw [hs]; rfl)
    (by
      intro j u hu
      match j, hu with
      | 0, hu => simp at hu; subst hu; exact h0)
    (by intro u hu; simp at hu; subst hu; rfl) hroom (by rw [hs]; simp; omega)
  refine ⟨_, hrun, ⟨_, setRow_heap w B cur _ 3 _ hcur, ?_, ?_⟩, ⟨rfl, rfl, rfl, by simp, fun k _ hk => setRow_other w B k _ (fun e => hk (by rw [e]))⟩⟩
  · rw [hs]; simp; omega
  · intro j hj
    rw [hs, lf_append]
    have hl : cur.toList.length = cap := by simpa using hsz
    have hcj := hc j hj
    rw [← Array.getElem?_toList] at hcj
    simp only [List.getElem?_toArray, List.append_assoc, Nat.mul_one]
    by_cases e1 : j < l.length
    · rw [List.getElem?_append_left (by simp; omega), List.getElem?_take_of_lt e1, hcj, if_neg (by omega)]
    · rw [List.getElem?_append_right (by simp; omega)]
      have hlt : (cur.toList.take l.length).length = l.length := by simp; omega
      rw [hlt]
      by_cases e2 : j = l.length
      · subst e2; simp
      · rw [if_neg e2, List.getElem?_append_right (by simp; omega), List.getElem?_drop, ← hcj]
        congr 1
        simp
        omega

theorem wpList_append_nat (w : World) {ops : Array Oper} {rest : List Oper} {o : Oper} {a : Act} {Q : Exit → Act → World → Prop}
    (hg : o.guard = none) (x y : Operand) (hop : o.op = Op.call { callee := Callee.builtin Builtin.append, args := #[x, y], argTypes := #[22, 22] })
    (B cap : Nat) (l : List Nat) (v : Nat) (n : Nat) (hn : n = l.length) (hx : a.eval x = .slice (some ⟨B, 0, none⟩) n cap) (ad : Addr) (c : Nat) (hy : a.eval y = .slice (some ad) 1 c)
    (hr : w.rowIs B 3 cap (LF l)) (h0 : w.cell? (ad.add 0) = some (.int .i64 (v : Int))) (hroom : l.length + 1 ≤ cap)
    (hK : ∀ w', w'.rowIs B 3 cap (LF (l ++ [v])) → w.grownBy w' (some B) → wpList Try.prog ops Q rest (a.put o.dst (.slice (some ⟨B, 0, none⟩) (l.length + 1) cap)) w') :
    wpList Try.prog ops Q (o :: rest) a w := by
  subst hn
  refine wpList_plain hg fun K hK' => ?_
  obtain ⟨w', hrun, r1, r2⟩ := run_append_nat w B cap l v o.type hr ad c h0 hroom
  unfold Oper.wp
  simp [execOp, hop, resolve, invoke, builtin, hx, hy, hrun, Result.andThen]
  exact hK' _ _ (hK w' r1 r2)
end Go.Proofs.Qxb6605208a
