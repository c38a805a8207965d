import Derived.Test.Qxb6605452aW4
import Derived.Test.Qxb6605452aCy
namespace Go.Proofs.Qxb6605452a
open Go.RowKit

/-- A row of numbers. -/
def NRow (w : World) (B n : Nat) (f : Nat → Int) : Prop := w.rowIs B 3 n (fun j => .int .i64 (f j))

theorem NRow.set {w : World} {B n : Nat} {f : Nat → Int} (h : NRow w B n f) (k : Nat) (x : Int) {f' : Nat → Int} (hf : ∀ j, f' j = if j = k then x else f j) : NRow (w.setCell ⟨B, k, none⟩ (.int .i64 x)) B n f' :=
  (World.rowIs.set h k _).congr fun j _ => by rw [hf]; split <;> rfl

theorem NRow.cell {w : World} {B n : Nat} {f : Nat → Int} (h : NRow w B n f) {i : Nat} (hi : i < n) : w.cell? ⟨B, i, none⟩ = some (.int .i64 (f i)) := World.rowIs.cell h hi
theorem NRow.frozen {w : World} {B n : Nat} {f : Nat → Int} (h : NRow w B n f) (i : Nat) : w.frozen? ⟨B, i, none⟩ = false := World.rowIs.frozen h i
theorem NRow.other {w : World} {B n : Nat} {f : Nat → Int} (h : NRow w B n f) {p : Addr} (hp : B ≠ p.block) (v : Value) : NRow (w.setCell p v) B n f := World.rowIs.setOther h hp v
theorem NRow.below {w w' : World} {B n : Nat} {f : Nat → Int} (h : NRow w B n f) (hb : Below w.heap.size w w') : NRow w' B n f := rowIs_below h hb (World.rowIs.lt h)

set_option maxHeartbeats 4000000 in
theorem dist_any (a : Option Addr) (n c t : Nat) (G T : Gr) (w : World) (hn : n ≤ 4096) (ht : t < n) (hol : ∀ v, v < n → T.ol v ≤ 131072) (hTn : ∀ v u, v < n → T.E v u → u < n ∧ G.E u v) (hG : G.In n) (hT : ∀ u v, u < n → G.E u v → T.E v u)
    (hR : Rows w a n T.ol (fun v j => (T.of v j : Int))) :
    Calls Try.prog 30 #[.slice a n c, .int .i64 n, .int .i64 t] w fun e w' => ∃ d, e = .returned (.slice (some ⟨w.heap.size, 0, none⟩) n n) ∧ Below w.heap.size w w' ∧ NRow w' w.heap.size n d ∧ IsDist G n t d ∧ ∀ x, d x < n := by
  have HR : Hid (Rows w a n T.ol (fun v j => (T.of v j : Int))) := hR
  have HOL : Hid (∀ v, v < n → T.ol v ≤ 131072) := hol
  have HTN : Hid (∀ v u, v < n → T.E v u → u < n ∧ G.E u v) := hTn
  have HG : Hid (G.In n ∧ ∀ u v, u < n → G.E u v → T.E v u) := ⟨hG, hT⟩
  clear hR hol hTn hG hT
  have hmk := fun w => run_make_row' (P := Try.prog) 22 3 (.int .i64 0) 8 Try.underlying22 Try.info3 rfl .i64 .i64 n (by omega) (by omega) w
  go_enter Try.func30, Try.ntmps30
  go_wp2
  have HMK : Hid (∀ w : World, (Instr.makeSlice 22 (.int .i64 (n : Int)) (.int .i64 (n : Int))).run Try.prog w = .ok (.slice (some ⟨w.heap.size, 0, none⟩) n n) (w.alloc (.cells (madeCells #[.int .i64 0] n) 3))) := hmk
  clear hmk
  go_loopg [8] n (fun g i wr => ∃ k : Nat, k + g = n ∧ i = .int .i64 k ∧ Below w.heap.size w wr ∧ NRow wr w.heap.size n (fun j => if j < k then -1 else 0) ∧ wr.heap.size = w.heap.size + 1)
  case atStart => exact ⟨0, by omega, rfl, bel_alloc (Below.refl _ _) _, (World.rowIs_made w (.int .i64 0) n 3).congr fun j _ => by simp, by simp⟩
  case round =>
    obtain ⟨k, hk, rfl, hb, hr, hs⟩ := hrel
    have HB : Hid (Below w.heap.size w wr) := hb
    have HRW : Hid (NRow wr w.heap.size n (fun j => if j < k then -1 else 0)) := hr
    by_cases hlt : k < n
    · have hlt' : (k : Int) < (n : Int) := by omega
      have x0 := NRow.cell hr (i := k) hlt
      have x1 := NRow.frozen hr k
      clear hb hr
      go_wp2
      go_roundg (n - (k + 1))
      case measure => omega
      case rel =>
        refine ⟨k + 1, by omega, by go_num, HB.out.setCell (Nat.le_refl _) _, HRW.out.set k (-1) fun j => ?_, by simp [World.setCell]; exact hs⟩
        by_cases e : j = k
        · subst e; simp
        · by_cases e2 : j < k
          · simp [e, e2, show j < k + 1 by omega]
          · simp [e, e2, show ¬ j < k + 1 by omega]
    · have hmk := HMK.out wr
      rw [hs] at hmk
      have ROWD : NRow (wr.alloc (.cells (madeCells #[.int .i64 0] n) 3)) w.heap.size n (fun j => -1) := (World.rowIs.alloc hr _).congr fun j hj => by simp [show j < k by omega]
      have ROWQ : NRow (wr.alloc (.cells (madeCells #[.int .i64 0] n) 3)) (w.heap.size + 1) n (fun j => 0) := by have := World.rowIs_made wr (.int .i64 0) n 3; rw [hs] at this; exact this
      have BEL := bel_alloc hb (.cells (madeCells #[.int .i64 0] n) 3)
      generalize wr.alloc (.cells (madeCells #[.int .i64 0] n) 3) = wq at *
      have c1 := NRow.cell ROWD (i := t) ht
      have c2 := NRow.frozen ROWD t
      have R1 := ROWD.set t 0 (f' := fun u => if u = t then 0 else -1) (fun j => rfl)
      have R2 := ROWQ.other (p := ⟨w.heap.size, t, none⟩) (by simp) (.int .i64 0)
      have c3 := NRow.cell R2 (i := 0) (by omega)
      have c4 := NRow.frozen R2 0
      have R3 : Hid (NRow _ (w.heap.size) n (fun u => if u = t then 0 else -1)) := R1.other (p := ⟨w.heap.size + 1, 0, none⟩) (by simp) (.int .i64 t)
      have R4 : Hid (NRow _ (w.heap.size + 1) n (fun u => ((if u = 0 then t else 0 : Nat) : Int))) := R2.set 0 (t : Int) (fun j => by split <;> rfl)
      have BEL2 : Hid (Below w.heap.size w _) := (BEL.setCell (p := ⟨w.heap.size, t, none⟩) (Nat.le_refl _) (.int .i64 0)).setCell (p := ⟨w.heap.size + 1, 0, none⟩) (by simp) (.int .i64 t)
      have ht' : (t : Int) < (n : Int) := by omega
      have hn' : (0 : Int) < (n : Int) := by omega
      clear R1 R2 ROWD ROWQ BEL hb hr HB HRW HMK
      go_wp2
      clear c1 c2 c3 c4 hmk
      go_loopg [10, 11] n (fun g' tl hd wr => ∃ (d : Nat → Int) (q : Nat → Nat) (head tail : Nat), head + g' = n ∧ tl = .int .i64 tail ∧ hd = .int .i64 head ∧ Ds G T n t d q head tail 0 ∧ (∀ x, d x < tail) ∧ Below w.heap.size w wr ∧ NRow wr w.heap.size n d ∧ NRow wr (w.heap.size + 1) n (fun i => (q i : Int)))
      case atStart => exact ⟨_, _, 0, 1, by omega, rfl, rfl, Ds.init G T ht (fun i => if i = 0 then t else 0) (by simp), fun x => by split <;> omega, BEL2.out, R3.out, R4.out⟩
      case round =>
        obtain ⟨d, q, head, tail, hg', rfl, rfl, hD, hdb, hb, hrd, hrq⟩ := hrel
        clear R3 R4 BEL2
        have HD : Hid (Ds G T n t d q head tail 0) := hD
        have HDB : Hid (∀ x, d x < tail) := hdb
        have HB : Hid (Below w.heap.size w wr) := hb
        have HRD : Hid (NRow wr w.heap.size n d) := hrd
        have HRQ : Hid (NRow wr (w.heap.size + 1) n (fun i => (q i : Int))) := hrq
        have htl := hD.tail_le
        have hht := hD.ht
        by_cases hlt : head < tail
        · have hlt' : (head : Int) < (tail : Int) := by omega
          have hhn : (head : Int) < (n : Int) := by omega
          have x0 := NRow.cell hrq (i := head) (by omega)
          have hvn := (hD.dq head hlt).1
          obtain ⟨v, hv⟩ : ∃ v, v = q head := ⟨_, rfl⟩
          rw [← hv] at x0 hvn
          have HV : Hid (v = q head) := hv
          have hvn' : (v : Int) < (n : Int) := by omega
          rcases HR.out with h | ⟨b, off, sa, sc, e, hc⟩
          · omega
          subst e
          obtain ⟨k1, k2, _⟩ := hc v hvn
          have lb : b < w.heap.size := World.block_lt_of_cell? w ⟨b, off + v, none⟩ k1
          have y1 := (hb.cell (p := ⟨b, off + v, none⟩) lb).trans k1
          have HK2 : Hid (Ints w (sa v) (T.ol v) (fun j => (T.of v j : Int))) := k2
          have hol := HOL.out v hvn
          clear hb hrd hrq hD hdb hv hc k1 k2
          go_wp2
          clear x0 y1
          go_loopg [10, 47] (T.ol v) (fun g'' tl jj wr => ∃ (d : Nat → Int) (q : Nat → Nat) (tail j : Nat), j + g'' = T.ol v ∧ tl = .int .i64 tail ∧ jj = .int .i64 j ∧ head < tail ∧ v = q head ∧ Ds G T n t d q head tail j ∧ (∀ x, d x < tail) ∧ Below w.heap.size w wr ∧ NRow wr w.heap.size n d ∧ NRow wr (w.heap.size + 1) n (fun i => (q i : Int)))
          case atStart => exact ⟨d, q, tail, 0, by omega, rfl, rfl, hlt, HV.out, HD.out, HDB.out, HB.out, HRD.out, HRQ.out⟩
          case round =>
            clear HD HDB HB HRD HRQ HV hlt hlt' htl hht
            obtain ⟨d, q, tail, j, hj, rfl, rfl, hlt, hv, hD, hdb, hb, hrd, hrq⟩ := hrel
            have HD : Hid (Ds G T n t d q head tail j) := hD
            have HDB : Hid (∀ x, d x < tail) := hdb
            have HB : Hid (Below w.heap.size w wr) := hb
            have HRD : Hid (NRow wr w.heap.size n d) := hrd
            have HRQ : Hid (NRow wr (w.heap.size + 1) n (fun i => (q i : Int))) := hrq
            have HV : Hid (v = q head) := hv
            have htl := hD.tail_le
            by_cases hjl : j < T.ol v
            · have hjl' : (j : Int) < (T.ol v : Int) := by omega
              rcases HK2.out with h | ⟨b2, o2, e2, hc2⟩
              · omega
              have lb2 : b2 < w.heap.size := World.block_lt_of_cell? w ⟨b2, o2 + j, none⟩ (hc2 j hjl)
              have y2 : wr.cell? ⟨b2, o2 + j, none⟩ = some (.int .i64 (T.of v j : Int)) := (hb.cell (p := ⟨b2, o2 + j, none⟩) lb2).trans (hc2 j hjl)
              obtain ⟨hun, hue⟩ := HTN.out v (T.of v j) hvn ⟨j, hjl, rfl⟩
              obtain ⟨u, hu⟩ : ∃ u, u = T.of v j := ⟨_, rfl⟩
              have HU : Hid (u = T.of v j) := hu
              rw [← hu] at hun y2 hue
              have HUE : Hid (G.E u v) := hue
              have hun' : (u : Int) < (n : Int) := by omega
              have x1 := NRow.cell hrd (i := u) hun
              have x2 := NRow.cell hrd (i := v) hvn
              have f1 := NRow.frozen hrd u
              have hdv : d v < tail := hdb v
              have hdv0 : 0 ≤ d v := by
                obtain ⟨_, k0, hk0, _⟩ := hD.dq head hlt
                rw [hv, hk0]; omega
              by_cases hd : d u < 0
              · have hd' : decide (d u < 0) = true := decide_eq_true hd
                have STEP : Hid (Ds G T n t (fun x => if x = u then d v + 1 else d x) (fun i => if i = tail then u else q i) head (tail + 1) (j + 1)) := by
                  refine hD.found hlt ?_ ?_ ?_ (fun x => ?_) (fun i => ?_)
                  · rw [← hv, ← hu]; exact hun
                  · rw [← hv, ← hu]; exact hue
                  · rw [← hv, ← hu]; exact hd
                  · rw [← hv, ← hu]
                  · rw [← hv, ← hu]
                have htl2 := STEP.out.tail_le
                have htn' : (tail : Int) < (n : Int) := by omega
                have R1 : NRow (wr.setCell ⟨w.heap.size, u, none⟩ (.int .i64 (d v + 1))) w.heap.size n (fun x => if x = u then d v + 1 else d x) := hrd.set u _ (fun _ => rfl)
                have R2 : NRow (wr.setCell ⟨w.heap.size, u, none⟩ (.int .i64 (d v + 1))) (w.heap.size + 1) n (fun i => (q i : Int)) := hrq.other (by simp) _
                have x3 := NRow.cell hrq (i := tail) (by omega)
                have f3 := NRow.frozen hrq tail
                have R3 : Hid (NRow ((wr.setCell ⟨w.heap.size, u, none⟩ (.int .i64 (d v + 1))).setCell ⟨w.heap.size + 1, tail, none⟩ (.int .i64 u)) w.heap.size n (fun x => if x = u then d v + 1 else d x)) := R1.other (by simp) _
                have R4 : Hid (NRow ((wr.setCell ⟨w.heap.size, u, none⟩ (.int .i64 (d v + 1))).setCell ⟨w.heap.size + 1, tail, none⟩ (.int .i64 u)) (w.heap.size + 1) n (fun i => ((if i = tail then u else q i : Nat) : Int))) := R2.set tail _ (fun i => by split <;> rfl)
                have DB : Hid (∀ x, (fun x => if x = u then d v + 1 else d x) x < ((tail + 1 : Nat) : Int)) := fun x => by
                  have := hdb x
                  show (if x = u then d v + 1 else d x) < _
                  split <;> omega
                have HV' : Hid (v = (fun i => if i = tail then u else q i) head) := by
                  show v = if head = tail then u else q head
                  rw [if_neg (by omega)]; exact hv
                clear R1 R2 hb hrd hrq hD hdb hv hu hc2 hue
                go_wp2
                rw [← e2]
                go_roundg (T.ol v - (j + 1))
                case measure => omega
                case rel => exact ⟨_, _, tail + 1, j + 1, by omega, by go_num, by go_num, by omega, HV'.out, STEP.out, DB.out, (HB.out.setCell (Nat.le_refl _) _).setCell (by simp) _, R3.out, R4.out⟩
              · have hd' : decide (d u < 0) = false := decide_eq_false hd
                have STEP : Hid (Ds G T n t d q head tail (j + 1)) := hD.skip hlt (by rw [← hv, ← hu]; exact hun) (by rw [← hv, ← hu]; exact hd)
                clear hb hrd hrq hD hdb hv hu hc2 hue
                go_wp2
                rw [← e2]
                go_roundg (T.ol v - (j + 1))
                case measure => omega
                case rel => exact ⟨d, q, tail, j + 1, by omega, rfl, by go_num, hlt, HV.out, STEP.out, HDB.out, HB.out, HRD.out, HRQ.out⟩
            · have hjl' : decide ((j : Int) < (T.ol v : Int)) = false := decide_eq_false (by omega)
              have NEXT : Hid (Ds G T n t d q (head + 1) tail 0) := by
                have e : j = T.ol (q head) := by rw [← hv]; omega
                rw [e] at hD
                exact hD.next hlt
              clear hb hrd hrq hD hdb hv
              go_wp2
              go_roundg (n - (head + 1))
              case measure => omega
              case rel => exact ⟨d, q, head + 1, tail, by omega, rfl, by go_num, NEXT.out, HDB.out, HB.out, HRD.out, HRQ.out⟩
        · have hlt' : decide ((head : Int) < (tail : Int)) = false := decide_eq_false (by omega)
          clear hb hrd hrq hD hdb
          go_wp2
          go_ret
          exact ⟨d, rfl, HB.out, HRD.out, HD.out.fin hlt HG.out.1 HG.out.2, fun x => by have := HDB.out x; omega⟩
end Go.Proofs.Qxb6605452a
