import Derived.Test.Qxb6605208aHW5
import Derived.Test.Qxb6605208aHSort
namespace Go.Proofs.Qxb6605208a
open Go.RowKit
open HS (lst swp Upto But)

/-- The rows of the insertion: o is members rearranged, key by key in the order given. -/
structure OI (n m : Nat) (H M o : Nat → Nat) : Prop where
  lt : ∀ x, x < m → o x < n
  fil : ∀ d, (lst m o).filter (H · == d) = (lst m M).filter (H · == d)

theorem OI.swap {n m : Nat} {H M o : Nat → Nat} (h : OI n m H M o) {j : Nat} (hj : j + 1 < m) (hlt : H (o j) < H (o (j + 1))) : OI n m H M (swp o j) := by
  refine ⟨fun x hx => ?_, fun d => by rw [HS.swp_filter H o j m d hj (by omega)]; exact h.fil d⟩
  unfold swp
  split
  · exact h.lt _ hj
  · split
    · exact h.lt _ (by omega)
    · exact h.lt x hx

theorem swp_row (o : Nat → Nat) (t j : Nat) : (if j = t + 1 then Value.int .i64 (o t : Int) else if j = t then Value.int .i64 (o (t + 1) : Int) else Value.int .i64 (o j : Int)) = Value.int .i64 (swp o t j : Int) := by
  unfold swp
  by_cases e1 : j = t + 1
  · subst e1; simp
  · by_cases e2 : j = t
    · subst e2; simp
    · simp [e1, e2]

set_option maxRecDepth 100000 in
set_option maxHeartbeats 4000000 in
theorem byHeight_any (n m c4 bh ch : Nat) (a4 : Option Addr) (M H : Nat → Nat) (w : World) (hM : Ints w a4 m (fun i => (M i : Int))) (hH : w.rowIs bh 3 n (fun j => .int .i64 (H j : Int))) (hm : m ≤ 4096) (mlt : ∀ i, i < m → M i < n) :
    Calls Try.prog 21 #[.slice a4 m c4, .slice (some ⟨bh, 0, none⟩) n ch] w fun e w' => ∃ o : Nat → Nat, e = .returned (.slice (some ⟨w.heap.size, 0, none⟩) m m) ∧ Below w.heap.size w w' ∧ w'.rowIs w.heap.size 3 m (fun j => .int .i64 (o j : Int)) ∧ OI n m H M o ∧ HS.Desc H (lst m o) := by
  have HM : Hid (Ints w a4 m (fun i => (M i : Int))) := hM
  have HH : Hid (w.rowIs bh 3 n (fun j => .int .i64 (H j : Int))) := hH
  have ML : Hid (∀ i, i < m → M i < n) := mlt
  have lh : bh < w.heap.size := hH.lt
  clear hM hH mlt
  have hmk := run_make_row' (P := Try.prog) 22 3 (.int .i64 0) 8 Try.underlying22 Try.info3 rfl .i64 .i64 m (by omega) (by omega)
  go_enter Try.func21, Try.ntmps21
  go_wp2
  clear hmk
  go_loopg [6] m (fun g i wr => ∃ k : Nat, k + g = m ∧ i = .int .i64 k ∧ Below w.heap.size w wr ∧ wr.rowIs w.heap.size 3 m (fun j => if j < k then .int .i64 (M j : Int) else .int .i64 0))
  case atStart =>
    refine ⟨0, by omega, rfl, (Below.refl _ _).alloc (Nat.le_refl _) _, ?_⟩
    exact (World.rowIs_made w (.int .i64 0) m 3).congr (fun i _ => by simp)
  case round =>
    obtain ⟨k, hk, rfl, hb, hr⟩ := hrel
    have HB : Hid (Below w.heap.size w wr) := hb
    have HR : Hid (wr.rowIs w.heap.size 3 m (fun j => if j < k then .int .i64 (M j : Int) else .int .i64 0)) := hr
    by_cases hlt : k < m
    · rcases HM.out with h | ⟨b, off, e, hc⟩
      · omega
      have ck : wr.cell? ⟨b, off + k, none⟩ = some (.int .i64 (M k : Int)) := (hb.cell (p := ⟨b, off + k, none⟩) (World.block_lt_of_cell? w ⟨b, off + k, none⟩ (hc k hlt))).trans (hc k hlt)
      subst e
      have hfz := hr.frozen k
      have hcl := hr.cell (i := k) hlt
      simp only [Nat.lt_irrefl, if_false] at hcl
      have hki : (k : Int) < (m : Int) := by omega
      clear hb hr hc
      go_wp2
      go_roundg (m - (k + 1))
      case measure => omega
      case rel =>
        refine ⟨k + 1, by omega, by go_num, HB.out.setCell (by simp) _, (HR.out.set k _).congr fun j hj => ?_⟩
        by_cases e1 : j = k
        · subst e1; simp
        · by_cases e2 : j < k
          · simp [e1, e2, show j < k + 1 by omega]
          · simp [e1, e2, show ¬ j < k + 1 by omega]
    · obtain rfl : k = m := by omega
      have HR' : Hid (wr.rowIs w.heap.size 3 k (fun j => .int .i64 (M j : Int))) := HR.out.congr fun j hj => by simp [hj]
      clear hb hr HR
      obtain ⟨wo, hwo⟩ : ∃ wo, wo = wr := ⟨_, rfl⟩
      subst hwo
      go_wp2
      go_loopg [7] k (fun g s wr => ∃ (e : Nat) (o : Nat → Nat), e + g = k ∧ s = .int .i64 ((e + 1 : Nat) : Int) ∧ Below w.heap.size w wr ∧ wr.rowIs w.heap.size 3 k (fun j => .int .i64 (o j : Int)) ∧ OI n k H M o ∧ Upto H o (e + 1))
      case atStart => exact ⟨0, M, by omega, rfl, HB.out, HR'.out, ⟨ML.out, fun _ => rfl⟩, fun a b h1 h2 => by omega⟩
      case round =>
        obtain ⟨i, o, hi, rfl, hb1, hr1, ho1, hu1⟩ := hrel
        have B1 : Hid (Below w.heap.size w wr) := hb1
        have R1 : Hid (wr.rowIs w.heap.size 3 k (fun j => .int .i64 (o j : Int))) := hr1
        have O1 : Hid (OI n k H M o ∧ Upto H o (i + 1)) := ⟨ho1, hu1⟩
        clear hb1 hr1 ho1 hu1
        by_cases hik : i + 1 < k
        · have hik' : ((i + 1 : Nat) : Int) < (k : Int) := by omega
          obtain ⟨wm, hwm⟩ : ∃ wm, wm = wr := ⟨_, rfl⟩
          subst hwm
          go_wp2
          go_loopg [8] (i + 1) (fun g s wr => ∃ o : Nat → Nat, g ≤ i + 1 ∧ s = .int .i64 (g : Int) ∧ Below w.heap.size w wr ∧ wr.rowIs w.heap.size 3 k (fun j => .int .i64 (o j : Int)) ∧ OI n k H M o ∧ But H o (i + 1) g)
          case atStart => exact ⟨o, by omega, by go_num, B1.out, R1.out, O1.out.1, HS.but_start O1.out.2⟩
          case round =>
            obtain ⟨o2, hg, rfl, hb2, hr2, ho2, hbut⟩ := hrel
            have B2 : Hid (Below w.heap.size w wr) := hb2
            have R2 : Hid (wr.rowIs w.heap.size 3 k (fun j => .int .i64 (o2 j : Int))) := hr2
            have O2 : Hid (OI n k H M o2 ∧ But H o2 (i + 1) gk) := ⟨ho2, hbut⟩
            clear hb2 hr2 ho2 hbut
            cases gk with
            | zero =>
              have d0 : decide ((0 : Int) < ((0 : Nat) : Int)) = false := by decide
              have END : Hid (Upto H o2 (i + 1 + 1)) := HS.but_end O2.out.2 (.inl rfl)
              go_wp2
              go_quiet (fail)
              go_wp2
              go_roundg (k - (i + 1))
              case measure => omega
              case rel => exact ⟨i + 1, o2, by omega, by go_num, B2.out.trans (below_drewN _ _ _), rowIs_drewN R2.out _, O2.out.1, END.out⟩
            | succ t =>
              have d0 : (0 : Int) < ((t + 1 : Nat) : Int) := by omega
              have l0 := O2.out.1.lt t (by omega)
              have l1 := O2.out.1.lt (t + 1) (by omega)
              have c0 : wr.cell? ⟨w.heap.size, t, none⟩ = some (.int .i64 (o2 t : Int)) := R2.out.cell (by omega)
              have c1 : wr.cell? ⟨w.heap.size, t + 1, none⟩ = some (.int .i64 (o2 (t + 1) : Int)) := R2.out.cell (by omega)
              have f0 := R2.out.frozen t
              have f1 := R2.out.frozen (t + 1)
              have e0 : wr.cell? ⟨bh, o2 t, none⟩ = some (.int .i64 (H (o2 t) : Int)) := (B2.out.cell (p := ⟨bh, o2 t, none⟩) lh).trans (HH.out.cell l0)
              have e1 : wr.cell? ⟨bh, o2 (t + 1), none⟩ = some (.int .i64 (H (o2 (t + 1)) : Int)) := (B2.out.cell (p := ⟨bh, o2 (t + 1), none⟩) lh).trans (HH.out.cell l1)
              have t0 : (t : Int) < (k : Int) := by omega
              have t1 : ((t + 1 : Nat) : Int) < (k : Int) := by omega
              have l0' : (o2 t : Int) < (n : Int) := by omega
              have l1' : (o2 (t + 1) : Int) < (n : Int) := by omega
              by_cases hsw : H (o2 t) < H (o2 (t + 1))
              · have NEXT : Hid (OI n k H M (swp o2 t) ∧ But H (swp o2 t) (i + 1) t) := ⟨O2.out.1.swap (by omega) hsw, HS.but_swap O2.out.2 (by omega) hsw⟩
                go_wp2
                go_quiet (fail)
                go_wp2
                go_roundg t
                case measure => omega
                case rel =>
                  refine ⟨swp o2 t, by omega, by go_num, ((B2.out.trans (below_drewN _ _ _)).setCell (Nat.le_refl _) _).setCell (Nat.le_refl _) _, ?_, NEXT.out⟩
                  exact (((rowIs_drewN R2.out _).set t _).set (t + 1) _).congr fun j _ => swp_row o2 t j
              · have END : Hid (Upto H o2 (i + 1 + 1)) := HS.but_end O2.out.2 (.inr (by rw [Nat.add_sub_cancel]; omega))
                go_wp2
                go_quiet (fail)
                go_wp2
                go_roundg (k - (i + 1))
                case measure => omega
                case rel => exact ⟨i + 1, o2, by omega, by go_num, B2.out.trans (below_drewN _ _ _), rowIs_drewN R2.out _, O2.out.1, END.out⟩
        · have FIN : Hid (HS.Desc H (lst k o)) := HS.upto_desc (fun a b h1 h2 => O1.out.2 a b h1 (by omega))
          go_wp2
          go_ret
          exact ⟨o, rfl, B1.out, R1.out, O1.out.1, FIN.out⟩
end Go.Proofs.Qxb6605208a
