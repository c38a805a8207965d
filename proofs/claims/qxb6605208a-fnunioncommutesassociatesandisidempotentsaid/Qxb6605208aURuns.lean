import Derived.Test.Qxb6605208aUWalks
namespace Go.Proofs.Qxb6605208a
open Go.RowKit

set_option maxHeartbeats 1000000 in
theorem bytes_any (a0 a1 a2 a3 a4 a5 : Option Addr) (n0 c0 n1 c1 n2 c2 n3 c3 n4 c4 n5 c5 : Nat) (w : World) :
    Calls Try.prog 13 #[.slice a0 n0 c0, .slice a1 n1 c1, .slice a2 n2 c2, .slice a3 n3 c3, .slice a4 n4 c4, .slice a5 n5 c5] w fun e w' => ∃ r : Bool, e = .returned (.bool r) ∧ w' = w := by
  go_enter Try.func13, Try.ntmps13
  go_wp2
  all_goals (go_ret; exact ⟨_, rfl, rfl⟩)

theorem Try.info41 : (Try.prog.info? 41).map (fun i => (i.zero, i.size, i.bytes)) = some (some (.agg #[.int .i64 0, .int .i64 0]), 2, 16) := by kernel_rfl

/-- A row of spans, cell by cell. -/
def SF (f t : Nat → Int) (j : Nat) : Value := .int .i64 (if j % 2 = 0 then f (j / 2) else t (j / 2))

theorem mk_runs (n c : Nat) (hnc : n ≤ c) (hc : c ≤ 8388608) (w : World) :
    (Instr.makeSlice 37 (.int .i64 (n : Int)) (.int .i64 (c : Int))).run Try.prog w = .ok (.slice (some ⟨w.heap.size, 0, none⟩) n c) (w.alloc (.cells (madeCells #[.int .i64 0, .int .i64 0] (c * 2)) 41)) := by
  obtain ⟨i, hi, hz, hs, hb⟩ := info_parts Try.info41
  have hr := run_make (P := Try.prog) w 37 41 i _ Try.underlying37 hi hz .i64 .i64 (n : Int) (c : Int) (by omega) (by omega) (by rw [hb]; omega) (by omega)
  rw [hs] at hr
  simp only [Int.toNat_natCast] at hr
  have hc : (Value.agg #[.int .i64 0, .int .i64 0]).cells = #[.int .i64 0, .int .i64 0] := by simp [Value.cells]
  rw [hc] at hr
  exact hr

theorem rowIs_runs (w : World) (c : Nat) : (w.alloc (.cells (madeCells #[.int .i64 0, .int .i64 0] (c * 2)) 41)).rowIs w.heap.size 41 (2 * c) (fun _ => .int .i64 0) := by
  refine ⟨_, Deep.blk_alloc_new _ _, by rw [size_madeCells]; omega, fun i hi => ?_⟩
  have h2 : i % 2 = 0 ∨ i % 2 = 1 := by omega
  have h3 : i < c * 2 := by omega
  rcases h2 with h | h <;> simp [madeCells, h3, h]

theorem sf_step (f t : Nat → Int) (k j : Nat) :
    (if j = k * 2 + 1 then Value.int .i64 (t k) else if j = k * 2 then Value.int .i64 (f k) else if j < k * 2 then SF f t j else .int .i64 0) = if j < (k + 1) * 2 then SF f t j else .int .i64 0 := by
  by_cases e1 : j = k * 2 + 1
  · subst e1
    have e3 : (k * 2 + 1) / 2 = k := by omega
    rw [if_pos rfl, if_pos (by omega)]
    simp [SF, e3]
  · rw [if_neg e1]
    by_cases e2 : j = k * 2
    · subst e2
      rw [if_pos rfl, if_pos (by omega)]
      simp [SF]
    · rw [if_neg e2]
      by_cases e3 : j < k * 2
      · rw [if_pos e3, if_pos (by omega)]
      · rw [if_neg e3, if_neg (by omega)]

set_option maxHeartbeats 1000000 in
theorem runs_some (b0 o0 b1 o1 n ca cb : Nat) (f t : Nat → Int) (w : World) (hn : n ≤ 1048576)
    (h0 : ∀ i, i < n → w.cell? ⟨b0, o0 + i, none⟩ = some (.int .i64 (f i))) (h1 : ∀ i, i < n → w.cell? ⟨b1, o1 + i, none⟩ = some (.int .i64 (t i))) :
    Calls Try.prog 26 #[.slice (some ⟨b0, o0, none⟩) n ca, .slice (some ⟨b1, o1, none⟩) n cb] w fun e w' => e = .returned (.slice (some ⟨w.heap.size, 0, none⟩) n n) ∧ Below w.heap.size w w' ∧ w'.rowIs w.heap.size 41 (2 * n) (SF f t) := by
  have hmk := mk_runs n n (Nat.le_refl _) (by omega)
  have H0 : Hid (∀ i, i < n → w.cell? ⟨b0, o0 + i, none⟩ = some (.int .i64 (f i))) := h0
  have H1 : Hid (∀ i, i < n → w.cell? ⟨b1, o1 + i, none⟩ = some (.int .i64 (t i))) := h1
  clear h0 h1
  go_enter Try.func26, Try.ntmps26
  go_wp2
  go_loopg [7] n (fun g i wr => ∃ k : Nat, k + g = n ∧ i = .int .i64 k ∧ Below w.heap.size w wr ∧ wr.rowIs w.heap.size 41 (2 * n) (fun j => if j < k * 2 then SF f t j else .int .i64 0))
  case atStart =>
    refine ⟨0, by omega, rfl, (Below.refl _ _).alloc (Nat.le_refl _) _, ?_⟩
    exact (rowIs_runs w n).congr (fun i _ => by simp)
  case round =>
    obtain ⟨k, hk, rfl, hb, hr⟩ := hrel
    have HB : Hid (Below w.heap.size w wr) := hb
    have HR : Hid (wr.rowIs w.heap.size 41 (2 * n) (fun j => if j < k * 2 then SF f t j else .int .i64 0)) := hr
    by_cases hlt : k < n
    · have ck := (hb.cell (p := ⟨b0, o0 + k, none⟩) (World.block_lt_of_cell? w ⟨b0, o0 + k, none⟩ (H0.out k hlt))).trans (H0.out k hlt)
      have ct := (hb.cell (p := ⟨b1, o1 + k, none⟩) (World.block_lt_of_cell? w ⟨b1, o1 + k, none⟩ (H1.out k hlt))).trans (H1.out k hlt)
      have hfz := hr.frozen (k * 2)
      have hcl := hr.cell (i := k * 2) (by omega)
      have hfz1 := hr.frozen (k * 2 + 1)
      have hcl1 := hr.cell (i := k * 2 + 1) (by omega)
      simp only [Nat.lt_irrefl, if_false, show ¬ k * 2 + 1 < k * 2 by omega] at hcl hcl1
      have hki : (k : Int) < (n : Int) := by omega
      clear hb hr
      go_wp2
      go_region
      go_wp2
      go_roundg (n - (k + 1))
      case measure => omega
      case rel =>
        refine ⟨k + 1, by omega, by go_num, ((HB.out.setCell (by simp) _).setCell (by simp) _).drew, (((HR.out.set (k * 2) _).set (k * 2 + 1) _).drew).congr fun j hj => ?_⟩
        exact sf_step f t k j
    · obtain rfl : k = n := by omega
      clear hb hr
      go_wp2
      go_ret
      exact ⟨rfl, HB.out, HR.out.congr fun j hj => by rw [if_pos (by omega)]⟩

theorem runs_zero (a b : Option Addr) (ca cb : Nat) (w : World) :
    Calls Try.prog 26 #[.slice a 0 ca, .slice b 0 cb] w fun e w' => e = .returned (.slice (some ⟨w.heap.size, 0, none⟩) 0 0) ∧ Below w.heap.size w w' := by
  have hmk : ∀ w, (Instr.makeSlice 37 (.int .i64 0) (.int .i64 0)).run Try.prog w = .ok (.slice (some ⟨w.heap.size, 0, none⟩) 0 0) (w.alloc (.cells (madeCells #[.int .i64 0, .int .i64 0] (0 * 2)) 41)) := mk_runs 0 0 (Nat.le_refl _) (by omega)
  go_enter Try.func26, Try.ntmps26
  go_wp2
  refine wp_loop_rounds 1 ?_
  rw [rounds_succ]
  go_wp2
  go_ret
  exact ⟨rfl, (Below.refl _ _).alloc (Nat.le_refl _) _⟩

/-- The slice at a, of n spans, holds (f 0, t 0) .. -/
def Spans (w : World) (a : Option Addr) (n : Nat) (f t : Nat → Int) : Prop :=
  n = 0 ∨ ∃ b off, a = some ⟨b, off, none⟩ ∧ ∀ i, i < n → w.cell? ⟨b, off + i * 2, none⟩ = some (.int .i64 (f i)) ∧ w.cell? ⟨b, off + i * 2 + 1, none⟩ = some (.int .i64 (t i))

theorem Spans.below {w w' : World} {a : Option Addr} {n : Nat} {f t : Nat → Int} (h : Spans w a n f t) {B : Nat} (hb : Below B w w') (hB : w.heap.size ≤ B) : Spans w' a n f t := by
  rcases h with h | ⟨b, off, ha, hc⟩
  · exact .inl h
  · refine .inr ⟨b, off, ha, fun i hi => ?_⟩
    have hlt : b < w.heap.size := World.block_lt_of_cell? w ⟨b, off + i * 2, none⟩ (hc i hi).1
    rw [hb.cell (p := ⟨b, off + i * 2, none⟩) (by simp; omega), hb.cell (p := ⟨b, off + i * 2 + 1, none⟩) (by simp; omega)]
    exact hc i hi

theorem spans_of_row {w : World} {B n m : Nat} {f t : Nat → Int} (h : w.rowIs B 41 (2 * m) (SF f t)) (hnm : n ≤ m) : Spans w (some ⟨B, 0, none⟩) n f t := by
  refine .inr ⟨B, 0, rfl, fun i hi => ⟨?_, ?_⟩⟩
  · rw [Nat.zero_add, h.cell (by omega)]
    simp [SF]
  · rw [Nat.zero_add, h.cell (by omega)]
    have e2 : (i * 2 + 1) / 2 = i := by omega
    simp [SF, e2]

theorem runs_any (a b : Option Addr) (n ca cb : Nat) (f t : Nat → Int) (w : World) (hn : n ≤ 1048576) (h0 : Ints w a n f) (h1 : Ints w b n t) :
    Calls Try.prog 26 #[.slice a n ca, .slice b n cb] w fun e w' => ∃ a' c', e = .returned (.slice a' n c') ∧ n ≤ c' ∧ c' ≤ 1048576 ∧ Below w.heap.size w w' ∧ Spans w' a' n f t := by
  by_cases hz : n = 0
  · subst hz
    exact (runs_zero a b ca cb w).mono fun e w' ⟨he, hw⟩ => ⟨_, _, he, Nat.le_refl _, by omega, hw, .inl rfl⟩
  · rcases h0 with h0 | ⟨b0, o0, rfl, h0⟩
    · exact absurd h0 hz
    rcases h1 with h1 | ⟨b1, o1, rfl, h1⟩
    · exact absurd h1 hz
    exact (runs_some b0 o0 b1 o1 n ca cb f t w hn h0 h1).mono fun e w' ⟨he, hb, hr⟩ => ⟨_, _, he, Nat.le_refl _, hn, hb, spans_of_row hr (Nat.le_refl _)⟩
end Go.Proofs.Qxb6605208a
