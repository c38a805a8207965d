import Derived.Test.Qxb6605208aUnion
namespace Go.Proofs.Qxb6605208a
open Go.RowKit
open UP (Span PInv Canon IsUnion)

theorem union_left (a b : Option Addr) (nb ca cb : Nat) (w : World) :
    Calls Try.prog 25 #[.slice a 0 ca, .slice b nb cb] w fun e w' => e = .returned (.slice b nb cb) ∧ w' = w := by
  go_enter Try.func25, Try.ntmps25
  go_wp2
  go_ret
  exact ⟨rfl, rfl⟩

theorem union_right (a b : Option Addr) (na ca cb : Nat) (w : World) (h : 0 < na) :
    Calls Try.prog 25 #[.slice a na ca, .slice b 0 cb] w fun e w' => e = .returned (.slice a na ca) ∧ w' = w := by
  have hza : ((na : Int) == 0) = false := by rw [beq_eq_false_iff_ne]; omega
  go_enter Try.func25, Try.ntmps25
  go_wp2
  go_ret
  exact ⟨rfl, rfl⟩

def fst (u : List Span) (i : Nat) : Int := (u.getD i (0, 0)).1
def snd (u : List Span) (i : Nat) : Int := (u.getD i (0, 0)).2

theorem fst_snd (u : List Span) : ∀ i (h : i < u.length), u[i] = (fst u i, snd u i) := by
  intro i h
  simp [fst, snd, h]

/-- union, whatever the run sets. -/
theorem union_any (a b : Option Addr) (ca cb : Nat) (LA LB : List Span) (w : World) (hca : LA.length ≤ ca) (hcb : LB.length ≤ cb) (ha : LA.length ≤ 1048576) (hb : LB.length ≤ 1048576)
    (cA : Canon LA) (cB : Canon LB) (hA : Spans w a LA.length (fst LA) (snd LA)) (hB : Spans w b LB.length (fst LB) (snd LB)) :
    Calls Try.prog 25 #[.slice a LA.length ca, .slice b LB.length cb] w fun e w' => ∃ u a' c', e = .returned (.slice a' u.length c') ∧ IsUnion LA LB u ∧ Below w.heap.size w w' ∧ Spans w' a' u.length (fst u) (snd u) ∧ u.length ≤ LA.length + LB.length := by
  by_cases h0 : LA.length = 0
  · have e : LA = [] := List.eq_nil_of_length_eq_zero h0
    subst e
    exact (union_left a b LB.length ca cb w).mono fun e w' ⟨he, hw⟩ => ⟨LB, b, cb, he, UP.isUnion_nil_left cB, hw ▸ Below.refl _ _, hw ▸ hB, by simp⟩
  · by_cases h1 : LB.length = 0
    · have e : LB = [] := List.eq_nil_of_length_eq_zero h1
      subst e
      exact (union_right a b LA.length ca cb w (by omega)).mono fun e w' ⟨he, hw⟩ => ⟨LA, a, ca, he, UP.isUnion_nil_right cA, hw ▸ Below.refl _ _, hw ▸ hA, by simp⟩
    · rcases hA with hA | ⟨ba, oa, rfl, hA⟩
      · exact absurd hA h0
      rcases hB with hB | ⟨bb, ob, rfl, hB⟩
      · exact absurd hB h1
      refine (union_some ba oa bb ob LA.length LB.length ca cb (fst LA) (snd LA) (fst LB) (snd LB) LA LB w (by omega) (by omega) hca hcb ha hb rfl rfl cA cB (fst_snd LA) (fst_snd LB) hA hB).mono ?_
      rintro e w' ⟨u, he, hu, hbel, hrow, hl⟩
      exact ⟨u, _, _, he, hu, hbel, spans_of_row hrow hl, hl⟩

theorem row_step (f : Nat → Int) (k j : Nat) : (if j = k then Value.int .i64 (f k) else if j < k then .int .i64 (f j) else .int .i64 0) = if j < k + 1 then .int .i64 (f j) else .int .i64 0 := by
  by_cases e1 : j = k
  · subst e1; simp
  · by_cases e2 : j < k
    · simp [e1, e2, show j < k + 1 by omega]
    · simp [e1, e2, show ¬ j < k + 1 by omega]

set_option maxRecDepth 100000 in
set_option maxHeartbeats 2000000 in
/-- ZZUnion. -/
theorem zzunion_any (a0 a1 a2 a3 : Option Addr) (c0 c1 c2 c3 : Nat) (LA LB : List Span) (w : World) (ha : LA.length ≤ 262144) (hb : LB.length ≤ 262144) (cA : Canon LA) (cB : Canon LB)
    (h0 : Ints w a0 LA.length (fst LA)) (h1 : Ints w a1 LA.length (snd LA)) (h2 : Ints w a2 LB.length (fst LB)) (h3 : Ints w a3 LB.length (snd LB)) :
    Calls Try.prog 10 #[.slice a0 LA.length c0, .slice a1 LA.length c1, .slice a2 LB.length c2, .slice a3 LB.length c3] w fun e w' => ∃ u a' b' c' d', e = .returned (.tuple #[.slice a' u.length c', .slice b' u.length d']) ∧ IsUnion LA LB u ∧ Below w.heap.size w w' ∧
      Ints w' a' u.length (fst u) ∧ Ints w' b' u.length (snd u) ∧ u.length ≤ LA.length + LB.length := by
  have H0 := h0
  go_enter Try.func10, Try.ntmps10
  go_wp2_with fail
  refine (runs_any a0 a1 _ c0 c1 (fst LA) (snd LA) w (by omega) h0 h1).mono ?_
  rintro e w1 ⟨x1, y1, rfl, hy1, hy1', hb1, hs1⟩
  go_wp2_with fail
  refine (runs_any a2 a3 _ c2 c3 (fst LB) (snd LB) w1 (by omega) (h2.below hb1 (Nat.le_refl _)) (h3.below hb1 (Nat.le_refl _))).mono ?_
  rintro e w2 ⟨x2, y2, rfl, hy2, hy2', hb2, hs2⟩
  go_wp2_with fail
  refine (union_any x1 x2 y1 y2 LA LB w2 hy1 hy2 (by omega) (by omega) cA cB (hs1.below hb2 (Nat.le_refl _)) hs2).mono ?_
  rintro e w3 ⟨u, x3, y3, rfl, hu, hb3, hs3, hul⟩
  have BEL : Hid (Below w.heap.size w w3) := (hb1.trans (hb2.mono hb1.size)).trans (hb3.mono (Nat.le_trans hb1.size hb2.size))
  have HU : Hid (IsUnion LA LB u) := hu
  have HS : Hid (Spans w3 x3 u.length (fst u) (snd u)) := hs3
  have HL : Hid (u.length ≤ LA.length + LB.length) := hul
  have hn : u.length ≤ 524288 := by omega
  have hsz : w.heap.size ≤ w3.heap.size := BEL.out.size
  clear hu hs3 hb1 hb2 hb3 hs1 hs2 h0 h1 h2 h3 H0 cA cB hul hy1 hy1' hy2 hy2'
  generalize hF : fst u = f at HS ⊢
  generalize hT : snd u = t at HS ⊢
  generalize hN : u.length = n at HS ⊢ hn
  have HF : Hid (fst u = f ∧ snd u = t ∧ u.length = n) := ⟨hF, hT, hN⟩
  clear hF hT hN
  have hmk := run_make_row' (P := Try.prog) 22 3 (.int .i64 0) 8 Try.underlying22 Try.info3 rfl .i64 .i64 n (by omega) (by omega)
  go_wp2
  go_loopg [27] n (fun g i wr => ∃ k : Nat, k + g = n ∧ i = .int .i64 k ∧ Below w3.heap.size w3 wr ∧ wr.rowIs w3.heap.size 3 n (fun j => if j < k then .int .i64 (f j) else .int .i64 0) ∧ wr.rowIs (w3.heap.size + 1) 3 n (fun j => if j < k then .int .i64 (t j) else .int .i64 0))
  case atStart =>
    refine ⟨0, by omega, rfl, bel_alloc (bel_alloc (Below.refl _ _) _) _, ?_, ?_⟩
    · exact ((World.rowIs_made w3 (.int .i64 0) n 3).congr (fun i _ => by simp)).alloc _
    · have h := World.rowIs_made (w3.alloc (.cells (madeCells #[.int .i64 0] n) 3)) (.int .i64 0) n 3
      rw [World.size_alloc] at h
      exact h.congr (fun i _ => by simp)
  case round =>
    obtain ⟨k, hk, rfl, hbel, hr1, hr2⟩ := hrel
    have B3 : Hid (Below w3.heap.size w3 wr) := hbel
    have R1 : Hid (wr.rowIs w3.heap.size 3 n (fun j => if j < k then .int .i64 (f j) else .int .i64 0)) := hr1
    have R2 : Hid (wr.rowIs (w3.heap.size + 1) 3 n (fun j => if j < k then .int .i64 (t j) else .int .i64 0)) := hr2
    by_cases hlt : k < n
    · rcases HS.out with h | ⟨b, off, e, hc⟩
      · omega
      have d0 := (hbel.cell (p := ⟨b, off + k * 2, none⟩) (World.block_lt_of_cell? w3 ⟨b, off + k * 2, none⟩ (hc k hlt).1)).trans (hc k hlt).1
      have d1 := (hbel.cell (p := ⟨b, off + k * 2 + 1, none⟩) (World.block_lt_of_cell? w3 ⟨b, off + k * 2 + 1, none⟩ (hc k hlt).2)).trans (hc k hlt).2
      have lb : b < w3.heap.size := World.block_lt_of_cell? w3 ⟨b, off + k * 2, none⟩ (hc k hlt).1
      subst e
      have z1 := hr1.frozen k
      have z2 := hr2.frozen k
      have g1 := hr1.cell (i := k) hlt
      have g2 := hr2.cell (i := k) hlt
      simp only [Nat.lt_irrefl, if_false] at g1 g2
      have hki : (k : Int) < (n : Int) := by omega
      clear hbel hr1 hr2 hc hmk
      go_wp2
      go_roundg (n - (k + 1))
      case measure => omega
      case rel =>
        refine ⟨k + 1, by omega, by go_num, (B3.out.setCell (Nat.le_refl _) _).setCell (by simp) _, ?_, ?_⟩
        · refine ((R1.out.set k (.int .i64 (f k))).setOther (by simp) _).congr fun j hj => row_step f k j
        · refine ((R2.out.setOther (by simp) _).set k (.int .i64 (t k))).congr fun j hj => row_step t k j
    · obtain rfl : k = n := by omega
      clear hbel hr1 hr2 hmk
      go_wp2
      go_ret2
      obtain ⟨rfl, rfl, rfl⟩ := HF.out
      exact ⟨u, _, _, _, _, rfl, HU.out, BEL.out.trans (B3.out.mono hsz), ints_of_row (R1.out.congr fun j hj => by simp [hj]), ints_of_row (R2.out.congr fun j hj => by simp [hj]), HL.out⟩
end Go.Proofs.Qxb6605208a
