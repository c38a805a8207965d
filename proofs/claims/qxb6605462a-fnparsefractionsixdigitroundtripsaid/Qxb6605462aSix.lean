import Derived.Test.Qxb6605462aParse
import Derived.Test.Qxb6605462aSixPlain
import Derived.LoopN
namespace Go.Proofs.Qxb6605462a
open Go.RowKit
open PF
set_option linter.unusedVariables false

/-- 'string(b[:n])' of bytes that lie at the head of the newest block. -/
theorem conv_new (W : World) (c : Array Value) (t : TypeId) (n cap : Nat) (ns : List Int) (hn : ns.length = n) (h : ∀ (j : Nat) (v : Value), (ns.map (Value.int .u8))[j]? = some v → c[(j : Nat)]? = some v) :
    (convert 26 9 (.slice (some ⟨W.heap.size, 0, none⟩) n cap)).run Try.prog (W.alloc (.cells c t)) = .ok (.string (strOf ns)) (W.alloc (.cells c t)) := by
  rw [run_convert_bytes_string (P := Try.prog) _ 26 9 5 _ _ _ Try.underlying26 Try.underlying5 Try.underlying9]
  refine run_bytesToString _ _ _ _ ns ?_
  have hl := run_loadCells_list (P := Try.prog) (W.alloc (.cells c t)) ⟨W.heap.size, 0, none⟩ (ns.map (Value.int .u8)) (fun j v hv => ?_)
  · rw [List.length_map, hn] at hl
    exact hl
  · have hb : (W.alloc (.cells c t)).heap[W.heap.size]? = some (.cells c t) := heap_alloc_new W _
    rw [Addr.add_lit, Nat.zero_add]
    simp only [World.cell?, hb]
    simpa using h j v hv

theorem conv8 (W : World) (t : TypeId) (n : Nat) (hn : n ≤ 8) (x0 x1 x2 x3 x4 x5 x6 x7 : Int) :
    (convert 26 9 (.slice (some ⟨W.heap.size, 0, none⟩) n 8)).run Try.prog (W.alloc (.cells #[.int .u8 x0, .int .u8 x1, .int .u8 x2, .int .u8 x3, .int .u8 x4, .int .u8 x5, .int .u8 x6, .int .u8 x7] t)) =
      .ok (.string (strOf ([x0, x1, x2, x3, x4, x5, x6, x7].take n))) (W.alloc (.cells #[.int .u8 x0, .int .u8 x1, .int .u8 x2, .int .u8 x3, .int .u8 x4, .int .u8 x5, .int .u8 x6, .int .u8 x7] t)) := by
  refine conv_new W _ t n 8 _ (by simp; omega) ?_
  intro j v hv
  rw [List.map_take, List.getElem?_take] at hv
  split at hv
  · simpa using hv
  · cases hv

set_option maxHeartbeats 1000000 in
theorem six_out (us : Int) (w : World) (h : us < 0 ∨ 999999 < us) :
    Calls Try.prog 4 #[.int .i64 us] w fun e w' => e = .returned (.bool true) ∧ w' = w := by
  rcases h with h | h
  · go_enter Try.func4, Try.ntmps4
    go_wp2
    go_ret
    exact ⟨rfl, rfl⟩
  · have h' : ¬ us < 0 := by omega
    go_enter Try.func4, Try.ntmps4
    go_wp2
    go_ret
    exact ⟨rfl, rfl⟩

theorem text1 (us : Int) (d1 d2 d3 d4 d5 d6 : Int) (e : us = 100000 * d1 + 10000 * d2 + 1000 * d3 + 100 * d4 + 10 * d5 + d6) (b1 : 0 ≤ d1 ∧ d1 ≤ 9) (b2 : 0 ≤ d2 ∧ d2 ≤ 9) (b3 : 0 ≤ d3 ∧ d3 ≤ 9) (b4 : 0 ≤ d4 ∧ d4 ≤ 9) (b5 : 0 ≤ d5 ∧ d5 ≤ 9) (b6 : 0 ≤ d6 ∧ d6 ≤ 9) (z2 : d2 = 0) (z3 : d3 = 0) (z4 : d4 = 0) (z5 : d5 = 0) (z6 : d6 = 0) : okP (strOf [46, 48 + d1]) ∧ V (strOf [46, 48 + d1]) = us := by
  have hd : ∀ d ∈ ([d1] : List Int), 0 ≤ d ∧ d ≤ 9 := by
    intro d hm
    simp only [List.mem_cons, List.not_mem_nil, or_false] at hm
    subst hm <;> assumption
  refine ⟨ok_txt [d1] (by simp) hd, ?_⟩
  have hv := V_txt [d1] hd
  have hz : V (strOf (txt [d1])) = V (strOf [46, 48 + d1]) := rfl
  rw [← hz, hv]
  simp
  omega

theorem text2 (us : Int) (d1 d2 d3 d4 d5 d6 : Int) (e : us = 100000 * d1 + 10000 * d2 + 1000 * d3 + 100 * d4 + 10 * d5 + d6) (b1 : 0 ≤ d1 ∧ d1 ≤ 9) (b2 : 0 ≤ d2 ∧ d2 ≤ 9) (b3 : 0 ≤ d3 ∧ d3 ≤ 9) (b4 : 0 ≤ d4 ∧ d4 ≤ 9) (b5 : 0 ≤ d5 ∧ d5 ≤ 9) (b6 : 0 ≤ d6 ∧ d6 ≤ 9) (z3 : d3 = 0) (z4 : d4 = 0) (z5 : d5 = 0) (z6 : d6 = 0) : okP (strOf [46, 48 + d1, 48 + d2]) ∧ V (strOf [46, 48 + d1, 48 + d2]) = us := by
  have hd : ∀ d ∈ ([d1, d2] : List Int), 0 ≤ d ∧ d ≤ 9 := by
    intro d hm
    simp only [List.mem_cons, List.not_mem_nil, or_false] at hm
    rcases hm with rfl | rfl <;> assumption
  refine ⟨ok_txt [d1, d2] (by simp) hd, ?_⟩
  have hv := V_txt [d1, d2] hd
  have hz : V (strOf (txt [d1, d2])) = V (strOf [46, 48 + d1, 48 + d2]) := rfl
  rw [← hz, hv]
  simp
  omega

theorem text3 (us : Int) (d1 d2 d3 d4 d5 d6 : Int) (e : us = 100000 * d1 + 10000 * d2 + 1000 * d3 + 100 * d4 + 10 * d5 + d6) (b1 : 0 ≤ d1 ∧ d1 ≤ 9) (b2 : 0 ≤ d2 ∧ d2 ≤ 9) (b3 : 0 ≤ d3 ∧ d3 ≤ 9) (b4 : 0 ≤ d4 ∧ d4 ≤ 9) (b5 : 0 ≤ d5 ∧ d5 ≤ 9) (b6 : 0 ≤ d6 ∧ d6 ≤ 9) (z4 : d4 = 0) (z5 : d5 = 0) (z6 : d6 = 0) : okP (strOf [46, 48 + d1, 48 + d2, 48 + d3]) ∧ V (strOf [46, 48 + d1, 48 + d2, 48 + d3]) = us := by
  have hd : ∀ d ∈ ([d1, d2, d3] : List Int), 0 ≤ d ∧ d ≤ 9 := by
    intro d hm
    simp only [List.mem_cons, List.not_mem_nil, or_false] at hm
    rcases hm with rfl | rfl | rfl <;> assumption
  refine ⟨ok_txt [d1, d2, d3] (by simp) hd, ?_⟩
  have hv := V_txt [d1, d2, d3] hd
  have hz : V (strOf (txt [d1, d2, d3])) = V (strOf [46, 48 + d1, 48 + d2, 48 + d3]) := rfl
  rw [← hz, hv]
  simp
  omega

theorem text4 (us : Int) (d1 d2 d3 d4 d5 d6 : Int) (e : us = 100000 * d1 + 10000 * d2 + 1000 * d3 + 100 * d4 + 10 * d5 + d6) (b1 : 0 ≤ d1 ∧ d1 ≤ 9) (b2 : 0 ≤ d2 ∧ d2 ≤ 9) (b3 : 0 ≤ d3 ∧ d3 ≤ 9) (b4 : 0 ≤ d4 ∧ d4 ≤ 9) (b5 : 0 ≤ d5 ∧ d5 ≤ 9) (b6 : 0 ≤ d6 ∧ d6 ≤ 9) (z5 : d5 = 0) (z6 : d6 = 0) : okP (strOf [46, 48 + d1, 48 + d2, 48 + d3, 48 + d4]) ∧ V (strOf [46, 48 + d1, 48 + d2, 48 + d3, 48 + d4]) = us := by
  have hd : ∀ d ∈ ([d1, d2, d3, d4] : List Int), 0 ≤ d ∧ d ≤ 9 := by
    intro d hm
    simp only [List.mem_cons, List.not_mem_nil, or_false] at hm
    rcases hm with rfl | rfl | rfl | rfl <;> assumption
  refine ⟨ok_txt [d1, d2, d3, d4] (by simp) hd, ?_⟩
  have hv := V_txt [d1, d2, d3, d4] hd
  have hz : V (strOf (txt [d1, d2, d3, d4])) = V (strOf [46, 48 + d1, 48 + d2, 48 + d3, 48 + d4]) := rfl
  rw [← hz, hv]
  simp
  omega

theorem text5 (us : Int) (d1 d2 d3 d4 d5 d6 : Int) (e : us = 100000 * d1 + 10000 * d2 + 1000 * d3 + 100 * d4 + 10 * d5 + d6) (b1 : 0 ≤ d1 ∧ d1 ≤ 9) (b2 : 0 ≤ d2 ∧ d2 ≤ 9) (b3 : 0 ≤ d3 ∧ d3 ≤ 9) (b4 : 0 ≤ d4 ∧ d4 ≤ 9) (b5 : 0 ≤ d5 ∧ d5 ≤ 9) (b6 : 0 ≤ d6 ∧ d6 ≤ 9) (z6 : d6 = 0) : okP (strOf [46, 48 + d1, 48 + d2, 48 + d3, 48 + d4, 48 + d5]) ∧ V (strOf [46, 48 + d1, 48 + d2, 48 + d3, 48 + d4, 48 + d5]) = us := by
  have hd : ∀ d ∈ ([d1, d2, d3, d4, d5] : List Int), 0 ≤ d ∧ d ≤ 9 := by
    intro d hm
    simp only [List.mem_cons, List.not_mem_nil, or_false] at hm
    rcases hm with rfl | rfl | rfl | rfl | rfl <;> assumption
  refine ⟨ok_txt [d1, d2, d3, d4, d5] (by simp) hd, ?_⟩
  have hv := V_txt [d1, d2, d3, d4, d5] hd
  have hz : V (strOf (txt [d1, d2, d3, d4, d5])) = V (strOf [46, 48 + d1, 48 + d2, 48 + d3, 48 + d4, 48 + d5]) := rfl
  rw [← hz, hv]
  simp
  omega

theorem text6 (us : Int) (d1 d2 d3 d4 d5 d6 : Int) (e : us = 100000 * d1 + 10000 * d2 + 1000 * d3 + 100 * d4 + 10 * d5 + d6) (b1 : 0 ≤ d1 ∧ d1 ≤ 9) (b2 : 0 ≤ d2 ∧ d2 ≤ 9) (b3 : 0 ≤ d3 ∧ d3 ≤ 9) (b4 : 0 ≤ d4 ∧ d4 ≤ 9) (b5 : 0 ≤ d5 ∧ d5 ≤ 9) (b6 : 0 ≤ d6 ∧ d6 ≤ 9)  : okP (strOf [46, 48 + d1, 48 + d2, 48 + d3, 48 + d4, 48 + d5, 48 + d6]) ∧ V (strOf [46, 48 + d1, 48 + d2, 48 + d3, 48 + d4, 48 + d5, 48 + d6]) = us := by
  have hd : ∀ d ∈ ([d1, d2, d3, d4, d5, d6] : List Int), 0 ≤ d ∧ d ≤ 9 := by
    intro d hm
    simp only [List.mem_cons, List.not_mem_nil, or_false] at hm
    rcases hm with rfl | rfl | rfl | rfl | rfl | rfl <;> assumption
  refine ⟨ok_txt [d1, d2, d3, d4, d5, d6] (by simp) hd, ?_⟩
  have hv := V_txt [d1, d2, d3, d4, d5, d6] hd
  have hz : V (strOf (txt [d1, d2, d3, d4, d5, d6])) = V (strOf [46, 48 + d1, 48 + d2, 48 + d3, 48 + d4, 48 + d5, 48 + d6]) := rfl
  rw [← hz, hv]
  simp
  omega

theorem textdown (us : Int) (d1 d2 d3 d4 d5 d6 : Int) (e : us = 100000 * d1 + 10000 * d2 + 1000 * d3 + 100 * d4 + 10 * d5 + d6) (b1 : 0 ≤ d1 ∧ d1 ≤ 9) (b2 : 0 ≤ d2 ∧ d2 ≤ 9) (b3 : 0 ≤ d3 ∧ d3 ≤ 9) (b4 : 0 ≤ d4 ∧ d4 ≤ 9) (b5 : 0 ≤ d5 ∧ d5 ≤ 9) (b6 : 0 ≤ d6 ∧ d6 ≤ 9) : okP (strOf [46, 48 + d1, 48 + d2, 48 + d3, 48 + d4, 48 + d5, 48 + d6, 52]) ∧ V (strOf [46, 48 + d1, 48 + d2, 48 + d3, 48 + d4, 48 + d5, 48 + d6, 52]) = us := by
  have hd : ∀ d ∈ ([d1, d2, d3, d4, d5, d6, 4] : List Int), 0 ≤ d ∧ d ≤ 9 := by
    intro d hm
    simp only [List.mem_cons, List.not_mem_nil, or_false] at hm
    rcases hm with rfl | rfl | rfl | rfl | rfl | rfl | rfl
    all_goals first | assumption | decide
  refine ⟨ok_txt [d1, d2, d3, d4, d5, d6, 4] (by simp) hd, ?_⟩
  have hv := V_txt [d1, d2, d3, d4, d5, d6, 4] hd
  have hz : V (strOf (txt [d1, d2, d3, d4, d5, d6, 4])) = V (strOf [46, 48 + d1, 48 + d2, 48 + d3, 48 + d4, 48 + d5, 48 + d6, 52]) := rfl
  rw [← hz, hv]
  simp
  omega

theorem textup (us : Int) (d1 d2 d3 d4 d5 d6 : Int) (e : us = 100000 * d1 + 10000 * d2 + 1000 * d3 + 100 * d4 + 10 * d5 + d6) (b1 : 0 ≤ d1 ∧ d1 ≤ 9) (b2 : 0 ≤ d2 ∧ d2 ≤ 9) (b3 : 0 ≤ d3 ∧ d3 ≤ 9) (b4 : 0 ≤ d4 ∧ d4 ≤ 9) (b5 : 0 ≤ d5 ∧ d5 ≤ 9) (b6 : 0 ≤ d6 ∧ d6 ≤ 9) : okP (strOf [46, 48 + d1, 48 + d2, 48 + d3, 48 + d4, 48 + d5, 48 + d6, 53]) ∧ V (strOf [46, 48 + d1, 48 + d2, 48 + d3, 48 + d4, 48 + d5, 48 + d6, 53]) = us + 1 := by
  have hd : ∀ d ∈ ([d1, d2, d3, d4, d5, d6, 5] : List Int), 0 ≤ d ∧ d ≤ 9 := by
    intro d hm
    simp only [List.mem_cons, List.not_mem_nil, or_false] at hm
    rcases hm with rfl | rfl | rfl | rfl | rfl | rfl | rfl
    all_goals first | assumption | decide
  refine ⟨ok_txt [d1, d2, d3, d4, d5, d6, 5] (by simp) hd, ?_⟩
  have hv := V_txt [d1, d2, d3, d4, d5, d6, 5] hd
  have hz : V (strOf (txt [d1, d2, d3, d4, d5, d6, 5])) = V (strOf [46, 48 + d1, 48 + d2, 48 + d3, 48 + d4, 48 + d5, 48 + d6, 53]) := rfl
  rw [← hz, hv]
  simp
  omega

set_option maxHeartbeats 4000000 in
theorem six_in (us : Int) (w : World) (h0 : 0 ≤ us) (h1 : us ≤ 999999) :
    Calls Try.prog 4 #[.int .i64 us] w fun e w' => e = .returned (.bool true) ∧ Grown w w' := by
  have k2 := fun (t : TypeId) (x0 x1 x2 x3 x4 x5 x6 x7 : Int) => conv8 w t 2 (by omega) x0 x1 x2 x3 x4 x5 x6 x7
  have k3 := fun (t : TypeId) (x0 x1 x2 x3 x4 x5 x6 x7 : Int) => conv8 w t 3 (by omega) x0 x1 x2 x3 x4 x5 x6 x7
  have k4 := fun (t : TypeId) (x0 x1 x2 x3 x4 x5 x6 x7 : Int) => conv8 w t 4 (by omega) x0 x1 x2 x3 x4 x5 x6 x7
  have k5 := fun (t : TypeId) (x0 x1 x2 x3 x4 x5 x6 x7 : Int) => conv8 w t 5 (by omega) x0 x1 x2 x3 x4 x5 x6 x7
  have k6 := fun (t : TypeId) (x0 x1 x2 x3 x4 x5 x6 x7 : Int) => conv8 w t 6 (by omega) x0 x1 x2 x3 x4 x5 x6 x7
  have k7 := fun (t : TypeId) (x0 x1 x2 x3 x4 x5 x6 x7 : Int) => conv8 w t 7 (by omega) x0 x1 x2 x3 x4 x5 x6 x7
  have k8 := fun (t : TypeId) (x0 x1 x2 x3 x4 x5 x6 x7 : Int) => conv8 w t 8 (by omega) x0 x1 x2 x3 x4 x5 x6 x7
  simp only [List.take] at k2 k3 k4 k5 k6 k7 k8
  obtain ⟨d6, e6⟩ : ∃ d, us % 10 = d := ⟨_, rfl⟩
  obtain ⟨d5, e5⟩ : ∃ d, us / 10 % 10 = d := ⟨_, rfl⟩
  obtain ⟨d4, e4⟩ : ∃ d, us / 10 / 10 % 10 = d := ⟨_, rfl⟩
  obtain ⟨d3, e3⟩ : ∃ d, us / 10 / 10 / 10 % 10 = d := ⟨_, rfl⟩
  obtain ⟨d2, e2⟩ : ∃ d, us / 10 / 10 / 10 / 10 % 10 = d := ⟨_, rfl⟩
  obtain ⟨d1, e1⟩ : ∃ d, us / 10 / 10 / 10 / 10 / 10 % 10 = d := ⟨_, rfl⟩
  have g1 : 0 ≤ d1 ∧ d1 ≤ 9 := by omega
  have g2 : 0 ≤ d2 ∧ d2 ≤ 9 := by omega
  have g3 : 0 ≤ d3 ∧ d3 ≤ 9 := by omega
  have g4 : 0 ≤ d4 ∧ d4 ≤ 9 := by omega
  have g5 : 0 ≤ d5 ∧ d5 ≤ 9 := by omega
  have g6 : 0 ≤ d6 ∧ d6 ≤ 9 := by omega
  have E : Hid (us = 100000 * d1 + 10000 * d2 + 1000 * d3 + 100 * d4 + 10 * d5 + d6) := by show us = _; omega
  have t1 := text6 us d1 d2 d3 d4 d5 d6 E.out g1 g2 g3 g4 g5 g6
  have t3 := textdown us d1 d2 d3 d4 d5 d6 E.out g1 g2 g3 g4 g5 g6
  have t4 := textup us d1 d2 d3 d4 d5 d6 E.out g1 g2 g3 g4 g5 g6
  have o1 : Hid (okP (strOf [46, 48 + d1, 48 + d2, 48 + d3, 48 + d4, 48 + d5, 48 + d6])) := t1.1
  have o3 : Hid (okP (strOf [46, 48 + d1, 48 + d2, 48 + d3, 48 + d4, 48 + d5, 48 + d6, 52])) := t3.1
  have o4 : Hid (okP (strOf [46, 48 + d1, 48 + d2, 48 + d3, 48 + d4, 48 + d5, 48 + d6, 53])) := t4.1
  have q1 : (V (strOf [46, 48 + d1, 48 + d2, 48 + d3, 48 + d4, 48 + d5, 48 + d6]) == us) = true := by simpa using t1.2
  have q3 : (V (strOf [46, 48 + d1, 48 + d2, 48 + d3, 48 + d4, 48 + d5, 48 + d6, 52]) == us) = true := by simpa using t3.2
  have q4 : (V (strOf [46, 48 + d1, 48 + d2, 48 + d3, 48 + d4, 48 + d5, 48 + d6, 53]) == us + 1) = true := by simpa using t4.2
  clear t1 t3 t4
  go_enter Try.func4, Try.ntmps4
  go_wp2
  refine wp_loop_rounds 7 ?_
  iterate 7 (rw [rounds_succ]; go_wp2)
  go_loop [7] (fun e => e = .int .i64 6 ∨ (d6 = 0 ∧ e = .int .i64 5) ∨ (d6 = 0 ∧ d5 = 0 ∧ e = .int .i64 4) ∨ (d6 = 0 ∧ d5 = 0 ∧ d4 = 0 ∧ e = .int .i64 3) ∨ (d6 = 0 ∧ d5 = 0 ∧ d4 = 0 ∧ d3 = 0 ∧ e = .int .i64 2) ∨ (d6 = 0 ∧ d5 = 0 ∧ d4 = 0 ∧ d3 = 0 ∧ d2 = 0 ∧ e = .int .i64 1)) (fun i => (intOf i).toNat)
  case atStart => exact .inl rfl
  case round =>
    clear e1 e2 e3 e4 e5 e6
    rcases hrel with rfl | ⟨z6, rfl⟩ | ⟨z6, z5, rfl⟩ | ⟨z6, z5, z4, rfl⟩ | ⟨z6, z5, z4, z3, rfl⟩ | ⟨z6, z5, z4, z3, z2, rfl⟩
    · have t2 := text6 us d1 d2 d3 d4 d5 d6 E.out g1 g2 g3 g4 g5 g6 
      have o2 : Hid (okP (strOf [46, 48 + d1, 48 + d2, 48 + d3, 48 + d4, 48 + d5, 48 + d6])) := t2.1
      have q2 : (V (strOf [46, 48 + d1, 48 + d2, 48 + d3, 48 + d4, 48 + d5, 48 + d6]) == us) = true := by simpa using t2.2
      clear t2
      by_cases hd : d6 = 0
      · have HD : Hid (d6 = 0) := hd
        have hb : ((48 + d6 : Int) == 48) = true := by simp [hd]
        clear hd
        go_wp2
        go_round
        case rel => exact .inr (.inl ⟨HD.out, rfl⟩)
        case measure => simp [intOf]
      · have hb : ((48 + d6 : Int) == 48) = false := by rw [beq_eq_false_iff_ne]; omega
        go_wp2_with fail
        refine (zzpf_yes _ _ (by rw [strOf_size]; simp [maxLen]) o1.out).mono ?_
        rintro e wx ⟨rfl, rfl⟩
        go_wp2_with fail
        refine (zzpf_yes _ _ (by rw [strOf_size]; simp [maxLen]) o2.out).mono ?_
        rintro e wx ⟨rfl, rfl⟩
        go_wp2_with fail
        refine (zzpf_yes _ _ (by rw [strOf_size]; simp [maxLen]) o3.out).mono ?_
        rintro e wx ⟨rfl, rfl⟩
        go_wp2_with fail
        refine (zzpf_yes _ _ (by rw [strOf_size]; simp [maxLen]) o4.out).mono ?_
        rintro e wx ⟨rfl, rfl⟩
        go_wp2
        go_ret
        exact ⟨rfl, (Grown.refl _).alloc _ _⟩
    · have Hz6 : Hid (d6 = 0) := z6
      have t2 := text5 us d1 d2 d3 d4 d5 d6 E.out g1 g2 g3 g4 g5 g6 Hz6.out
      have o2 : Hid (okP (strOf [46, 48 + d1, 48 + d2, 48 + d3, 48 + d4, 48 + d5])) := t2.1
      have q2 : (V (strOf [46, 48 + d1, 48 + d2, 48 + d3, 48 + d4, 48 + d5]) == us) = true := by simpa using t2.2
      clear t2
      clear z6
      by_cases hd : d5 = 0
      · have HD : Hid (d5 = 0) := hd
        have hb : ((48 + d5 : Int) == 48) = true := by simp [hd]
        clear hd
        go_wp2
        go_round
        case rel => exact .inr (.inr (.inl ⟨Hz6.out, HD.out, rfl⟩))
        case measure => simp [intOf]
      · have hb : ((48 + d5 : Int) == 48) = false := by rw [beq_eq_false_iff_ne]; omega
        go_wp2_with fail
        refine (zzpf_yes _ _ (by rw [strOf_size]; simp [maxLen]) o1.out).mono ?_
        rintro e wx ⟨rfl, rfl⟩
        go_wp2_with fail
        refine (zzpf_yes _ _ (by rw [strOf_size]; simp [maxLen]) o2.out).mono ?_
        rintro e wx ⟨rfl, rfl⟩
        go_wp2_with fail
        refine (zzpf_yes _ _ (by rw [strOf_size]; simp [maxLen]) o3.out).mono ?_
        rintro e wx ⟨rfl, rfl⟩
        go_wp2_with fail
        refine (zzpf_yes _ _ (by rw [strOf_size]; simp [maxLen]) o4.out).mono ?_
        rintro e wx ⟨rfl, rfl⟩
        go_wp2
        go_ret
        exact ⟨rfl, (Grown.refl _).alloc _ _⟩
    · have Hz6 : Hid (d6 = 0) := z6
      have Hz5 : Hid (d5 = 0) := z5
      have t2 := text4 us d1 d2 d3 d4 d5 d6 E.out g1 g2 g3 g4 g5 g6 Hz5.out Hz6.out
      have o2 : Hid (okP (strOf [46, 48 + d1, 48 + d2, 48 + d3, 48 + d4])) := t2.1
      have q2 : (V (strOf [46, 48 + d1, 48 + d2, 48 + d3, 48 + d4]) == us) = true := by simpa using t2.2
      clear t2
      clear z6 z5
      by_cases hd : d4 = 0
      · have HD : Hid (d4 = 0) := hd
        have hb : ((48 + d4 : Int) == 48) = true := by simp [hd]
        clear hd
        go_wp2
        go_round
        case rel => exact .inr (.inr (.inr (.inl ⟨Hz6.out, Hz5.out, HD.out, rfl⟩)))
        case measure => simp [intOf]
      · have hb : ((48 + d4 : Int) == 48) = false := by rw [beq_eq_false_iff_ne]; omega
        go_wp2_with fail
        refine (zzpf_yes _ _ (by rw [strOf_size]; simp [maxLen]) o1.out).mono ?_
        rintro e wx ⟨rfl, rfl⟩
        go_wp2_with fail
        refine (zzpf_yes _ _ (by rw [strOf_size]; simp [maxLen]) o2.out).mono ?_
        rintro e wx ⟨rfl, rfl⟩
        go_wp2_with fail
        refine (zzpf_yes _ _ (by rw [strOf_size]; simp [maxLen]) o3.out).mono ?_
        rintro e wx ⟨rfl, rfl⟩
        go_wp2_with fail
        refine (zzpf_yes _ _ (by rw [strOf_size]; simp [maxLen]) o4.out).mono ?_
        rintro e wx ⟨rfl, rfl⟩
        go_wp2
        go_ret
        exact ⟨rfl, (Grown.refl _).alloc _ _⟩
    · have Hz6 : Hid (d6 = 0) := z6
      have Hz5 : Hid (d5 = 0) := z5
      have Hz4 : Hid (d4 = 0) := z4
      have t2 := text3 us d1 d2 d3 d4 d5 d6 E.out g1 g2 g3 g4 g5 g6 Hz4.out Hz5.out Hz6.out
      have o2 : Hid (okP (strOf [46, 48 + d1, 48 + d2, 48 + d3])) := t2.1
      have q2 : (V (strOf [46, 48 + d1, 48 + d2, 48 + d3]) == us) = true := by simpa using t2.2
      clear t2
      clear z6 z5 z4
      by_cases hd : d3 = 0
      · have HD : Hid (d3 = 0) := hd
        have hb : ((48 + d3 : Int) == 48) = true := by simp [hd]
        clear hd
        go_wp2
        go_round
        case rel => exact .inr (.inr (.inr (.inr (.inl ⟨Hz6.out, Hz5.out, Hz4.out, HD.out, rfl⟩))))
        case measure => simp [intOf]
      · have hb : ((48 + d3 : Int) == 48) = false := by rw [beq_eq_false_iff_ne]; omega
        go_wp2_with fail
        refine (zzpf_yes _ _ (by rw [strOf_size]; simp [maxLen]) o1.out).mono ?_
        rintro e wx ⟨rfl, rfl⟩
        go_wp2_with fail
        refine (zzpf_yes _ _ (by rw [strOf_size]; simp [maxLen]) o2.out).mono ?_
        rintro e wx ⟨rfl, rfl⟩
        go_wp2_with fail
        refine (zzpf_yes _ _ (by rw [strOf_size]; simp [maxLen]) o3.out).mono ?_
        rintro e wx ⟨rfl, rfl⟩
        go_wp2_with fail
        refine (zzpf_yes _ _ (by rw [strOf_size]; simp [maxLen]) o4.out).mono ?_
        rintro e wx ⟨rfl, rfl⟩
        go_wp2
        go_ret
        exact ⟨rfl, (Grown.refl _).alloc _ _⟩
    · have Hz6 : Hid (d6 = 0) := z6
      have Hz5 : Hid (d5 = 0) := z5
      have Hz4 : Hid (d4 = 0) := z4
      have Hz3 : Hid (d3 = 0) := z3
      have t2 := text2 us d1 d2 d3 d4 d5 d6 E.out g1 g2 g3 g4 g5 g6 Hz3.out Hz4.out Hz5.out Hz6.out
      have o2 : Hid (okP (strOf [46, 48 + d1, 48 + d2])) := t2.1
      have q2 : (V (strOf [46, 48 + d1, 48 + d2]) == us) = true := by simpa using t2.2
      clear t2
      clear z6 z5 z4 z3
      by_cases hd : d2 = 0
      · have HD : Hid (d2 = 0) := hd
        have hb : ((48 + d2 : Int) == 48) = true := by simp [hd]
        clear hd
        go_wp2
        go_round
        case rel => exact .inr (.inr (.inr (.inr (.inr (⟨Hz6.out, Hz5.out, Hz4.out, Hz3.out, HD.out, rfl⟩)))))
        case measure => simp [intOf]
      · have hb : ((48 + d2 : Int) == 48) = false := by rw [beq_eq_false_iff_ne]; omega
        go_wp2_with fail
        refine (zzpf_yes _ _ (by rw [strOf_size]; simp [maxLen]) o1.out).mono ?_
        rintro e wx ⟨rfl, rfl⟩
        go_wp2_with fail
        refine (zzpf_yes _ _ (by rw [strOf_size]; simp [maxLen]) o2.out).mono ?_
        rintro e wx ⟨rfl, rfl⟩
        go_wp2_with fail
        refine (zzpf_yes _ _ (by rw [strOf_size]; simp [maxLen]) o3.out).mono ?_
        rintro e wx ⟨rfl, rfl⟩
        go_wp2_with fail
        refine (zzpf_yes _ _ (by rw [strOf_size]; simp [maxLen]) o4.out).mono ?_
        rintro e wx ⟨rfl, rfl⟩
        go_wp2
        go_ret
        exact ⟨rfl, (Grown.refl _).alloc _ _⟩
    · have Hz6 : Hid (d6 = 0) := z6
      have Hz5 : Hid (d5 = 0) := z5
      have Hz4 : Hid (d4 = 0) := z4
      have Hz3 : Hid (d3 = 0) := z3
      have Hz2 : Hid (d2 = 0) := z2
      have t2 := text1 us d1 d2 d3 d4 d5 d6 E.out g1 g2 g3 g4 g5 g6 Hz2.out Hz3.out Hz4.out Hz5.out Hz6.out
      have o2 : Hid (okP (strOf [46, 48 + d1])) := t2.1
      have q2 : (V (strOf [46, 48 + d1]) == us) = true := by simpa using t2.2
      clear t2
      clear z6 z5 z4 z3 z2
      go_wp2_with fail
      refine (zzpf_yes _ _ (by rw [strOf_size]; simp [maxLen]) o1.out).mono ?_
      rintro e wx ⟨rfl, rfl⟩
      go_wp2_with fail
      refine (zzpf_yes _ _ (by rw [strOf_size]; simp [maxLen]) o2.out).mono ?_
      rintro e wx ⟨rfl, rfl⟩
      go_wp2_with fail
      refine (zzpf_yes _ _ (by rw [strOf_size]; simp [maxLen]) o3.out).mono ?_
      rintro e wx ⟨rfl, rfl⟩
      go_wp2_with fail
      refine (zzpf_yes _ _ (by rw [strOf_size]; simp [maxLen]) o4.out).mono ?_
      rintro e wx ⟨rfl, rfl⟩
      go_wp2
      go_ret
      exact ⟨rfl, (Grown.refl _).alloc _ _⟩

theorem six_any (us : Int) (w : World) : Calls Try.prog 4 #[.int .i64 us] w fun e w' => e = .returned (.bool true) ∧ Grown w w' := by
  by_cases h : us < 0 ∨ 999999 < us
  · exact (six_out us w h).mono fun e w' ⟨he, hw⟩ => ⟨he, hw ▸ Grown.refl _⟩
  · exact six_in us w (by omega) (by omega)
end Go.Proofs.Qxb6605462a
