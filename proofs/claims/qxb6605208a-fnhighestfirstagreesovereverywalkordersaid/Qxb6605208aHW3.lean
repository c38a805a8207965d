import Derived.Test.Qxb6605208aHW2
namespace Go.Proofs.Qxb6605208a
open Go.RowKit
open HP (WOK)

/-- The slice at a, of n elements, holds the strings s 0 .. s (n - 1). -/
def Strs (w : World) (a : Option Addr) (n : Nat) (s : Nat → ByteArray) : Prop :=
  n = 0 ∨ ∃ b off, a = some ⟨b, off, none⟩ ∧ ∀ i, i < n → w.cell? ⟨b, off + i, none⟩ = some (.string (s i))

theorem Strs.below {w w' : World} {a : Option Addr} {n : Nat} {s : Nat → ByteArray} (h : Strs w a n s) {B : Nat} (hb : Below B w w') (hB : w.heap.size ≤ B) : Strs w' a n s := by
  rcases h with h | ⟨b, off, ha, hc⟩
  · exact .inl h
  · refine .inr ⟨b, off, ha, fun i hi => ?_⟩
    have hlt : b < w.heap.size := World.block_lt_of_cell? w ⟨b, off + i, none⟩ (hc i hi)
    rw [hb.cell (p := ⟨b, off + i, none⟩) (by simp; omega)]
    exact hc i hi

/-- Some bool is returned, and the world is as it was. -/
def SomeB (w : World) (e : Ending) (w' : World) : Prop := ∃ r : Bool, e = .returned (.bool r) ∧ w' = w

set_option maxRecDepth 100000 in
set_option maxHeartbeats 4000000 in
theorem some15 (a0 a1 a2 a3 a4 a5 : Option Addr) (n0 c0 n1 c1 n2 c2 n3 c3 n4 c4 n5 c5 : Nat) (s0 s1 : Nat → ByteArray) (w : World) (h0 : Strs w a0 n0 s0) (h1 : Strs w a1 n1 s1) :
    Calls Try.prog 15 #[.slice a0 n0 c0, .slice a1 n1 c1, .slice a2 n2 c2, .slice a3 n3 c3, .slice a4 n4 c4, .slice a5 n5 c5] w fun e w' => SomeB w e w' := by
  have H0 : Hid (Strs w a0 n0 s0) := h0
  have H1 : Hid (Strs w a1 n1 s1) := h1
  clear h0 h1
  by_cases k0 : n0 ≤ 1048576
  · have d0 : decide ((1048576 : Int) < (n0 : Int)) = false := decide_eq_false (by omega)
    by_cases k1 : n1 ≤ 1048576
    · have d1 : decide ((1048576 : Int) < (n1 : Int)) = false := decide_eq_false (by omega)
      go_enter Try.func15, Try.ntmps15
      go_wp2
      go_loopg [13, 14] n0 (fun g z i wr => ∃ (k : Nat) (zz : Int), k + g = n0 ∧ i = .int .i64 k ∧ z = .int .i64 zz ∧ w = wr)
      case atStart => exact ⟨0, _, by omega, rfl, rfl, rfl⟩
      case round =>
        obtain ⟨k, zz, hk, rfl, rfl, rfl⟩ := hrel
        by_cases hlt : k < n0
        · have hlt' : (k : Int) < (n0 : Int) := by omega
          rcases H0.out with h0 | ⟨b, off, e, hc⟩
          · omega
          have ck := hc k hlt
          subst e
          clear hc
          go_wp2
          all_goals first | (go_ret; exact ⟨_, rfl, rfl⟩) | (go_roundg (n0 - (k + 1)); (case measure => omega); (case rel => exact ⟨k + 1, _, by omega, by go_num, rfl, rfl⟩))
        · go_wp2
          all_goals first | (go_ret; exact ⟨_, rfl, rfl⟩) | skip
          go_loopg [13, 15] n1 (fun g z i wr => ∃ (k : Nat) (zz : Int), k + g = n1 ∧ i = .int .i64 k ∧ z = .int .i64 zz ∧ w = wr)
          case atStart => exact ⟨0, _, by omega, rfl, rfl, rfl⟩
          case round =>
            obtain ⟨k, zz, hk, rfl, rfl, rfl⟩ := hrel
            by_cases hlt : k < n1
            · have hlt' : (k : Int) < (n1 : Int) := by omega
              rcases H1.out with h0 | ⟨b, off, e, hc⟩
              · omega
              have ck := hc k hlt
              subst e
              clear hc
              go_wp2
              all_goals first | (go_ret; exact ⟨_, rfl, rfl⟩) | (go_roundg (n1 - (k + 1)); (case measure => omega); (case rel => exact ⟨k + 1, _, by omega, by go_num, rfl, rfl⟩))
            · go_wp2
              all_goals (go_ret; exact ⟨_, rfl, rfl⟩)
    · have d1 : decide ((1048576 : Int) < (n1 : Int)) = true := decide_eq_true (by omega)
      go_enter Try.func15, Try.ntmps15
      go_wp2
      go_loopg [13, 14] n0 (fun g z i wr => ∃ (k : Nat) (zz : Int), k + g = n0 ∧ i = .int .i64 k ∧ z = .int .i64 zz ∧ w = wr)
      case atStart => exact ⟨0, _, by omega, rfl, rfl, rfl⟩
      case round =>
        obtain ⟨k, zz, hk, rfl, rfl, rfl⟩ := hrel
        by_cases hlt : k < n0
        · have hlt' : (k : Int) < (n0 : Int) := by omega
          rcases H0.out with h0 | ⟨b, off, e, hc⟩
          · omega
          have ck := hc k hlt
          subst e
          clear hc
          go_wp2
          all_goals first | (go_ret; exact ⟨_, rfl, rfl⟩) | (go_roundg (n0 - (k + 1)); (case measure => omega); (case rel => exact ⟨k + 1, _, by omega, by go_num, rfl, rfl⟩))
        · go_wp2
          all_goals (go_ret; exact ⟨_, rfl, rfl⟩)
  · have d0 : decide ((1048576 : Int) < (n0 : Int)) = true := decide_eq_true (by omega)
    go_enter Try.func15, Try.ntmps15
    go_wp2
    go_ret
    exact ⟨_, rfl, rfl⟩

set_option maxRecDepth 100000 in
set_option maxHeartbeats 4000000 in
theorem some22 (a0 a1 a2 a3 a4 a5 : Option Addr) (n0 c0 n1 c1 n2 c2 n3 c3 n4 c4 n5 c5 : Nat) (s0 s1 : Nat → ByteArray) (w : World) (h0 : Strs w a0 n0 s0) (h1 : Strs w a1 n1 s1) :
    Calls Try.prog 22 #[.slice a0 n0 c0, .slice a1 n1 c1, .slice a2 n2 c2, .slice a3 n3 c3, .slice a4 n4 c4, .slice a5 n5 c5] w fun e w' => SomeB w e w' := by
  have H0 : Hid (Strs w a0 n0 s0) := h0
  have H1 : Hid (Strs w a1 n1 s1) := h1
  clear h0 h1
  by_cases k0 : n0 ≤ 1048576
  · have d0 : decide ((1048576 : Int) < (n0 : Int)) = false := decide_eq_false (by omega)
    by_cases k1 : n1 ≤ 1048576
    · have d1 : decide ((1048576 : Int) < (n1 : Int)) = false := decide_eq_false (by omega)
      go_enter Try.func22, Try.ntmps22
      go_wp2
      go_loopg [13, 14] n0 (fun g z i wr => ∃ (k : Nat) (zz : Int), k + g = n0 ∧ i = .int .i64 k ∧ z = .int .i64 zz ∧ w = wr)
      case atStart => exact ⟨0, _, by omega, rfl, rfl, rfl⟩
      case round =>
        obtain ⟨k, zz, hk, rfl, rfl, rfl⟩ := hrel
        by_cases hlt : k < n0
        · have hlt' : (k : Int) < (n0 : Int) := by omega
          rcases H0.out with h0 | ⟨b, off, e, hc⟩
          · omega
          have ck := hc k hlt
          subst e
          clear hc
          go_wp2
          all_goals first | (go_ret; exact ⟨_, rfl, rfl⟩) | (go_roundg (n0 - (k + 1)); (case measure => omega); (case rel => exact ⟨k + 1, _, by omega, by go_num, rfl, rfl⟩))
        · go_wp2
          all_goals first | (go_ret; exact ⟨_, rfl, rfl⟩) | skip
          go_loopg [13, 15] n1 (fun g z i wr => ∃ (k : Nat) (zz : Int), k + g = n1 ∧ i = .int .i64 k ∧ z = .int .i64 zz ∧ w = wr)
          case atStart => exact ⟨0, _, by omega, rfl, rfl, rfl⟩
          case round =>
            obtain ⟨k, zz, hk, rfl, rfl, rfl⟩ := hrel
            by_cases hlt : k < n1
            · have hlt' : (k : Int) < (n1 : Int) := by omega
              rcases H1.out with h0 | ⟨b, off, e, hc⟩
              · omega
              have ck := hc k hlt
              subst e
              clear hc
              go_wp2
              all_goals first | (go_ret; exact ⟨_, rfl, rfl⟩) | (go_roundg (n1 - (k + 1)); (case measure => omega); (case rel => exact ⟨k + 1, _, by omega, by go_num, rfl, rfl⟩))
            · go_wp2
              all_goals (go_ret; exact ⟨_, rfl, rfl⟩)
    · have d1 : decide ((1048576 : Int) < (n1 : Int)) = true := decide_eq_true (by omega)
      go_enter Try.func22, Try.ntmps22
      go_wp2
      go_loopg [13, 14] n0 (fun g z i wr => ∃ (k : Nat) (zz : Int), k + g = n0 ∧ i = .int .i64 k ∧ z = .int .i64 zz ∧ w = wr)
      case atStart => exact ⟨0, _, by omega, rfl, rfl, rfl⟩
      case round =>
        obtain ⟨k, zz, hk, rfl, rfl, rfl⟩ := hrel
        by_cases hlt : k < n0
        · have hlt' : (k : Int) < (n0 : Int) := by omega
          rcases H0.out with h0 | ⟨b, off, e, hc⟩
          · omega
          have ck := hc k hlt
          subst e
          clear hc
          go_wp2
          all_goals first | (go_ret; exact ⟨_, rfl, rfl⟩) | (go_roundg (n0 - (k + 1)); (case measure => omega); (case rel => exact ⟨k + 1, _, by omega, by go_num, rfl, rfl⟩))
        · go_wp2
          all_goals (go_ret; exact ⟨_, rfl, rfl⟩)
  · have d0 : decide ((1048576 : Int) < (n0 : Int)) = true := decide_eq_true (by omega)
    go_enter Try.func22, Try.ntmps22
    go_wp2
    go_ret
    exact ⟨_, rfl, rfl⟩

set_option maxRecDepth 100000 in
set_option maxHeartbeats 4000000 in
theorem some16 (a0 a1 a2 a3 a4 a5 : Option Addr) (n0 c0 n1 c1 n2 c2 n3 c3 n4 c4 n5 c5 : Nat) (s0 s1 : Nat → ByteArray) (w : World) (k0 : n0 ≤ 4096) (k1 : n1 ≤ 4096) (k2 : n2 ≤ 8192) (k3 : n3 ≤ 8192) (k4 : n4 ≤ 4096) (k5 : n5 ≤ 4096) (h0 : Strs w a0 n0 s0) (h1 : Strs w a1 n1 s1) :
    Calls Try.prog 16 #[.slice a0 n0 c0, .slice a1 n1 c1, .slice a2 n2 c2, .slice a3 n3 c3, .slice a4 n4 c4, .slice a5 n5 c5] w fun e w' => SomeB w e w' := by
  have H0 : Hid (Strs w a0 n0 s0) := h0
  have H1 : Hid (Strs w a1 n1 s1) := h1
  clear h0 h1
  have d0 : decide ((4096 : Int) < (n0 : Int)) = false := decide_eq_false (by omega)
  have d1 : decide ((4096 : Int) < (n1 : Int)) = false := decide_eq_false (by omega)
  have d2 : decide ((8192 : Int) < (n2 : Int)) = false := decide_eq_false (by omega)
  have d3 : decide ((8192 : Int) < (n3 : Int)) = false := decide_eq_false (by omega)
  have d4 : decide ((4096 : Int) < (n4 : Int)) = false := decide_eq_false (by omega)
  have d5 : decide ((4096 : Int) < (n5 : Int)) = false := decide_eq_false (by omega)
  go_enter Try.func16, Try.ntmps16
  go_wp2
  go_loopg [13, 14] n0 (fun g z i wr => ∃ (k : Nat) (zz : Int), k + g = n0 ∧ i = .int .i64 k ∧ z = .int .i64 zz ∧ w = wr)
  case atStart => exact ⟨0, _, by omega, rfl, rfl, rfl⟩
  case round =>
    obtain ⟨k, zz, hk, rfl, rfl, rfl⟩ := hrel
    by_cases hlt : k < n0
    · have hlt' : (k : Int) < (n0 : Int) := by omega
      rcases H0.out with h0 | ⟨b, off, e, hc⟩
      · omega
      have ck := hc k hlt
      subst e
      clear hc
      go_wp2
      all_goals first | (go_ret; exact ⟨_, rfl, rfl⟩) | (go_roundg (n0 - (k + 1)); (case measure => omega); (case rel => exact ⟨k + 1, _, by omega, by go_num, rfl, rfl⟩))
    · go_wp2
      all_goals first | (go_ret; exact ⟨_, rfl, rfl⟩) | skip
      go_loopg [13, 15] n1 (fun g z i wr => ∃ (k : Nat) (zz : Int), k + g = n1 ∧ i = .int .i64 k ∧ z = .int .i64 zz ∧ w = wr)
      case atStart => exact ⟨0, _, by omega, rfl, rfl, rfl⟩
      case round =>
        obtain ⟨k, zz, hk, rfl, rfl, rfl⟩ := hrel
        by_cases hlt : k < n1
        · have hlt' : (k : Int) < (n1 : Int) := by omega
          rcases H1.out with h0 | ⟨b, off, e, hc⟩
          · omega
          have ck := hc k hlt
          subst e
          clear hc
          go_wp2
          all_goals first | (go_ret; exact ⟨_, rfl, rfl⟩) | (go_roundg (n1 - (k + 1)); (case measure => omega); (case rel => exact ⟨k + 1, _, by omega, by go_num, rfl, rfl⟩))
        · go_wp2
          all_goals (go_ret; exact ⟨_, rfl, rfl⟩)
end Go.Proofs.Qxb6605208a
