import Derived.Test.Qxb6605452aMem
import Derived.Test.Qxb6605452aTm
import Derived.Test.Qxb6605452aProg
import Derived.Deep.DeepCutAuto
namespace Go.Proofs.Qxb6605452a
open Go.RowKit

set_option maxHeartbeats 2000000 in
theorem bytes19_any (a b : Option Addr) (m n ca cb : Nat) (ol : Nat → Nat) (f : Nat → Nat → Int) (w : World) (hK : Rows w b n ol f) :
    Calls Try.prog 19 #[.slice a m ca, .slice b n cb] w fun e w' => RetQ w True e w' := by
  have HK : Hid (Rows w b n ol f) := hK
  clear hK
  by_cases km : m ≤ 1048576
  · have d0 : decide ((1048576 : Int) < (m : Int)) = false := decide_eq_false (by omega)
    by_cases kn : n ≤ 1048576
    · have d1 : decide ((1048576 : Int) < (n : Int)) = false := decide_eq_false (by omega)
      by_cases ks : m + n ≤ 1048576
      · have d2 : decide ((1048576 : Int) < (m : Int) + (n : Int)) = false := decide_eq_false (by omega)
        go_enter Try.func19, Try.ntmps19
        go_wp2
        go_loopg [5, 6] n (fun g z i wr => ∃ (k : Nat) (zz : Int), k + g = n ∧ i = .int .i64 k ∧ z = .int .i64 zz ∧ w = wr)
        case atStart => exact ⟨0, _, by omega, rfl, rfl, rfl⟩
        case round =>
          obtain ⟨k, zz, hk, rfl, rfl, rfl⟩ := hrel
          by_cases hlt : k < n
          · have hlt' : (k : Int) < (n : Int) := by omega
            rcases HK.out with h0 | ⟨b, off, sa, sc, e, hc⟩
            · omega
            have ck := (hc k hlt).1
            subst e
            clear hc
            go_wp2
            all_goals first | (go_ret; exact ⟨_, rfl, Drn.refl _, fun _ => trivial⟩) | (go_roundg (n - (k + 1)); (case measure => omega); (case rel => exact ⟨k + 1, _, by omega, by go_num, rfl, rfl⟩))
          · go_wp2
            go_ret
            exact ⟨_, rfl, Drn.refl _, fun _ => trivial⟩
      · have d2 : decide ((1048576 : Int) < (m : Int) + (n : Int)) = true := decide_eq_true (by omega)
        go_enter Try.func19, Try.ntmps19
        go_wp2
        go_ret
        exact ⟨_, rfl, Drn.refl _, fun _ => trivial⟩
    · have d1 : decide ((1048576 : Int) < (n : Int)) = true := decide_eq_true (by omega)
      go_enter Try.func19, Try.ntmps19
      go_wp2
      go_ret
      exact ⟨_, rfl, Drn.refl _, fun _ => trivial⟩
  · have d0 : decide ((1048576 : Int) < (m : Int)) = true := decide_eq_true (by omega)
    go_enter Try.func19, Try.ntmps19
    go_wp2
    go_ret
    exact ⟨_, rfl, Drn.refl _, fun _ => trivial⟩

set_option maxHeartbeats 2000000 in
theorem bytes8_any (a b : Option Addr) (m n ca cb : Nat) (ol : Nat → Nat) (f : Nat → Nat → Int) (w : World) (hK : Rows w b n ol f) :
    Calls Try.prog 8 #[.slice a m ca, .slice b n cb] w fun e w' => ∃ z : Int, e = .returned (.int .i64 z) ∧ w' = w ∧ (z ≤ 1048576 → 8 * (m + n + sumTo n ol) ≤ 1048576) := by
  have HK : Hid (Rows w b n ol f) := hK
  clear hK
  by_cases km : m ≤ 1048576
  · have d0 : decide ((1048576 : Int) < (m : Int)) = false := decide_eq_false (by omega)
    by_cases kn : n ≤ 1048576
    · have d1 : decide ((1048576 : Int) < (n : Int)) = false := decide_eq_false (by omega)
      go_enter Try.func8, Try.ntmps8
      go_wp2
      go_loopg [5, 6] n (fun g z i wr => ∃ (k : Nat), k + g = n ∧ i = .int .i64 k ∧ z = .int .i64 ((8 * (m + n + sumTo k ol) : Nat) : Int) ∧ (0 < k → 8 * (m + n + sumTo k ol) ≤ 1048576) ∧ w = wr)
      case atStart => exact ⟨0, by omega, rfl, by simp [sumTo]; omega, fun h => by omega, rfl⟩
      case round =>
        obtain ⟨k, hk, rfl, rfl, hz, rfl⟩ := hrel
        have hzb : 8 * (m + n + sumTo k ol) ≤ 16777216 := by
          by_cases k0 : k = 0
          · subst k0; simp [sumTo]; omega
          · have := hz (by omega); omega
        by_cases hlt : k < n
        · have hlt' : (k : Int) < (n : Int) := by omega
          rcases HK.out with h0 | ⟨b, off, sa, sc, e, hc⟩
          · omega
          have ck := (hc k hlt).1
          subst e
          clear hc
          have hs : sumTo (k + 1) ol = sumTo k ol + ol k := rfl
          have HS : Hid (sumTo (k + 1) ol = sumTo k ol + ol k) := hs
          clear hs
          generalize hsk : sumTo k ol = sk at *
          generalize ol k = sl at *
          by_cases g1 : sl ≤ 1048576
          · have g1' : decide ((1048576 : Int) < (sl : Int)) = false := decide_eq_false (by omega)
            by_cases g2 : 8 * (m + n + (sk + sl)) ≤ 1048576
            · have g2' : decide ((1048576 : Int) < ((8 * (m + n + sk) : Nat) : Int) + 8 * (sl : Int)) = false := decide_eq_false (by omega)
              go_wp2
              go_roundg (n - (k + 1))
              case measure => omega
              case rel => exact ⟨k + 1, by omega, by go_num, by rw [HS.out]; go_num, fun _ => by rw [HS.out]; exact g2, rfl⟩
            · have g2' : decide ((1048576 : Int) < ((8 * (m + n + sk) : Nat) : Int) + 8 * (sl : Int)) = true := decide_eq_true (by omega)
              go_wp2
              go_ret
              exact ⟨_, rfl, rfl, fun h => by omega⟩
          · have g1' : decide ((1048576 : Int) < (sl : Int)) = true := decide_eq_true (by omega)
            go_wp2
            go_ret
            exact ⟨_, rfl, rfl, fun h => by omega⟩
        · obtain rfl : k = n := by omega
          go_wp2
          go_ret
          exact ⟨_, rfl, rfl, fun h => by omega⟩
    · have d1 : decide ((1048576 : Int) < (n : Int)) = true := decide_eq_true (by omega)
      go_enter Try.func8, Try.ntmps8
      go_wp2
      go_ret
      exact ⟨_, rfl, rfl, fun h => by omega⟩
  · have d0 : decide ((1048576 : Int) < (m : Int)) = true := decide_eq_true (by omega)
    go_enter Try.func8, Try.ntmps8
    go_wp2
    go_ret
    exact ⟨_, rfl, rfl, fun h => by omega⟩
end Go.Proofs.Qxb6605452a
