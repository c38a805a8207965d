import Derived.Test.Qxb6605452aW1
namespace Go.Proofs.Qxb6605452a
open Go.RowKit

set_option maxHeartbeats 2000000 in
theorem inRange_any (a b : Option Addr) (m n ca cb : Nat) (ol : Nat → Nat) (f : Nat → Nat → Int) (w : World) (hm : m ≤ 4096) (hn : n ≤ 4096) (hol : ∀ i, i < n → ol i ≤ 131072) (hK : Rows w b n ol f) :
    Calls Try.prog 9 #[.slice a m ca, .slice b n cb] w fun e w' => RetQ w (n = m ∧ ∀ v, v < n → ∀ j, j < ol v → 0 ≤ f v j ∧ f v j < n) e w' := by
  have HK : Hid (Rows w b n ol f) := hK
  have HOL : Hid (∀ i, i < n → ol i ≤ 131072) := hol
  clear hK hol
  by_cases hmn : n = m
  · subst hmn
    have d0 : ((n : Int) != (n : Int)) = false := by simp
    go_enter Try.func9, Try.ntmps9
    go_wp2
    go_loopg [6] n (fun g i wr => ∃ (k : Nat), k + g = n ∧ i = .int .i64 k ∧ (∀ v, v < k → ∀ j, j < ol v → 0 ≤ f v j ∧ f v j < n) ∧ w = wr)
    case atStart => exact ⟨0, by omega, rfl, fun v h => by omega, rfl⟩
    case round =>
      obtain ⟨k, hk, rfl, hx, rfl⟩ := hrel
      have HX : Hid (∀ v, v < k → ∀ j, j < ol v → 0 ≤ f v j ∧ f v j < n) := hx
      clear hx
      by_cases hlt : k < n
      · have hlt' : (k : Int) < (n : Int) := by omega
        rcases HK.out with h0 | ⟨b, off, sa, sc, e, hc⟩
        · omega
        obtain ⟨ck, ci, _⟩ := hc k hlt
        have CI : Hid (Ints w (sa k) (ol k) (f k)) := ci
        have hok := HOL.out k hlt
        subst e
        clear hc ci
        go_wp2
        go_loopg [25] (ol k) (fun g i wr => ∃ (j : Nat), j + g = ol k ∧ i = .int .i64 j ∧ (∀ j', j' < j → 0 ≤ f k j' ∧ f k j' < n) ∧ w = wr)
        case atStart => exact ⟨0, by omega, rfl, fun v h => by omega, rfl⟩
        case round =>
          obtain ⟨j, hj, rfl, hx, rfl⟩ := hrel
          have HY : Hid (∀ j', j' < j → 0 ≤ f k j' ∧ f k j' < n) := hx
          clear hx
          by_cases hjl : j < ol k
          · have hjl' : (j : Int) < (ol k : Int) := by omega
            rcases CI.out with h0 | ⟨b2, o2, e2, hc2⟩
            · omega
            have cj := hc2 j hjl
            clear hc2
            by_cases g1 : f k j < 0
            · have g1' : decide (f k j < 0) = true := decide_eq_true g1
              go_wp2
              go_ret
              exact ⟨_, rfl, Drn.refl _, fun h => by cases h⟩
            · have g1' : decide (f k j < 0) = false := decide_eq_false g1
              by_cases g2 : (n : Int) ≤ f k j
              · have g2' : decide ((n : Int) ≤ f k j) = true := decide_eq_true g2
                go_wp2
                go_ret
                exact ⟨_, rfl, Drn.refl _, fun h => by cases h⟩
              · have g2' : decide ((n : Int) ≤ f k j) = false := decide_eq_false g2
                have HY' : Hid (∀ j', j' < j + 1 → 0 ≤ f k j' ∧ f k j' < n) := by
                  intro j' h
                  by_cases e : j' = j
                  · subst e; omega
                  · exact HY.out j' (by omega)
                go_wp2
                rw [← e2]
                go_roundg (ol k - (j + 1))
                case measure => omega
                case rel => exact ⟨j + 1, by omega, by go_num, HY'.out, rfl⟩
          · have HX' : Hid (∀ v, v < k + 1 → ∀ j, j < ol v → 0 ≤ f v j ∧ f v j < n) := by
              intro v h
              by_cases e : v = k
              · subst e; exact fun j' h' => HY.out j' (by omega)
              · exact HX.out v (by omega)
            go_wp2
            go_roundg (n - (k + 1))
            case measure => omega
            case rel => exact ⟨k + 1, by omega, by go_num, HX'.out, rfl⟩
      · go_wp2
        go_ret
        exact ⟨_, rfl, Drn.refl _, fun _ => ⟨by simp, fun v h => HX.out v (by omega)⟩⟩
  · have d0 : ((n : Int) != (m : Int)) = true := by simp; omega
    go_enter Try.func9, Try.ntmps9
    go_wp2
    go_ret
    exact ⟨_, rfl, Drn.refl _, fun h => by cases h⟩

set_option maxHeartbeats 2000000 in
theorem ascending_any (b : Option Addr) (n cb : Nat) (ol : Nat → Nat) (f : Nat → Nat → Int) (w : World) (hn : n ≤ 4096) (hol : ∀ i, i < n → ol i ≤ 131072) (hK : Rows w b n ol f) :
    Calls Try.prog 20 #[.slice b n cb] w fun e w' => RetQ w (∀ v, v < n → ∀ j, j + 1 < ol v → f v j ≤ f v (j + 1)) e w' := by
  have HK : Hid (Rows w b n ol f) := hK
  have HOL : Hid (∀ i, i < n → ol i ≤ 131072) := hol
  clear hK hol
  go_enter Try.func20, Try.ntmps20
  go_wp2
  go_loopg [3] n (fun g i wr => ∃ (k : Nat), k + g = n ∧ i = .int .i64 k ∧ (∀ v, v < k → ∀ j, j + 1 < ol v → f v j ≤ f v (j + 1)) ∧ Drn w wr)
  case atStart => exact ⟨0, by omega, rfl, fun v h => by omega, Drn.refl _⟩
  case round =>
    obtain ⟨k, hk, rfl, hx, q, rfl⟩ := hrel
    have HX : Hid (∀ v, v < k → ∀ j, j + 1 < ol v → f v j ≤ f v (j + 1)) := hx
    clear hx
    have HQ : Hid (Drn w (w.drewN q)) := Drn.mk w q
    by_cases hlt : k < n
    · have hlt' : (k : Int) < (n : Int) := by omega
      rcases HK.out with h0 | ⟨b, off, sa, sc, e, hc⟩
      · omega
      obtain ⟨ck, ci, _⟩ := hc k hlt
      have CI : Hid (Ints w (sa k) (ol k) (f k)) := ci
      have hok := HOL.out k hlt
      subst e
      clear hc ci
      go_wp2
      go_loopg [4] (ol k) (fun g i wr => ∃ (j : Nat), j + g = ol k ∧ i = .int .i64 ((j + 1 : Nat) : Int) ∧ (∀ j', j' + 1 < j + 1 → f k j' ≤ f k (j' + 1)) ∧ Drn w wr)
      case atStart => exact ⟨0, by omega, rfl, fun v h => by omega, HQ.out⟩
      case round =>
        obtain ⟨j, hj, rfl, hx, q2, rfl⟩ := hrel
        have HY : Hid (∀ j', j' + 1 < j + 1 → f k j' ≤ f k (j' + 1)) := hx
        clear hx
        have HQ2 : Hid (Drn w (w.drewN q2)) := Drn.mk w q2
        by_cases hjl : j + 1 < ol k
        · have hjl' : ((j + 1 : Nat) : Int) < (ol k : Int) := by omega
          rcases CI.out with h0 | ⟨b2, o2, e2, hc2⟩
          · omega
          have cj := hc2 j (by omega)
          have cj1 := hc2 (j + 1) hjl
          clear hc2
          have sb : ((j + 1 : Nat) : Int) - 1 = (j : Int) := by omega
          by_cases g1 : f k (j + 1) < f k j
          · have g1' : decide (f k (j + 1) < f k j) = true := decide_eq_true g1
            go_wp2
            go_quiet (fail)
            go_wp2
            go_ret
            exact ⟨_, rfl, by repeat (first | exact HQ2.out | apply Drn.step | apply Drn.drew), fun h => by cases h⟩
          · have g1' : decide (f k (j + 1) < f k j) = false := decide_eq_false g1
            have HY' : Hid (∀ j', j' + 1 < j + 1 + 1 → f k j' ≤ f k (j' + 1)) := by
              intro j' h
              by_cases e : j' = j
              · subst e; omega
              · exact HY.out j' (by omega)
            go_wp2
            go_quiet (fail)
            go_wp2
            go_roundg (ol k - (j + 1))
            case measure => omega
            case rel => exact ⟨j + 1, by omega, by go_num, HY'.out, by repeat (first | exact HQ2.out | exact Drn.mk _ _ | apply Drn.step | apply Drn.drew)⟩
        · have hjl' : decide (((j + 1 : Nat) : Int) < (ol k : Int)) = false := decide_eq_false (by omega)
          have HX' : Hid (∀ v, v < k + 1 → ∀ j, j + 1 < ol v → f v j ≤ f v (j + 1)) := by
            intro v h
            by_cases e : v = k
            · subst e; exact fun j' h' => HY.out j' (by omega)
            · exact HX.out v (by omega)
          go_wp2
          go_roundg (n - (k + 1))
          case measure => omega
          case rel => exact ⟨k + 1, by omega, by go_num, HX'.out, HQ2.out⟩
    · go_wp2
      go_ret
      exact ⟨_, rfl, HQ.out, fun _ => fun v h => HX.out v (by omega)⟩
end Go.Proofs.Qxb6605452a
