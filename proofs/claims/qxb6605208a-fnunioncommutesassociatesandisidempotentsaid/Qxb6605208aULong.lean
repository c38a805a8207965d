import Derived.Test.Qxb6605208aUPre
namespace Go.Proofs.Qxb6605208a
open Go.RowKit
set_option maxHeartbeats 400000 in
theorem law_long (a0 : Option Addr) (n0 c0 : Nat) (a1 : Option Addr) (n1 c1 : Nat) (a2 : Option Addr) (n2 c2 : Nat) (a3 : Option Addr) (n3 c3 : Nat) (a4 : Option Addr) (n4 c4 : Nat) (a5 : Option Addr) (n5 c5 : Nat) (w : World) (h : 16384 < n0 ∨ 16384 < n1 ∨ 16384 < n2 ∨ 16384 < n3 ∨ 16384 < n4 ∨ 16384 < n5) :
    Calls Try.prog 4 #[.slice a0 n0 c0, .slice a1 n1 c1, .slice a2 n2 c2, .slice a3 n3 c3, .slice a4 n4 c4, .slice a5 n5 c5] w fun e w' => e = .returned (.bool true) ∧ Below w.heap.size w w' := by
  have hbytes := fun w => bytes_any a0 a1 a2 a3 a4 a5 n0 c0 n1 c1 n2 c2 n3 c3 n4 c4 n5 c5 w
  have HBY : Hid (∀ w, Calls Try.prog 13 #[.slice a0 n0 c0, .slice a1 n1 c1, .slice a2 n2 c2, .slice a3 n3 c3, .slice a4 n4 c4, .slice a5 n5 c5] w fun e w' => ∃ r : Bool, e = .returned (.bool r) ∧ w' = w) := hbytes
  clear hbytes
  rcases h with h | h | h | h | h | h
  · have h' : (16384 : Int) < (n0 : Int) := by omega
    go_enter Try.func4, Try.ntmps4
    go_wp2_with fail
    refine (HBY.out _).mono ?_
    rintro e w' ⟨r, rfl, rfl⟩
    cases r
    · go_wp2
      go_ret
      exact ⟨rfl, Below.refl _ _⟩
    · go_wp2
      all_goals (go_ret; exact ⟨rfl, Below.refl _ _⟩)
  · have h' : (16384 : Int) < (n1 : Int) := by omega
    go_enter Try.func4, Try.ntmps4
    go_wp2_with fail
    refine (HBY.out _).mono ?_
    rintro e w' ⟨r, rfl, rfl⟩
    cases r
    · go_wp2
      go_ret
      exact ⟨rfl, Below.refl _ _⟩
    · go_wp2
      all_goals (go_ret; exact ⟨rfl, Below.refl _ _⟩)
  · have h' : (16384 : Int) < (n2 : Int) := by omega
    go_enter Try.func4, Try.ntmps4
    go_wp2_with fail
    refine (HBY.out _).mono ?_
    rintro e w' ⟨r, rfl, rfl⟩
    cases r
    · go_wp2
      go_ret
      exact ⟨rfl, Below.refl _ _⟩
    · go_wp2
      all_goals (go_ret; exact ⟨rfl, Below.refl _ _⟩)
  · have h' : (16384 : Int) < (n3 : Int) := by omega
    go_enter Try.func4, Try.ntmps4
    go_wp2_with fail
    refine (HBY.out _).mono ?_
    rintro e w' ⟨r, rfl, rfl⟩
    cases r
    · go_wp2
      go_ret
      exact ⟨rfl, Below.refl _ _⟩
    · go_wp2
      all_goals (go_ret; exact ⟨rfl, Below.refl _ _⟩)
  · have h' : (16384 : Int) < (n4 : Int) := by omega
    go_enter Try.func4, Try.ntmps4
    go_wp2_with fail
    refine (HBY.out _).mono ?_
    rintro e w' ⟨r, rfl, rfl⟩
    cases r
    · go_wp2
      go_ret
      exact ⟨rfl, Below.refl _ _⟩
    · go_wp2
      all_goals (go_ret; exact ⟨rfl, Below.refl _ _⟩)
  · have h' : (16384 : Int) < (n5 : Int) := by omega
    go_enter Try.func4, Try.ntmps4
    go_wp2_with fail
    refine (HBY.out _).mono ?_
    rintro e w' ⟨r, rfl, rfl⟩
    cases r
    · go_wp2
      go_ret
      exact ⟨rfl, Below.refl _ _⟩
    · go_wp2
      all_goals (go_ret; exact ⟨rfl, Below.refl _ _⟩)
end Go.Proofs.Qxb6605208a
