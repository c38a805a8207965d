import Derived.Test.Qxb6605462aRows
import Derived.Test.Qxb6605462aPF
import Derived.WalkKit
import Derived.WalkLawsBesides
import Derived.WalkSpells
import Derived.Deep.QuietTactic
import Derived.BigQuiet
namespace Go.Proofs.Qxb6605462a
open Go.RowKit
open PF

theorem isDigit_yes (r : Int) (w : World) (h1 : 48 ≤ r) (h2 : r ≤ 57) :
    Calls Try.prog 14 #[.int .i32 r] w fun e w' => e = .returned (.bool true) ∧ w' = w := by
  go_enter Try.func14, Try.ntmps14
  go_wp2
  go_ret
  exact ⟨rfl, rfl⟩

theorem isDigit_no (r : Int) (w : World) (h : r < 48 ∨ 57 < r) :
    Calls Try.prog 14 #[.int .i32 r] w fun e w' => e = .returned (.bool false) ∧ w' = w := by
  rcases h with h | h
  · have h' : ¬ 48 ≤ r := by omega
    go_enter Try.func14, Try.ntmps14
    go_wp2
    go_ret
    exact ⟨rfl, rfl⟩
  · have h' : ¬ r ≤ 57 := by omega
    have h0 : 48 ≤ r := by omega
    go_enter Try.func14, Try.ntmps14
    go_wp2
    go_ret
    exact ⟨rfl, rfl⟩

/-- Too short. -/
theorem pf_short (s : ByteArray) (w : World) (h : s.size < 2) :
    Calls Try.prog 12 #[.string s] w fun e w' => e = .returned (.tuple #[.int .i64 0, .bool false]) ∧ w' = w := by
  have h' : (s.size : Int) < 2 := by omega
  go_enter Try.func12, Try.ntmps12
  go_wp2
  go_ret2
  exact ⟨rfl, rfl⟩

/-- It opens with no point. -/
theorem pf_nopoint (s : ByteArray) (w : World) (h : 2 ≤ s.size) (hc : (s[0].toNat : Int) ≠ 46) :
    Calls Try.prog 12 #[.string s] w fun e w' => e = .returned (.tuple #[.int .i64 0, .bool false]) ∧ w' = w := by
  have h' : ¬ (s.size : Int) < 2 := by omega
  have h0 : 0 < s.size := by omega
  have hb : ((s[0].toNat : Int) != 46) = true := by simpa using hc
  go_enter Try.func12, Try.ntmps12
  go_wp2
  go_ret2
  exact ⟨rfl, rfl⟩
end Go.Proofs.Qxb6605462a
