import Derived.Test.Qxb6605208aHW4
namespace Go.Proofs.Qxb6605208a
open Go.RowKit
open HP (WOK)

theorem parents_none (bg k ns c2 : Nat) (a2 : Option Addr) (w : World) (hk : k ≤ 1048576) (h : ns ≤ k + 1) (g1 : w.cell? ⟨bg, 1, none⟩ = some (.slice a2 ns c2)) :
    Calls Try.prog 31 #[.pointer (some ⟨bg, 0, none⟩), .int .i64 k] w fun e w' => e = .returned (.slice none 0 0) ∧ w' = w := by
  have h1 : (ns : Int) ≤ (k : Int) + 1 := by omega
  go_enter Try.func31, Try.ntmps31
  go_wp2
  go_ret
  exact ⟨rfl, rfl⟩

set_option maxHeartbeats 2000000 in
theorem parents_some (bg k ns c2 nl c3 b2 o2 l h : Nat) (a3 : Option Addr) (w : World) (hk : k ≤ 1048576) (hkn : k + 1 < ns) (hlh : l ≤ h) (hh : h ≤ nl) (hnc : nl ≤ c3)
    (g1 : w.cell? ⟨bg, 1, none⟩ = some (.slice (some ⟨b2, o2, none⟩) ns c2)) (g2 : w.cell? ⟨bg, 2, none⟩ = some (.slice a3 nl c3))
    (s1 : w.cell? ⟨b2, o2 + k, none⟩ = some (.int .i64 l)) (s2 : w.cell? ⟨b2, o2 + (k + 1), none⟩ = some (.int .i64 h)) :
    Calls Try.prog 31 #[.pointer (some ⟨bg, 0, none⟩), .int .i64 k] w fun e w' => e = .returned (.slice (if c3 = l then a3 else a3.map (·.add l)) (h - l) (c3 - l)) ∧ Drn w w' := by
  have h1 : ¬ (ns : Int) ≤ (k : Int) + 1 := by omega
  have h2 : (k : Int) < (ns : Int) := by omega
  have h3 : (k : Int) + 1 < (ns : Int) := by omega
  have h4 : (l : Int) ≤ (h : Int) := by omega
  have h5 : (h : Int) ≤ (c3 : Int) := by omega
  go_enter Try.func31, Try.ntmps31
  go_wp2
  go_quiet (fail)
  go_wp2
  all_goals (go_ret; exact ⟨rfl, by repeat (first | exact Drn.refl _ | apply Drn.step | apply Drn.drew)⟩)

theorem parents_any (bg k n ns c2 nl c3 : Nat) (a2 a3 : Option Addr) (S L : Nat → Int) (w w0 : World) (hk : k ≤ 1048576) (hnc : nl ≤ c3) (hG : GOne n ns nl S L k)
    (g1 : w.cell? ⟨bg, 1, none⟩ = some (.slice a2 ns c2)) (g2 : w.cell? ⟨bg, 2, none⟩ = some (.slice a3 nl c3)) (hS : Ints w a2 ns S) (hL : Ints w0 a3 nl L) :
    Calls Try.prog 31 #[.pointer (some ⟨bg, 0, none⟩), .int .i64 k] w fun e w' => ∃ a' c', e = .returned (.slice a' (cntN ns S k) c') ∧ Drn w w' ∧ Ints w0 a' (cntN ns S k) (fun c => (parN ns S L k c : Int)) := by
  by_cases h : k + 1 < ns
  · rcases hS with h0 | ⟨b2, o2, rfl, hS⟩
    · omega
    have hn := hG.nat
    have e1 : lo ns S k = S k := by simp [lo, h]
    have e2 : hi ns S k = S (k + 1) := by simp [hi, h]
    have s1 := hS k (by omega)
    have s2 := hS (k + 1) h
    rw [← e1, hn.1] at s1
    rw [← e2, hn.2.1] at s2
    refine (parents_some bg k ns c2 nl c3 b2 o2 (loN ns S k) (loN ns S k + cntN ns S k) a3 w hk h (by omega) hn.2.2 hnc g1 g2 s1 s2).mono ?_
    rintro e w' ⟨he, hd⟩
    rw [Nat.add_sub_cancel_left] at he
    refine ⟨_, _, he, hd, ?_⟩
    by_cases hc : cntN ns S k = 0
    · exact .inl hc
    · rcases hL with h0 | ⟨b3, o3, rfl, hL⟩
      · omega
      refine .inr ⟨b3, o3 + loN ns S k, ?_, fun c hcc => ?_⟩
      · rw [if_neg (by omega)]; simp [Addr.add_lit]
      · have hp := hG.par hcc
        rw [Nat.add_assoc, hL _ (by omega), hp.1]
  · have hc : cntN ns S k = 0 := by simp [cntN, lo, hi, h]
    rw [hc]
    exact (parents_none bg k ns c2 a2 w hk (by omega) g1).mono fun e w' ⟨he, hw⟩ => ⟨none, 0, he, hw ▸ Drn.refl _, .inl rfl⟩
end Go.Proofs.Qxb6605208a
