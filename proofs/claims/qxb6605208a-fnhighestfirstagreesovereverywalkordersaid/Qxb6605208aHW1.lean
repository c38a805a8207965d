import Derived.Test.Qxb6605208aUWalks
import Derived.Test.Qxb6605208aHPlain
namespace Go.Proofs.Qxb6605208a
open Go.RowKit

/-- Where the parents of k start and end in links. -/
def lo (ns : Nat) (S : Nat → Int) (k : Nat) : Int := if k + 1 < ns then S k else 0
def hi (ns : Nat) (S : Nat → Int) (k : Nat) : Int := if k + 1 < ns then S (k + 1) else 0

theorem par_none (a : Option Addr) (ns c k : Nat) (w : World) (h : ns ≤ k + 1) (hk : k ≤ 1048576) :
    Calls Try.prog 30 #[.slice a ns c, .int .i64 k] w fun e w' => e = .returned (.tuple #[.int .i64 0, .int .i64 0]) ∧ w' = w := by
  have h1 : (ns : Int) ≤ (k : Int) + 1 := by omega
  go_enter Try.func30, Try.ntmps30
  go_wp2
  go_ret2
  exact ⟨rfl, rfl⟩

theorem par_some (b off ns c k : Nat) (S : Nat → Int) (w : World) (h : k + 1 < ns) (hn : ns ≤ 1048576) (hS : ∀ i, i < ns → w.cell? ⟨b, off + i, none⟩ = some (.int .i64 (S i))) :
    Calls Try.prog 30 #[.slice (some ⟨b, off, none⟩) ns c, .int .i64 k] w fun e w' => e = .returned (.tuple #[.int .i64 (S k), .int .i64 (S (k + 1))]) ∧ Drn w w' := by
  have c0 := hS k (by omega)
  have c1 := hS (k + 1) h
  have h1 : ¬ (ns : Int) ≤ (k : Int) + 1 := by omega
  have h2 : (k : Int) < (ns : Int) := by omega
  have h3 : (k : Int) + 1 < (ns : Int) := by omega
  clear hS
  go_enter Try.func30, Try.ntmps30
  go_wp2
  go_quiet (fail)
  go_wp2
  go_ret2
  exact ⟨rfl, by repeat (first | exact Drn.refl _ | apply Drn.step | apply Drn.drew)⟩

theorem par_any (a : Option Addr) (ns c k : Nat) (S : Nat → Int) (w : World) (hn : ns ≤ 1048576) (hk : k ≤ 1048576) (hS : Ints w a ns S) :
    Calls Try.prog 30 #[.slice a ns c, .int .i64 k] w fun e w' => e = .returned (.tuple #[.int .i64 (lo ns S k), .int .i64 (hi ns S k)]) ∧ Drn w w' := by
  by_cases h : k + 1 < ns
  · rcases hS with h0 | ⟨b, off, rfl, hS⟩
    · omega
    simp only [lo, hi, h, if_true]
    exact par_some b off ns c k S w h hn hS
  · simp only [lo, hi, h, if_false]
    exact (par_none a ns c k w (by omega) hk).mono fun e w' ⟨he, hw⟩ => ⟨he, hw ▸ Drn.refl _⟩

/-- A bool is returned, nothing is written; where it is true, Q holds. -/
def RetB (w : World) (Q : Prop) (e : Ending) (w' : World) : Prop := ∃ r : Bool, e = .returned (.bool r) ∧ Drn w w' ∧ (r = true → Q)

/-- What zzGraphOK asks, of entity k. -/
def GOne (n ns nl : Nat) (S L : Nat → Int) (k : Nat) : Prop :=
  0 ≤ lo ns S k ∧ lo ns S k ≤ hi ns S k ∧ hi ns S k ≤ nl ∧ ∀ j : Nat, lo ns S k ≤ (j : Int) → (j : Int) < hi ns S k → 0 ≤ L j ∧ L j < n

def GOK (n ns nl : Nat) (S L : Nat → Int) : Prop := ∀ k, k < n → GOne n ns nl S L k

set_option maxRecDepth 100000 in
set_option maxHeartbeats 2000000 in
theorem graphOK_any (a0 a1 : Option Addr) (n ns nl c0 c1 : Nat) (S L : Nat → Int) (w : World) (hn : n ≤ 1048576) (hns : ns ≤ 1048576) (hnl : nl ≤ 1048576) (hS : Ints w a0 ns S) (hL : Ints w a1 nl L) :
    Calls Try.prog 27 #[.int .i64 n, .slice a0 ns c0, .slice a1 nl c1] w fun e w' => RetB w (GOK n ns nl S L) e w' := by
  have HS : Hid (Ints w a0 ns S) := hS
  have HL : Hid (Ints w a1 nl L) := hL
  clear hS hL
  go_enter Try.func27, Try.ntmps27
  go_wp2
  go_loopg [7] n (fun g i wr => ∃ k : Nat, k + g = n ∧ i = .int .i64 k ∧ Drn w wr ∧ ∀ x, x < k → GOne n ns nl S L x)
  case atStart => exact ⟨0, by omega, rfl, Drn.refl _, fun x h => by omega⟩
  case round =>
    obtain ⟨k, hk, rfl, hd, hg⟩ := hrel
    have HD : Hid (Drn w wr) := hd
    have HG : Hid (∀ x, x < k → GOne n ns nl S L x) := hg
    clear hd hg
    by_cases hlt : k < n
    · have hlt' : (k : Int) < (n : Int) := by omega
      go_wp2_with fail
      refine (par_any a0 ns c0 k S wr hns (by omega) (HS.out.below (HD.out.below w.heap.size) (Nat.le_refl _))).mono ?_
      rintro e w1 ⟨rfl, hd1⟩
      have HD1 : Hid (Drn w w1) := HD.out.trans hd1
      clear hd1
      generalize hlo : lo ns S k = l
      generalize hhi : hi ns S k = h
      have HE : Hid (lo ns S k = l ∧ hi ns S k = h) := ⟨hlo, hhi⟩
      clear hlo hhi
      by_cases g1 : l < 0
      · go_wp2
        go_ret
        exact ⟨false, rfl, HD1.out, fun h => by cases h⟩
      · by_cases g2 : h < l
        · go_wp2
          go_ret
          exact ⟨false, rfl, HD1.out, fun h => by cases h⟩
        · by_cases g3 : (nl : Int) < h
          · go_wp2
            go_ret
            exact ⟨false, rfl, HD1.out, fun h => by cases h⟩
          · obtain ⟨ln, rfl⟩ := Int.eq_ofNat_of_zero_le (show 0 ≤ l by omega)
            obtain ⟨hn', rfl⟩ := Int.eq_ofNat_of_zero_le (show 0 ≤ h by omega)
            have g4 : ln ≤ hn' := by omega
            have g5 : hn' ≤ nl := by omega
            have d1 : decide ((ln : Int) < 0) = false := decide_eq_false (by omega)
            have d2 : decide (hn' < ln) = false := decide_eq_false (by omega)
            have d3 : decide (nl < hn') = false := decide_eq_false (by omega)
            go_wp2
            go_loopg [10] (hn' - ln) (fun g i wr => ∃ j : Nat, j + g = hn' ∧ ln ≤ j ∧ i = .int .i64 j ∧ wr = w1 ∧ ∀ x : Nat, ln ≤ x → x < j → 0 ≤ L x ∧ L x < n)
            case atStart => exact ⟨ln, by omega, by omega, rfl, rfl, fun x h1 h2 => by omega⟩
            case round =>
              obtain ⟨j, hj, hj1, rfl, rfl, hx⟩ := hrel
              have HX : Hid (∀ x : Nat, ln ≤ x → x < j → 0 ≤ L x ∧ L x < n) := hx
              clear hx
              by_cases hjl : j < hn'
              · have hjl' : (j : Int) < (hn' : Int) := by omega
                have hjn : (j : Int) < (nl : Int) := by omega
                rcases HL.out with h0 | ⟨b, off, e, hc⟩
                · omega
                have cj : wr.cell? ⟨b, off + j, none⟩ = some (.int .i64 (L j)) := by
                  obtain ⟨q, hq⟩ := HD1.out
                  rw [hq]; exact hc j (by omega)
                subst e
                clear hc
                by_cases m1 : L j < 0
                · go_wp2
                  go_ret
                  exact ⟨false, rfl, HD1.out, fun h => by cases h⟩
                · have m1' : decide (L j < 0) = false := by simpa using m1
                  by_cases m2 : (n : Int) ≤ L j
                  · have m2' : decide ((n : Int) ≤ L j) = true := decide_eq_true m2
                    go_wp2
                    go_ret
                    exact ⟨false, rfl, HD1.out, fun h => by cases h⟩
                  · have m2' : decide ((n : Int) ≤ L j) = false := decide_eq_false m2
                    have HX' : Hid (∀ x : Nat, ln ≤ x → x < j + 1 → 0 ≤ L x ∧ L x < n) := by
                      intro x h1 h2
                      by_cases e : x = j
                      · subst e; omega
                      · exact HX.out x h1 (by omega)
                    go_wp2
                    go_roundg (hn' - (j + 1))
                    case measure => omega
                    case rel => exact ⟨j + 1, by omega, by omega, by go_num, rfl, HX'.out⟩
              · have HG' : Hid (∀ x, x < k + 1 → GOne n ns nl S L x) := by
                  intro x hx
                  by_cases e : x = k
                  · subst e
                    unfold GOne
                    rw [HE.out.1, HE.out.2]
                    exact ⟨by omega, by omega, by omega, fun y h1 h2 => HX.out y (by omega) (by omega)⟩
                  · exact HG.out x (by omega)
                go_wp2
                go_roundg (n - (k + 1))
                case measure => omega
                case rel => exact ⟨k + 1, by omega, by go_num, HD1.out, HG'.out⟩
    · obtain rfl : k = n := by omega
      go_wp2
      go_ret
      exact ⟨true, rfl, HD.out, fun _ => HG.out⟩
end Go.Proofs.Qxb6605208a
