import Derived.Test.Qxb6605452aWb
import Derived.Test.Qxb6605452aCz
namespace Go.Proofs.Qxb6605452a
open Go.RowKit

theorem big_any (P nc zc c : Nat) (za : Option Addr) (size : Nat → Nat) (w : World) (h0 : w.cell? ⟨P, 0, none⟩ = some (.slice za nc zc)) (hi : Ints w za nc (fun i => (size i : Int))) (hc : c < nc) :
    Calls Try.prog 33 #[.int .i64 c, .pointer (some ⟨P, 0, none⟩)] w fun e w' => e = .returned (.bool (decide (1 < size c))) ∧ w' = w := by
  have hc' : (c : Int) < (nc : Int) := by omega
  rcases hi with h | ⟨zb, zo, rfl, hz⟩
  · omega
  have q := hz c hc
  clear hz
  by_cases hb : 1 < size c
  · have t : decide ((1 : Int) < (size c : Int)) = true := decide_eq_true (by omega)
    have t' : decide (1 < size c) = true := decide_eq_true hb
    rw [t']
    clear t'
    go_enter Try.func33, Try.ntmps33
    go_wp2
    go_ret
    exact ⟨rfl, rfl⟩
  · have t : decide ((1 : Int) < (size c : Int)) = false := decide_eq_false (by omega)
    have t' : decide (1 < size c) = false := decide_eq_false hb
    rw [t']
    clear t'
    go_enter Try.func33, Try.ntmps33
    go_wp2
    go_ret
    exact ⟨rfl, rfl⟩

set_option maxHeartbeats 1000000 in
theorem index_any (cb P nc zc n s : Nat) (za : Option Addr) (comp size : Nat → Nat) (w : World) (hn : n ≤ 4096) (h0 : w.cell? ⟨P, 0, none⟩ = some (.slice za nc zc)) (hi : Ints w za nc (fun i => (size i : Int))) (hcm : NRow w cb n (fun v => (comp v : Int)))
    (hlt : ∀ v, v < n → comp v < nc) (hlo : ∀ v, v < s → ¬ 1 < size (comp v)) (hon : s < n → 1 < size (comp s)) (r : Int) (hr : r = if s < n then (s : Int) else -1) :
    Calls Try.prog 32 #[.slice (some ⟨cb, 0, none⟩) n n, .func (.func 33) #[] #[.pointer (some ⟨P, 0, none⟩)]] w fun e w' => e = .returned (.int .i64 r) ∧ w' = w := by
  have HRR : Hid (r = if s < n then (s : Int) else -1) := hr
  have HI : Hid (Ints w za nc (fun i => (size i : Int))) := hi
  have HCM : Hid (NRow w cb n (fun v => (comp v : Int))) := hcm
  have HLT : Hid (∀ v, v < n → comp v < nc) := hlt
  have HLO : Hid (∀ v, v < s → ¬ 1 < size (comp v)) := hlo
  have HON : Hid (s < n → 1 < size (comp s)) := hon
  clear hi hcm hlt hlo hon hr
  go_enter Try.func32, Try.ntmps32
  go_wp2
  go_loopg [8] n (fun g i wr => ∃ k : Nat, k + g = n ∧ i = .int .i64 k ∧ k ≤ s ∧ w = wr)
  case atStart => exact ⟨0, by omega, rfl, Nat.zero_le _, rfl⟩
  case round =>
    obtain ⟨k, hk, rfl, hks, rfl⟩ := hrel
    by_cases hkn : k < n
    · have hkn' : (k : Int) < (n : Int) := by omega
      have q1 : w.cell? ⟨cb, k, none⟩ = some (.int .i64 (comp k : Int)) := NRow.cell HCM.out hkn
      have hcall := big_any P nc zc (comp k) za size w h0 HI.out (HLT.out k hkn)
      by_cases hb : 1 < size (comp k)
      · have eks : k = s := by
          by_cases e : k = s
          · exact e
          · exact absurd hb (HLO.out k (by omega))
        have t' : decide (1 < size (comp k)) = true := decide_eq_true hb
        rw [t'] at hcall
        have HCALL : Hid (Calls Try.prog 33 _ _ _) := hcall
        have EKS : Hid (k = s) := eks
        clear hcall t' hb eks
        go_wp2_with fail
        refine HCALL.out.mono ?_
        rintro e w' ⟨rfl, rfl⟩
        go_wp2
        go_ret
        exact ⟨by rw [HRR.out, ← EKS.out, if_pos hkn]; rfl, rfl⟩
      · have hne : k ≠ s := fun e => hb (by rw [e]; exact HON.out (by omega))
        have t' : decide (1 < size (comp k)) = false := decide_eq_false hb
        rw [t'] at hcall
        have HCALL : Hid (Calls Try.prog 33 _ _ _) := hcall
        clear hcall t' hb
        go_wp2_with fail
        refine HCALL.out.mono ?_
        rintro e w' ⟨rfl, rfl⟩
        go_wp2
        go_roundg (n - (k + 1))
        case measure => omega
        case rel => exact ⟨k + 1, by omega, by go_num, by omega, rfl⟩
    · have hkn' : decide ((k : Int) < (n : Int)) = false := decide_eq_false (by omega)
      go_wp2
      go_ret
      exact ⟨by rw [HRR.out, if_neg (by omega)]; rfl, rfl⟩

theorem SlI.set {w : World} {b o len cap : Nat} {f : Nat → Int} (h : SlI w (some ⟨b, o, none⟩) len cap f) (i : Nat) (x : Int) : SlI (w.setCell ⟨b, o + i, none⟩ (.int .i64 x)) (some ⟨b, o, none⟩) len cap (fun j => if j = i then x else f j) :=
  Sl.congr (Sl.set h i (.int .i64 x)) fun j _ => by
    show (if j = i then Value.int .i64 x else .int .i64 (f j)) = .int .i64 (if j = i then x else f j)
    split <;> rfl

set_option maxHeartbeats 1000000 in
theorem reverse_any (rb ro n cap B : Nat) (f : Nat → Int) (w : World) (hn : n ≤ 4096) (h1 : 1 ≤ n) (hB : B ≤ rb) (hS : SlI w (some ⟨rb, ro, none⟩) n cap f) :
    Calls Try.prog 34 #[.slice (some ⟨rb, ro, none⟩) n cap] w fun e w' => e = .returned (.tuple #[]) ∧ Below B w w' ∧ SlI w' (some ⟨rb, ro, none⟩) n cap (fun i => f (n - 1 - i)) := by
  have HS : Hid (SlI w (some ⟨rb, ro, none⟩) n cap f) := hS
  clear hS
  go_enter Try.func34, Try.ntmps34
  go_wp2
  go_loopg [2, 3] n (fun g i j wr => ∃ k : Nat, k + g = n ∧ i = .int .i64 k ∧ j = .int .i64 ((n : Int) - 1 - k) ∧ 2 * k ≤ n + 1 ∧ Below B w wr ∧ SlI wr (some ⟨rb, ro, none⟩) n cap (fun t => if t < k ∨ n - k ≤ t then f (n - 1 - t) else f t))
  case atStart => exact ⟨0, by omega, rfl, by go_num, by omega, Below.refl _ _, SlI.congr HS.out fun i hi => by rw [if_neg (by omega)]⟩
  case round =>
    obtain ⟨k, hk, rfl, rfl, hkn, hb, hs⟩ := hrel
    have HB : Hid (Below B w wr) := hb
    have HSL : Hid (SlI wr (some ⟨rb, ro, none⟩) n cap (fun t => if t < k ∨ n - k ≤ t then f (n - 1 - t) else f t)) := hs
    by_cases hlt : (k : Int) < (n : Int) - 1 - k
    · obtain ⟨j, hj⟩ : ∃ j : Nat, (n : Int) - 1 - k = j := ⟨n - 1 - k, by omega⟩
      rw [hj] at hlt ⊢
      have t1 : decide ((k : Int) < (j : Int)) = true := decide_eq_true hlt
      have q1 : wr.cell? ⟨rb, ro + k, none⟩ = some (.int .i64 (f k)) := by
        have := Sl.cell hs (i := k) (by omega)
        rw [this]
        show some (Value.int .i64 (if k < k ∨ n - k ≤ k then f (n - 1 - k) else f k)) = _
        rw [if_neg (by omega)]
      have q2 : wr.cell? ⟨rb, ro + j, none⟩ = some (.int .i64 (f j)) := by
        have := Sl.cell hs (i := j) (by omega)
        rw [this]
        show some (Value.int .i64 (if j < k ∨ n - k ≤ j then f (n - 1 - j) else f j)) = _
        rw [if_neg (by omega)]
      have f1 : wr.frozen? ⟨rb, ro + k, none⟩ = false := Sl.frozen hs k
      have f2 : wr.frozen? ⟨rb, ro + j, none⟩ = false := Sl.frozen hs j
      have hkn2 : (k : Int) < (n : Int) := by omega
      have hjn2 : (j : Int) < (n : Int) := by omega
      have hkj : ¬ k = j := by omega
      have hkj2 : ¬ j = k := by omega
      have S2 : Hid (SlI ((wr.setCell ⟨rb, ro + k, none⟩ (.int .i64 (f j))).setCell ⟨rb, ro + j, none⟩ (.int .i64 (f k))).drew (some ⟨rb, ro, none⟩) n cap (fun t => if t < k + 1 ∨ n - (k + 1) ≤ t then f (n - 1 - t) else f t)) :=
        SlI.congr (SlI.set (SlI.set hs k (f j)) j (f k)) fun t ht => by
          by_cases e1 : t = j
          · rw [if_pos e1, if_pos (by omega), e1]
            congr 1
            omega
          · by_cases e2 : t = k
            · rw [if_neg e1, if_pos e2, if_pos (by omega), e2]
              congr 1
              omega
            · rw [if_neg e1, if_neg e2]
              by_cases e3 : t < k ∨ n - k ≤ t
              · rw [if_pos e3, if_pos (by omega)]
              · rw [if_neg e3, if_neg (by omega)]
      have B2 : Hid (Below B w ((wr.setCell ⟨rb, ro + k, none⟩ (.int .i64 (f j))).setCell ⟨rb, ro + j, none⟩ (.int .i64 (f k))).drew) := ((hb.setCell hB _).setCell hB _).drew
      have HJ : Hid ((n : Int) - 1 - k = j) := hj
      clear hb hs hj
      go_wp2
      go_region
      generalize ((wr.setCell ⟨rb, ro + k, none⟩ (.int .i64 (f j))).setCell ⟨rb, ro + j, none⟩ (.int .i64 (f k))).drew = w2 at *
      go_wp2
      go_roundg (n - (k + 1))
      case measure => omega
      case rel => exact ⟨k + 1, by omega, by go_num, by have := HJ.out; congr 1; omega, by have := HJ.out; omega, B2.out, S2.out⟩
    · have t1 : decide ((k : Int) < (n : Int) - 1 - k) = false := decide_eq_false hlt
      have FIN : Hid (SlI wr (some ⟨rb, ro, none⟩) n cap (fun i => f (n - 1 - i))) := SlI.congr hs fun i hi => by
        by_cases e : i < k ∨ n - k ≤ i
        · rw [if_pos e]
        · rw [if_neg e]
          congr 1
          omega
      clear hb hs
      go_wp2
      go_end0
      exact ⟨rfl, HB.out, FIN.out⟩
end Go.Proofs.Qxb6605452a
