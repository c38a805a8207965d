import Derived.Test.Qxb6605208aHW3
namespace Go.Proofs.Qxb6605208a
open Go.RowKit
open HP (WOK)

/-- What zzHFDomain asks. -/
def Dom (n n1 ns nl m nw : Nat) (S L M W : Nat → Int) : Prop :=
  n1 = n ∧ nw = n ∧ (∀ i, i < m → 0 ≤ M i ∧ M i < n) ∧ GOK n ns nl S L ∧ (∀ i, i < n → 0 ≤ W i ∧ W i < n) ∧ WOK n (cntN ns S) (parN ns S L) (fun i => (W i).toNat) n

theorem dom_len (a0 a1 a2 a3 a4 a5 : Option Addr) (n0 c0 n1 c1 n2 c2 n3 c3 n4 c4 n5 c5 : Nat) (w : World) (h : n1 ≠ n0) :
    Calls Try.prog 17 #[.slice a0 n0 c0, .slice a1 n1 c1, .slice a2 n2 c2, .slice a3 n3 c3, .slice a4 n4 c4, .slice a5 n5 c5] w fun e w' => e = .returned (.bool false) ∧ w' = w := by
  have hb : ((n1 : Int) != (n0 : Int)) = true := by rw [bne_iff_ne]; omega
  go_enter Try.func17, Try.ntmps17
  go_wp2
  go_ret
  exact ⟨rfl, rfl⟩

set_option maxRecDepth 100000 in
set_option maxHeartbeats 2000000 in
theorem dom_some (a0 a1 a2 a3 a4 a5 : Option Addr) (n0 c0 c1 n2 c2 n3 c3 n4 c4 n5 c5 : Nat) (S L M W : Nat → Int) (w : World) (k0 : n0 ≤ 4096) (k2 : n2 ≤ 8192) (k3 : n3 ≤ 8192) (k4 : n4 ≤ 4096)
    (hS : Ints w a2 n2 S) (hL : Ints w a3 n3 L) (hM : Ints w a4 n4 M) (hW : Ints w a5 n5 W) :
    Calls Try.prog 17 #[.slice a0 n0 c0, .slice a1 n0 c1, .slice a2 n2 c2, .slice a3 n3 c3, .slice a4 n4 c4, .slice a5 n5 c5] w fun e w' => RetBB w (Dom n0 n0 n2 n3 n4 n5 S L M W) e w' := by
  have hb : ((n0 : Int) != (n0 : Int)) = false := by simp
  have HS : Hid (Ints w a2 n2 S) := hS
  have HL : Hid (Ints w a3 n3 L) := hL
  have HM : Hid (Ints w a4 n4 M) := hM
  have HW : Hid (Ints w a5 n5 W) := hW
  clear hS hL hM hW
  go_enter Try.func17, Try.ntmps17
  go_wp2
  go_loopg [14] n4 (fun g i wr => ∃ k : Nat, k + g = n4 ∧ i = .int .i64 k ∧ w = wr ∧ ∀ x, x < k → 0 ≤ M x ∧ M x < n0)
  case atStart => exact ⟨0, by omega, rfl, rfl, fun x h => by omega⟩
  case round =>
    obtain ⟨k, hk, rfl, rfl, hx⟩ := hrel
    have HX : Hid (∀ x, x < k → 0 ≤ M x ∧ M x < n0) := hx
    clear hx
    by_cases hlt : k < n4
    · have hlt' : (k : Int) < (n4 : Int) := by omega
      rcases HM.out with h0 | ⟨b, off, e, hc⟩
      · omega
      have ck := hc k hlt
      subst e
      clear hc
      by_cases g1 : M k < 0
      · have g1' : decide (M k < 0) = true := decide_eq_true g1
        go_wp2
        go_ret
        exact ⟨false, rfl, Below.refl _ _, fun h => by cases h⟩
      · have g1' : decide (M k < 0) = false := decide_eq_false g1
        by_cases g2 : (n0 : Int) ≤ M k
        · have g2' : decide ((n0 : Int) ≤ M k) = true := decide_eq_true g2
          go_wp2
          go_ret
          exact ⟨false, rfl, Below.refl _ _, fun h => by cases h⟩
        · have g2' : decide ((n0 : Int) ≤ M k) = false := decide_eq_false g2
          have HX' : Hid (∀ x, x < k + 1 → 0 ≤ M x ∧ M x < n0) := by
            intro x h
            by_cases e : x = k
            · subst e; omega
            · exact HX.out x (by omega)
          go_wp2
          go_roundg (n4 - (k + 1))
          case measure => omega
          case rel => exact ⟨k + 1, by omega, by go_num, rfl, HX'.out⟩
    · obtain rfl : k = n4 := by omega
      go_wp2_with fail
      refine (graphOK_any a2 a3 n0 n2 n3 c2 c3 S L w (by omega) (by omega) (by omega) HS.out HL.out).mono ?_
      rintro e w1 ⟨r, rfl, hd, hr⟩
      cases r with
      | false =>
        go_wp2
        go_ret
        exact ⟨false, rfl, hd.below _, fun h => by cases h⟩
      | true =>
        have hg := hr rfl
        clear hr
        have HG : Hid (GOK n0 n2 n3 S L) := hg
        have HD : Hid (Drn w w1) := hd
        clear hg hd
        by_cases h5 : n5 = n0
        · subst h5
          go_wp2_with fail
          refine (walkedOK_any a2 a3 a5 n5 n2 n3 c2 c3 c5 S L W w1 (by omega) (by omega) (by omega) (HS.out.below (HD.out.below w.heap.size) (Nat.le_refl _)) (HL.out.below (HD.out.below w.heap.size) (Nat.le_refl _)) (HW.out.below (HD.out.below w.heap.size) (Nat.le_refl _)) HG.out).mono ?_
          rintro e w2 ⟨r, rfl, hb2, hr⟩
          have HB2 : Hid (Below w.heap.size w w2) := by
            have h1 := HD.out.below w.heap.size
            exact h1.trans (hb2.mono h1.size)
          have HR : Hid (r = true → (∀ i, i < n5 → 0 ≤ W i ∧ W i < n5) ∧ WOK n5 (cntN n2 S) (parN n2 S L) (fun i => (W i).toNat) n5) := hr
          clear hr hb2
          go_wp2
          go_ret
          exact ⟨r, rfl, HB2.out, fun h => ⟨rfl, rfl, HX.out, HG.out, HR.out h⟩⟩
        · go_wp2_with fail
          refine (walkedOK_len a2 a3 a5 n0 n2 n3 n5 c2 c3 c5 w1 h5).mono ?_
          rintro e w2 ⟨rfl, rfl⟩
          go_wp2
          go_ret
          exact ⟨false, rfl, HD.out.below _, fun h => by cases h⟩

theorem dom_any (a0 a1 a2 a3 a4 a5 : Option Addr) (n0 c0 n1 c1 n2 c2 n3 c3 n4 c4 n5 c5 : Nat) (S L M W : Nat → Int) (w : World) (k0 : n0 ≤ 4096) (k2 : n2 ≤ 8192) (k3 : n3 ≤ 8192) (k4 : n4 ≤ 4096)
    (hS : Ints w a2 n2 S) (hL : Ints w a3 n3 L) (hM : Ints w a4 n4 M) (hW : Ints w a5 n5 W) :
    Calls Try.prog 17 #[.slice a0 n0 c0, .slice a1 n1 c1, .slice a2 n2 c2, .slice a3 n3 c3, .slice a4 n4 c4, .slice a5 n5 c5] w fun e w' => RetBB w (Dom n0 n1 n2 n3 n4 n5 S L M W) e w' := by
  by_cases h : n1 = n0
  · subst h
    exact dom_some a0 a1 a2 a3 a4 a5 n1 c0 c1 n2 c2 n3 c3 n4 c4 n5 c5 S L M W w k0 k2 k3 k4 hS hL hM hW
  · exact (dom_len a0 a1 a2 a3 a4 a5 n0 c0 n1 c1 n2 c2 n3 c3 n4 c4 n5 c5 w h).mono fun e w' ⟨he, hw⟩ => ⟨false, he, hw ▸ Below.refl _ _, fun h => by cases h⟩

/-! ### zzCopyStrs -/

theorem Try.info9 : (Try.prog.info? 9).map (fun i => (i.zero, i.size, i.bytes)) = some (some (.string ByteArray.empty), 1, 16) := by kernel_rfl

theorem copyS_nil (n c : Nat) (w : World) :
    Calls Try.prog 18 #[.slice none n c] w fun e w' => e = .returned (.slice none 0 0) ∧ w' = w := by
  have k := fun (w : World) (a : Option Addr) (n c n' c' : Nat) => Lib.run_eql_slice_nil (P := Try.prog) w 29 9 a n c n' c' Try.underlying29
  go_enter Try.func18, Try.ntmps18
  go_wp2
  go_ret
  exact ⟨rfl, rfl⟩

set_option maxHeartbeats 1000000 in
theorem copyS_some (ad : Addr) (n c : Nat) (f : Nat → ByteArray) (w : World) (hn : n ≤ 1048576) (h0 : Strs w (some ad) n f) :
    Calls Try.prog 18 #[.slice (some ad) n c] w fun e w' => e = .returned (.slice (some ⟨w.heap.size, 0, none⟩) n n) ∧ Below w.heap.size w w' ∧ w'.rowIs w.heap.size 9 n (fun j => .string (f j)) := by
  have k := fun (w : World) (a : Option Addr) (n c n' c' : Nat) => Lib.run_eql_slice_nil (P := Try.prog) w 29 9 a n c n' c' Try.underlying29
  have hmk := run_make_row' (P := Try.prog) 29 9 (.string ByteArray.empty) 16 Try.underlying29 Try.info9 rfl .i64 .i64 n (by omega) (by omega)
  have H0 : Hid (Strs w (some ad) n f) := h0
  clear h0
  go_enter Try.func18, Try.ntmps18
  go_wp2
  go_loopg [4] n (fun g i wr => ∃ k : Nat, k + g = n ∧ i = .int .i64 k ∧ Below w.heap.size w wr ∧ wr.rowIs w.heap.size 9 n (fun j => if j < k then .string (f j) else .string ByteArray.empty))
  case atStart =>
    refine ⟨0, by omega, rfl, (Below.refl _ _).alloc (Nat.le_refl _) _, ?_⟩
    exact (World.rowIs_made w (.string ByteArray.empty) n 9).congr (fun i _ => by simp)
  case round =>
    obtain ⟨k, hk, rfl, hb, hr⟩ := hrel
    by_cases hlt : k < n
    · rcases H0.out with h | ⟨b, off, e, hc⟩
      · omega
      have ck := (hb.cell (p := ⟨b, off + k, none⟩) (World.block_lt_of_cell? w ⟨b, off + k, none⟩ (hc k hlt))).trans (hc k hlt)
      injection e with e
      subst e
      have hfz := hr.frozen k
      have hcl := hr.cell (i := k) hlt
      simp only [Nat.lt_irrefl, if_false] at hcl
      have hki : (k : Int) < (n : Int) := by omega
      have HB : Hid (Below w.heap.size w wr) := hb
      have HR : Hid (wr.rowIs w.heap.size 9 n (fun j => if j < k then .string (f j) else .string ByteArray.empty)) := hr
      clear hb hr hc
      go_wp2
      go_roundg (n - (k + 1))
      case measure => omega
      case rel =>
        refine ⟨k + 1, by omega, by go_num, HB.out.setCell (by simp) _, (HR.out.set k _).congr fun j hj => ?_⟩
        by_cases e1 : j = k
        · subst e1; simp
        · by_cases e2 : j < k
          · simp [e1, e2, show j < k + 1 by omega]
          · simp [e1, e2, show ¬ j < k + 1 by omega]
    · obtain rfl : k = n := by omega
      have HB : Hid (Below w.heap.size w wr) := hb
      have HR : Hid (wr.rowIs w.heap.size 9 k (fun j => if j < k then .string (f j) else .string ByteArray.empty)) := hr
      clear hb hr
      go_wp2
      go_ret
      exact ⟨rfl, HB.out, HR.out.congr fun j hj => by simp [hj]⟩

theorem strs_of_row {w : World} {B n : Nat} {f : Nat → ByteArray} (h : w.rowIs B 9 n (fun j => .string (f j))) : Strs w (some ⟨B, 0, none⟩) n f :=
  .inr ⟨B, 0, rfl, fun i hi => by rw [Nat.zero_add]; exact h.cell hi⟩

theorem copyS_any (a : Option Addr) (n c : Nat) (f : Nat → ByteArray) (w : World) (hn : n ≤ 1048576) (hz : a = none → n = 0) (h0 : Strs w a n f) :
    Calls Try.prog 18 #[.slice a n c] w fun e w' => ∃ a' c', e = .returned (.slice a' n c') ∧ Below w.heap.size w w' ∧ Strs w' a' n f := by
  cases a with
  | none =>
    obtain rfl := hz rfl
    exact (copyS_nil 0 c w).mono fun e w' ⟨he, hw⟩ => ⟨none, 0, he, hw ▸ Below.refl _ _, .inl rfl⟩
  | some ad => exact (copyS_some ad n c f w hn h0).mono fun e w' ⟨he, hb, hr⟩ => ⟨_, _, he, hb, strs_of_row hr⟩
end Go.Proofs.Qxb6605208a
