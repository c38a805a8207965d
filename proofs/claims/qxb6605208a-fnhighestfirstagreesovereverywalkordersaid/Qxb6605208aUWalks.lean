import Derived.Test.Qxb6605208aRows
import Derived.Test.Qxb6605208aMem
namespace Go.Proofs.Qxb6605208a
open Go.RowKit

/-- The ends pair up: what zzRunsOK asks. -/
def RunsOK (n : Nat) (f t : Nat → Int) : Prop := ∀ i, i < n → f i ≤ t i ∧ t i ≤ 9223372036854775806 ∧ (0 < i → t (i - 1) + 1 < f i)

set_option maxHeartbeats 1000000 in
theorem runsOK_len (a b : Option Addr) (n m ca cb : Nat) (w : World) (h : n ≠ m) :
    Calls Try.prog 8 #[.slice a n ca, .slice b m cb] w fun e w' => e = .returned (.bool false) ∧ w' = w := by
  have hb : ((n : Int) != (m : Int)) = true := by rw [bne_iff_ne]; omega
  go_enter Try.func8, Try.ntmps8
  go_wp2
  go_ret
  exact ⟨rfl, rfl⟩

theorem runsOK_zero (a b : Option Addr) (ca cb : Nat) (w : World) :
    Calls Try.prog 8 #[.slice a 0 ca, .slice b 0 cb] w fun e w' => e = .returned (.bool true) ∧ w' = w := by
  go_enter Try.func8, Try.ntmps8
  go_wp2
  refine wp_loop_rounds 1 ?_
  rw [rounds_succ]
  go_wp2
  go_ret
  exact ⟨rfl, rfl⟩

set_option maxHeartbeats 2000000 in
theorem runsOK_some (b0 o0 b1 o1 n ca cb : Nat) (f t : Nat → Int) (w : World) (hn : n ≤ 1048576) (wt : Wf n t)
    (h0 : ∀ i, i < n → w.cell? ⟨b0, o0 + i, none⟩ = some (.int .i64 (f i))) (h1 : ∀ i, i < n → w.cell? ⟨b1, o1 + i, none⟩ = some (.int .i64 (t i))) :
    Calls Try.prog 8 #[.slice (some ⟨b0, o0, none⟩) n ca, .slice (some ⟨b1, o1, none⟩) n cb] w fun e w' => ∃ r : Bool, e = .returned (.bool r) ∧ Drn w w' ∧ (r = true → RunsOK n f t) := by
  have hne : ((n : Int) != (n : Int)) = false := by simp
  have H0 : Hid (∀ i, i < n → w.cell? ⟨b0, o0 + i, none⟩ = some (.int .i64 (f i))) := h0
  have H1 : Hid (∀ i, i < n → w.cell? ⟨b1, o1 + i, none⟩ = some (.int .i64 (t i))) := h1
  have HW : Hid (Wf n t) := wt
  clear h0 h1 wt
  go_enter Try.func8, Try.ntmps8
  go_wp2
  go_loopg [5] n (fun g i wr => ∃ k : Nat, k + g = n ∧ i = .int .i64 k ∧ RunsOK k f t ∧ Drn w wr)
  case atStart => exact ⟨0, by omega, rfl, fun i h => by omega, Drn.refl _⟩
  case round =>
    obtain ⟨k, hk, rfl, hrun, q, rfl⟩ := hrel
    have hq : Drn w (w.drewN q) := Drn.mk w q
    have HR : Hid (RunsOK k f t) := hrun
    clear hrun
    by_cases hlt : k < n
    · have c0 := H0.out k hlt
      have c1 := H1.out k hlt
      have wk := HW.out k hlt
      have hki : (k : Int) < (n : Int) := by omega
      by_cases g1 : t k < f k
      · go_wp2
        go_quiet (fail)
        go_wp2
        go_ret
        exact ⟨false, rfl, (by repeat (first | exact hq | exact Drn.refl _ | apply Drn.step | apply Drn.drew)), fun h => by cases h⟩
      · have g1' : decide (t k < f k) = false := by simpa using g1
        by_cases g2 : t k = 9223372036854775807
        · have g2' : (t k == 9223372036854775807) = true := by simpa using g2
          clear g2
          go_wp2
          go_quiet (fail)
          go_wp2
          go_ret
          exact ⟨false, rfl, (by repeat (first | exact hq | exact Drn.refl _ | apply Drn.step | apply Drn.drew)), fun h => by cases h⟩
        · have g2' : (t k == 9223372036854775807) = false := by simpa using g2
          have g2'' : t k ≤ 9223372036854775806 := by omega
          by_cases g3 : 0 < k
          · have c2 := H1.out (k - 1) (by omega)
            have hb := (HR.out (k - 1) (by omega)).2.1
            have wk1 := HW.out (k - 1) (by omega)
            obtain ⟨j, rfl⟩ : ∃ j, k = j + 1 := ⟨k - 1, by omega⟩
            rw [Nat.add_sub_cancel] at c2 hb wk1
            have g3' : (0 : Int) < ((j + 1 : Nat) : Int) := by omega
            have gj : (j : Int) < (n : Int) := by omega
            by_cases g4 : f (j + 1) ≤ t j + 1
            · go_wp2
              go_quiet (fail)
              go_wp2
              go_quiet (fail)
              go_wp2
              go_ret
              exact ⟨false, rfl, (by repeat (first | exact hq | exact Drn.refl _ | apply Drn.step | apply Drn.drew)), fun h => by cases h⟩
            · have HR' : Hid (RunsOK (j + 1 + 1) f t) := by
                intro i hi
                by_cases e : i = j + 1
                · subst e
                  exact ⟨by omega, by omega, fun _ => by rw [Nat.add_sub_cancel]; omega⟩
                · exact HR.out i (by omega)
              go_wp2
              go_quiet (fail)
              go_wp2
              go_quiet (fail)
              go_wp2
              go_roundg (n - (j + 1 + 1))
              case measure => omega
              case rel => exact ⟨j + 1 + 1, by omega, by go_num, HR'.out, (by repeat (first | exact hq | exact Drn.refl _ | apply Drn.step | apply Drn.drew))⟩
          · obtain rfl : k = 0 := by omega
            rw [Nat.add_zero] at c0 c1
            have g3' : decide ((0 : Int) < ((0 : Nat) : Int)) = false := by decide
            have HR' : Hid (RunsOK (0 + 1) f t) := by
              intro i hi
              obtain rfl : i = 0 := by omega
              exact ⟨by omega, by omega, fun h => by omega⟩
            go_wp2
            go_quiet (fail)
            go_wp2
            go_quiet (fail)
            go_wp2
            go_roundg (n - 1)
            case measure => omega
            case rel => exact ⟨1, by omega, by go_num, HR'.out, (by repeat (first | exact hq | exact Drn.refl _ | apply Drn.step | apply Drn.drew))⟩
    · obtain rfl : k = n := by omega
      go_wp2
      go_ret
      exact ⟨true, rfl, (by repeat (first | exact hq | exact Drn.refl _ | apply Drn.step | apply Drn.drew)), fun _ => HR.out⟩

/-- zzRunsOK, whatever the slices: true only where the ends pair up. -/
theorem runsOK_any (a b : Option Addr) (n m ca cb : Nat) (f t : Nat → Int) (w : World) (hn : n ≤ 1048576) (wt : Wf m t) (h0 : Ints w a n f) (h1 : Ints w b m t) :
    Calls Try.prog 8 #[.slice a n ca, .slice b m cb] w fun e w' => ∃ r : Bool, e = .returned (.bool r) ∧ Drn w w' ∧ (r = true → n = m ∧ RunsOK n f t) := by
  by_cases hnm : n = m
  · subst hnm
    by_cases hz : n = 0
    · subst hz
      exact (runsOK_zero a b ca cb w).mono fun e w' ⟨he, hw⟩ => ⟨true, he, hw ▸ Drn.refl _, fun _ => ⟨rfl, fun i hi => by omega⟩⟩
    · rcases h0 with h0 | ⟨b0, o0, rfl, h0⟩
      · exact absurd h0 hz
      rcases h1 with h1 | ⟨b1, o1, rfl, h1⟩
      · exact absurd h1 hz
      exact (runsOK_some b0 o0 b1 o1 n ca cb f t w hn wt h0 h1).mono fun e w' ⟨r, he, hw, hr⟩ => ⟨r, he, hw, fun h => ⟨rfl, hr h⟩⟩
  · exact (runsOK_len a b n m ca cb w hnm).mono fun e w' ⟨he, hw⟩ => ⟨false, he, hw ▸ Drn.refl _, fun h => by cases h⟩

/-! ### zzSame -/

theorem same_zero (a b : Option Addr) (ca cb : Nat) (w : World) :
    Calls Try.prog 14 #[.slice a 0 ca, .slice b 0 cb] w fun e w' => e = .returned (.bool true) ∧ w' = w := by
  go_enter Try.func14, Try.ntmps14
  go_wp2
  refine wp_loop_rounds 1 ?_
  rw [rounds_succ]
  go_wp2
  go_ret
  exact ⟨rfl, rfl⟩

set_option maxHeartbeats 1000000 in
theorem same_some (b0 o0 b1 o1 n ca cb : Nat) (f : Nat → Int) (w : World) (hn : n ≤ 1048576)
    (h0 : ∀ i, i < n → w.cell? ⟨b0, o0 + i, none⟩ = some (.int .i64 (f i))) (h1 : ∀ i, i < n → w.cell? ⟨b1, o1 + i, none⟩ = some (.int .i64 (f i))) :
    Calls Try.prog 14 #[.slice (some ⟨b0, o0, none⟩) n ca, .slice (some ⟨b1, o1, none⟩) n cb] w fun e w' => e = .returned (.bool true) ∧ Drn w w' := by
  have hne : ((n : Int) != (n : Int)) = false := by simp
  have H0 : Hid (∀ i, i < n → w.cell? ⟨b0, o0 + i, none⟩ = some (.int .i64 (f i))) := h0
  have H1 : Hid (∀ i, i < n → w.cell? ⟨b1, o1 + i, none⟩ = some (.int .i64 (f i))) := h1
  clear h0 h1
  go_enter Try.func14, Try.ntmps14
  go_wp2
  go_loopg [5] n (fun g i wr => ∃ k : Nat, k + g = n ∧ i = .int .i64 k ∧ Drn w wr)
  case atStart => exact ⟨0, by omega, rfl, Drn.refl _⟩
  case round =>
    obtain ⟨k, hk, rfl, q, rfl⟩ := hrel
    have hq : Drn w (w.drewN q) := Drn.mk w q
    by_cases hlt : k < n
    · have c0 := H0.out k hlt
      have c1 := H1.out k hlt
      have hki : (k : Int) < (n : Int) := by omega
      have hnf : (f k != f k) = false := by simp
      go_wp2
      go_quiet (fail)
      go_wp2
      go_roundg (n - (k + 1))
      case measure => omega
      case rel => exact ⟨k + 1, by omega, by go_num, by repeat (first | exact hq | exact Drn.refl _ | apply Drn.step | apply Drn.drew)⟩
    · go_wp2
      go_ret
      exact ⟨rfl, hq⟩

/-- zzSame on slices that hold the same. -/
theorem same_any (a b : Option Addr) (n ca cb : Nat) (f g : Nat → Int) (w : World) (hn : n ≤ 1048576) (h0 : Ints w a n f) (h1 : Ints w b n g) (e : ∀ i, i < n → f i = g i) :
    Calls Try.prog 14 #[.slice a n ca, .slice b n cb] w fun e w' => e = .returned (.bool true) ∧ Drn w w' := by
  by_cases hz : n = 0
  · subst hz
    exact (same_zero a b ca cb w).mono fun e w' ⟨he, hw⟩ => ⟨he, hw ▸ Drn.refl _⟩
  · rcases h0 with h0 | ⟨b0, o0, rfl, h0⟩
    · exact absurd h0 hz
    rcases h1 with h1 | ⟨b1, o1, rfl, h1⟩
    · exact absurd h1 hz
    exact same_some b0 o0 b1 o1 n ca cb f w hn h0 (fun i hi => by rw [h1 i hi, e i hi])

/-! ### zzCopyInts -/

theorem Try.info3 : (Try.prog.info? 3).map (fun i => (i.zero, i.size, i.bytes)) = some (some (.int .i64 0), 1, 8) := by kernel_rfl

theorem copy_nil (n c : Nat) (w : World) :
    Calls Try.prog 9 #[.slice none n c] w fun e w' => e = .returned (.slice none 0 0) ∧ w' = w := by
  have k := fun (w : World) (a : Option Addr) (n c n' c' : Nat) => Lib.run_eql_slice_nil (P := Try.prog) w 22 3 a n c n' c' Try.underlying22
  go_enter Try.func9, Try.ntmps9
  go_wp2
  go_ret
  exact ⟨rfl, rfl⟩

set_option maxHeartbeats 1000000 in
theorem copy_some (ad : Addr) (n c : Nat) (f : Nat → Int) (w : World) (hn : n ≤ 1048576) (h0 : Ints w (some ad) n f) :
    Calls Try.prog 9 #[.slice (some ad) n c] w fun e w' => e = .returned (.slice (some ⟨w.heap.size, 0, none⟩) n n) ∧ Below w.heap.size w w' ∧ w'.rowIs w.heap.size 3 n (fun j => .int .i64 (f j)) := by
  have k := fun (w : World) (a : Option Addr) (n c n' c' : Nat) => Lib.run_eql_slice_nil (P := Try.prog) w 22 3 a n c n' c' Try.underlying22
  have hmk := run_make_row' (P := Try.prog) 22 3 (.int .i64 0) 8 Try.underlying22 Try.info3 rfl .i64 .i64 n (by omega) (by omega)
  have H0 : Hid (Ints w (some ad) n f) := h0
  clear h0
  go_enter Try.func9, Try.ntmps9
  go_wp2
  go_loopg [4] n (fun g i wr => ∃ k : Nat, k + g = n ∧ i = .int .i64 k ∧ Below w.heap.size w wr ∧ wr.rowIs w.heap.size 3 n (fun j => if j < k then .int .i64 (f j) else .int .i64 0))
  case atStart =>
    refine ⟨0, by omega, rfl, (Below.refl _ _).alloc (Nat.le_refl _) _, ?_⟩
    exact (World.rowIs_made w (.int .i64 0) n 3).congr (fun i _ => by simp)
  case round =>
    obtain ⟨k, hk, rfl, hb, hr⟩ := hrel
    by_cases hlt : k < n
    · rcases H0.out with h | ⟨b, off, e, hc⟩
      · omega
      have ck := (hb.cell (p := ⟨b, off + k, none⟩) (World.block_lt_of_cell? w ⟨b, off + k, none⟩ (hc k hlt))).trans (hc k hlt)
      injection e with e
      subst e
      have hfz := hr.frozen k
      have hcl := hr.cell (i := k) hlt
      simp only [Nat.lt_irrefl, if_false] at hcl
      have hki : (k : Int) < (n : Int) := by omega
      have HB : Hid (Below w.heap.size w wr) := hb
      have HR : Hid (wr.rowIs w.heap.size 3 n (fun j => if j < k then .int .i64 (f j) else .int .i64 0)) := hr
      clear hb hr hc
      go_wp2
      go_roundg (n - (k + 1))
      case measure => omega
      case rel =>
        refine ⟨k + 1, by omega, by go_num, HB.out.setCell (by simp) _, (HR.out.set k _).congr fun j hj => ?_⟩
        by_cases e1 : j = k
        · subst e1; simp
        · by_cases e2 : j < k
          · simp [e1, e2, show j < k + 1 by omega]
          · simp [e1, e2, show ¬ j < k + 1 by omega]
    · obtain rfl : k = n := by omega
      have HB : Hid (Below w.heap.size w wr) := hb
      have HR : Hid (wr.rowIs w.heap.size 3 k (fun j => if j < k then .int .i64 (f j) else .int .i64 0)) := hr
      clear hb hr
      go_wp2
      go_ret
      exact ⟨rfl, HB.out, HR.out.congr fun j hj => by simp [hj]⟩

theorem ints_of_row {w : World} {B n : Nat} {f : Nat → Int} (h : w.rowIs B 3 n (fun j => .int .i64 (f j))) : Ints w (some ⟨B, 0, none⟩) n f :=
  .inr ⟨B, 0, rfl, fun i hi => by rw [Nat.zero_add]; exact h.cell hi⟩

/-- zzCopyInts, whatever the slice. -/
theorem copy_any (a : Option Addr) (n c : Nat) (f : Nat → Int) (w : World) (hn : n ≤ 1048576) (hz : a = none → n = 0) (h0 : Ints w a n f) :
    Calls Try.prog 9 #[.slice a n c] w fun e w' => ∃ a' c', e = .returned (.slice a' n c') ∧ Below w.heap.size w w' ∧ Ints w' a' n f := by
  cases a with
  | none =>
    obtain rfl := hz rfl
    exact (copy_nil 0 c w).mono fun e w' ⟨he, hw⟩ => ⟨none, 0, he, hw ▸ Below.refl _ _, .inl rfl⟩
  | some ad => exact (copy_some ad n c f w hn h0).mono fun e w' ⟨he, hb, hr⟩ => ⟨_, _, he, hb, ints_of_row hr⟩

end Go.Proofs.Qxb6605208a
