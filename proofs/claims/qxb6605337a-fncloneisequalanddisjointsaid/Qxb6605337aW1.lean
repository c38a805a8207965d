import Derived.Test.Qxb6605337aRows
import Derived.Test.Qxb6605337aMem
namespace Go.Proofs.Qxb6605337a
open Go.RowKit

theorem Try.info5 : (Try.prog.info? 5).map (fun i => (i.zero, i.size, i.bytes)) = some (some (.int .u8 0), 1, 1) := by kernel_rfl

/-! ### copyBytes -/

theorem copyB_nil (n c : Nat) (w : World) :
    Calls Try.prog 19 #[.slice none n c] w fun e w' => e = .returned (.slice none 0 0) ∧ w' = w := by
  have k := fun (w : World) (a : Option Addr) (n c n' c' : Nat) => Lib.run_eql_slice_nil (P := Try.prog) w 36 5 a n c n' c' Try.underlying36
  go_enter Try.func19, Try.ntmps19
  go_wp2
  go_ret
  exact ⟨rfl, rfl⟩

set_option maxHeartbeats 1000000 in
theorem copyB_some (ad : Addr) (n c : Nat) (f : Nat → Int) (w : World) (hn : n ≤ 1048576) (h0 : Bytes w (some ad) n f) :
    Calls Try.prog 19 #[.slice (some ad) n c] w fun e w' => e = .returned (.slice (some ⟨w.heap.size, 0, none⟩) n n) ∧ Below w.heap.size w w' ∧ w'.rowIs w.heap.size 5 n (fun j => .int .u8 (f j)) := by
  have k := fun (w : World) (a : Option Addr) (n c n' c' : Nat) => Lib.run_eql_slice_nil (P := Try.prog) w 36 5 a n c n' c' Try.underlying36
  have hmk := run_make_row' (P := Try.prog) 36 5 (.int .u8 0) 1 Try.underlying36 Try.info5 rfl .i64 .i64 n (by omega) (by omega)
  have H0 : Hid (Bytes w (some ad) n f) := h0
  clear h0
  go_enter Try.func19, Try.ntmps19
  go_wp2
  clear hmk k
  go_loopg [4] n (fun g i wr => ∃ k : Nat, k + g = n ∧ i = .int .i64 k ∧ Below w.heap.size w wr ∧ wr.rowIs w.heap.size 5 n (fun j => if j < k then .int .u8 (f j) else .int .u8 0))
  case atStart =>
    refine ⟨0, by omega, rfl, (Below.refl _ _).alloc (Nat.le_refl _) _, ?_⟩
    exact (World.rowIs_made w (.int .u8 0) n 5).congr (fun i _ => by simp)
  case round =>
    obtain ⟨k, hk, rfl, hb, hr⟩ := hrel
    have HB : Hid (Below w.heap.size w wr) := hb
    have HR : Hid (wr.rowIs w.heap.size 5 n (fun j => if j < k then .int .u8 (f j) else .int .u8 0)) := hr
    by_cases hlt : k < n
    · rcases H0.out with h | ⟨b, off, e, hc⟩
      · omega
      have ck := (hb.cell (p := ⟨b, off + k, none⟩) (World.block_lt_of_cell? w ⟨b, off + k, none⟩ (hc k hlt))).trans (hc k hlt)
      injection e with e
      subst e
      have hfz := hr.frozen k
      have hcl := hr.cell (i := k) hlt
      simp only [Nat.lt_irrefl, if_false] at hcl
      have hki : (k : Int) < (n : Int) := by omega
      clear hb hr hc
      go_wp2
      go_roundg (n - (k + 1))
      case measure => omega
      case rel =>
        refine ⟨k + 1, by omega, by go_num, HB.out.setCell (by simp) _, (HR.out.set k _).congr fun j hj => ?_⟩
        by_cases e1 : j = k
        · subst e1; simp
        · by_cases e2 : j < k
          · simp [e1, e2, show j < k + 1 by omega]
          · simp [e1, e2, show ¬ j < k + 1 by omega]
    · obtain rfl : k = n := by omega
      clear hb hr
      go_wp2
      go_ret
      exact ⟨rfl, HB.out, HR.out.congr fun j hj => by simp [hj]⟩

/-- copyBytes: the same bytes, nil where it was nil, else in a new block. -/
theorem copyB_any (a : Option Addr) (n c : Nat) (f : Nat → Int) (w : World) (hn : n ≤ 1048576) (hz : a.isNone = true → n = 0) (h0 : Bytes w a n f) :
    Calls Try.prog 19 #[.slice a n c] w fun e w' => ∃ a' c', e = .returned (.slice a' n c') ∧ a'.isNone = a.isNone ∧ Below w.heap.size w w' ∧ Bytes w' a' n f ∧ ∀ x, a' = some x → w.heap.size ≤ x.block := by
  cases a with
  | none =>
    obtain rfl := hz rfl
    exact (copyB_nil 0 c w).mono fun e w' ⟨he, hw⟩ => ⟨none, 0, he, rfl, hw ▸ Below.refl _ _, .inl rfl, fun x h => by cases h⟩
  | some ad => exact (copyB_some ad n c f w hn h0).mono fun e w' ⟨he, hb, hr⟩ => ⟨_, _, he, rfl, hb, bytes_of_row hr, fun x h => by cases h; exact Nat.le_refl _⟩

/-! ### sameBytes -/

theorem sameB_zero (a b : Option Addr) (ca cb : Nat) (w : World) :
    Calls Try.prog 18 #[.slice a 0 ca, .slice b 0 cb] w fun e w' => e = .returned (.bool true) ∧ w' = w := by
  go_enter Try.func18, Try.ntmps18
  go_wp2
  refine wp_loop_rounds 1 ?_
  rw [rounds_succ]
  go_wp2
  go_ret
  exact ⟨rfl, rfl⟩

set_option maxHeartbeats 1000000 in
theorem sameB_some (b0 o0 b1 o1 n ca cb : Nat) (f : Nat → Int) (w : World) (hn : n ≤ 1048576)
    (h0 : ∀ i, i < n → w.cell? ⟨b0, o0 + i, none⟩ = some (.int .u8 (f i))) (h1 : ∀ i, i < n → w.cell? ⟨b1, o1 + i, none⟩ = some (.int .u8 (f i))) :
    Calls Try.prog 18 #[.slice (some ⟨b0, o0, none⟩) n ca, .slice (some ⟨b1, o1, none⟩) n cb] w fun e w' => e = .returned (.bool true) ∧ Drn w w' := by
  have hne : ((n : Int) != (n : Int)) = false := by simp
  have H0 : Hid (∀ i, i < n → w.cell? ⟨b0, o0 + i, none⟩ = some (.int .u8 (f i))) := h0
  have H1 : Hid (∀ i, i < n → w.cell? ⟨b1, o1 + i, none⟩ = some (.int .u8 (f i))) := h1
  clear h0 h1
  go_enter Try.func18, Try.ntmps18
  go_wp2
  go_loopg [5] n (fun g i wr => ∃ k : Nat, k + g = n ∧ i = .int .i64 k ∧ Drn w wr)
  case atStart => exact ⟨0, by omega, rfl, Drn.refl _⟩
  case round =>
    obtain ⟨k, hk, rfl, q, rfl⟩ := hrel
    have hq : Drn w (w.drewN q) := Drn.mk w q
    by_cases hlt : k < n
    · have c0 := H0.out k hlt
      have c1 := H1.out k hlt
      have hki : (k : Int) < (n : Int) := by omega
      have hnf : (f k != f k) = false := by simp
      go_wp2
      go_quiet (fail)
      go_wp2
      go_roundg (n - (k + 1))
      case measure => omega
      case rel => exact ⟨k + 1, by omega, by go_num, by repeat (first | exact hq | exact Drn.refl _ | apply Drn.step | apply Drn.drew)⟩
    · go_wp2
      go_ret
      exact ⟨rfl, hq⟩

theorem sameB_any (a b : Option Addr) (n ca cb : Nat) (f : Nat → Int) (w : World) (hn : n ≤ 1048576) (h0 : Bytes w a n f) (h1 : Bytes w b n f) :
    Calls Try.prog 18 #[.slice a n ca, .slice b n cb] w fun e w' => e = .returned (.bool true) ∧ Drn w w' := by
  by_cases hz : n = 0
  · subst hz
    exact (sameB_zero a b ca cb w).mono fun e w' ⟨he, hw⟩ => ⟨he, hw ▸ Drn.refl _⟩
  · rcases h0 with h0 | ⟨b0, o0, rfl, h0⟩
    · exact absurd h0 hz
    rcases h1 with h1 | ⟨b1, o1, rfl, h1⟩
    · exact absurd h1 hz
    exact sameB_some b0 o0 b1 o1 n ca cb f w hn h0 h1

/-! ### the size guards -/

/-- Some bool is returned, the world is as it was; where it is true, Q holds. -/
def RetQ (w : World) (Q : Prop) (e : Ending) (w' : World) : Prop := ∃ r : Bool, e = .returned (.bool r) ∧ w' = w ∧ (r = true → Q)

set_option maxHeartbeats 2000000 in
theorem bytes15_any (t s : Int) (a : Option Addr) (n c : Nat) (D : KD) (w : World) (hK : Keys w a n D) :
    Calls Try.prog 15 #[.int .u8 t, .slice a n c, .int .u8 s] w fun e w' => RetQ w True e w' := by
  have HK : Hid (Keys w a n D) := hK
  clear hK
  by_cases kn : n ≤ 1048576
  · have d0 : decide ((1048576 : Int) < (n : Int)) = false := decide_eq_false (by omega)
    go_enter Try.func15, Try.ntmps15
    go_wp2
    go_loopg [7, 8] n (fun g z i wr => ∃ (k : Nat) (zz : Int), k + g = n ∧ i = .int .i64 k ∧ z = .int .i64 zz ∧ w = wr)
    case atStart => exact ⟨0, _, by omega, rfl, rfl, rfl⟩
    case round =>
      obtain ⟨k, zz, hk, rfl, rfl, rfl⟩ := hrel
      by_cases hlt : k < n
      · have hlt' : (k : Int) < (n : Int) := by omega
        rcases HK.out with h0 | ⟨b, off, sa, sc, e, hc⟩
        · omega
        have ck := (hc k hlt).2.1
        subst e
        clear hc
        go_wp2
        all_goals first | (go_ret; exact ⟨_, rfl, rfl, fun _ => trivial⟩) | (go_roundg (n - (k + 1)); (case measure => omega); (case rel => exact ⟨k + 1, _, by omega, by go_num, rfl, rfl⟩))
      · go_wp2
        go_ret
        exact ⟨_, rfl, rfl, fun _ => trivial⟩
  · have d0 : decide ((1048576 : Int) < (n : Int)) = true := decide_eq_true (by omega)
    go_enter Try.func15, Try.ntmps15
    go_wp2
    go_ret
    exact ⟨_, rfl, rfl, fun _ => trivial⟩

set_option maxHeartbeats 2000000 in
theorem keysFit_any (a : Option Addr) (n c : Nat) (D : KD) (w : World) (hK : Keys w a n D) (hsz : ∀ i, i < n → D.sl i ≤ 9223372036854775807) :
    Calls Try.prog 8 #[.slice a n c] w fun e w' => RetQ w (n ≤ 32768 ∧ ∀ i, i < n → D.sl i ≤ 1048576) e w' := by
  have HK : Hid (Keys w a n D) := hK
  have HZ : Hid (∀ i, i < n → D.sl i ≤ 9223372036854775807) := hsz
  clear hK hsz
  by_cases kn : n ≤ 65536
  · have d0 : decide ((65536 : Int) < (n : Int)) = false := decide_eq_false (by omega)
    by_cases kn2 : n ≤ 32768
    · have d1 : decide ((1048576 : Int) < (n : Int) * 32) = false := decide_eq_false (by omega)
      go_enter Try.func8, Try.ntmps8
      go_wp2
      go_loopg [3, 4] n (fun g z i wr => ∃ (k : Nat) (zz : Int), k + g = n ∧ i = .int .i64 k ∧ z = .int .i64 zz ∧ 0 ≤ zz ∧ zz ≤ 1048576 ∧ (∀ x, x < k → D.sl x ≤ 1048576) ∧ w = wr)
      case atStart => exact ⟨0, _, by omega, rfl, rfl, by omega, by omega, fun x h => by omega, rfl⟩
      case round =>
        obtain ⟨k, zz, hk, rfl, rfl, hz0, hz1, hx, rfl⟩ := hrel
        have HX : Hid (∀ x, x < k → D.sl x ≤ 1048576) := hx
        clear hx
        by_cases hlt : k < n
        · have hlt' : (k : Int) < (n : Int) := by omega
          rcases HK.out with h0 | ⟨b, off, sa, sc, e, hc⟩
          · omega
          have ck := (hc k hlt).2.1
          have hzk := HZ.out k hlt
          subst e
          clear hc
          generalize hsl : D.sl k = sl at ck hzk
          have HSL : Hid (D.sl k = sl) := hsl
          clear hsl
          by_cases g1 : sl ≤ 1048576
          · have g1' : decide ((1048576 : Int) < (sl : Int)) = false := decide_eq_false (by omega)
            have HX' : Hid (∀ x, x < k + 1 → D.sl x ≤ 1048576) := by
              intro x h
              by_cases e : x = k
              · subst e; rw [HSL.out]; exact g1
              · exact HX.out x (by omega)
            by_cases g2 : zz + (sl : Int) ≤ 1048576
            · have g2' : decide ((1048576 : Int) < zz + (sl : Int)) = false := decide_eq_false (by omega)
              go_wp2
              go_roundg (n - (k + 1))
              case measure => omega
              case rel => exact ⟨k + 1, _, by omega, by go_num, rfl, by omega, by omega, HX'.out, rfl⟩
            · have g2' : decide ((1048576 : Int) < zz + (sl : Int)) = true := decide_eq_true (by omega)
              go_wp2
              go_ret
              exact ⟨false, rfl, rfl, fun h => by cases h⟩
          · have g1' : decide ((1048576 : Int) < (sl : Int)) = true := decide_eq_true (by omega)
            go_wp2
            go_ret
            exact ⟨false, rfl, rfl, fun h => by cases h⟩
        · go_wp2
          go_ret
          exact ⟨true, rfl, rfl, fun _ => ⟨kn2, fun i hi => HX.out i (by omega)⟩⟩
    · have d1 : decide ((1048576 : Int) < (n : Int) * 32) = true := decide_eq_true (by omega)
      go_enter Try.func8, Try.ntmps8
      go_wp2
      go_ret
      exact ⟨false, rfl, rfl, fun h => by cases h⟩
  · have d0 : decide ((65536 : Int) < (n : Int)) = true := decide_eq_true (by omega)
    go_enter Try.func8, Try.ntmps8
    go_wp2
    go_ret
    exact ⟨false, rfl, rfl, fun h => by cases h⟩
end Go.Proofs.Qxb6605337a
