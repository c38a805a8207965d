import Derived.Test.Qxb6605452aW2
namespace Go.Proofs.Qxb6605452a
open Go.RowKit

theorem Try.info3 : (Try.prog.info? 3).map (fun i => (i.zero, i.size, i.bytes)) = some (some (.int .i64 0), 1, 8) := by kernel_rfl
theorem Try.info22 : (Try.prog.info? 22).map (fun i => (i.zero, i.size, i.bytes)) = some (some (.slice none 0 0), 1, 24) := by kernel_rfl

/-! ### copyInts -/

theorem copyI_nil (n c : Nat) (w : World) :
    Calls Try.prog 10 #[.slice none n c] w fun e w' => e = .returned (.slice none 0 0) ∧ w' = w := by
  have k := fun (w : World) (a : Option Addr) (n c n' c' : Nat) => Lib.run_eql_slice_nil (P := Try.prog) w 22 3 a n c n' c' Try.underlying22
  go_enter Try.func10, Try.ntmps10
  go_wp2
  go_ret
  exact ⟨rfl, rfl⟩

set_option maxHeartbeats 1000000 in
theorem copyI_some (ad : Addr) (n c : Nat) (f : Nat → Int) (w : World) (hn : n ≤ 1048576) (h0 : Ints w (some ad) n f) :
    Calls Try.prog 10 #[.slice (some ad) n c] w fun e w' => e = .returned (.slice (some ⟨w.heap.size, 0, none⟩) n n) ∧ Below w.heap.size w w' ∧ w'.rowIs w.heap.size 3 n (fun j => .int .i64 (f j)) := by
  have k := fun (w : World) (a : Option Addr) (n c n' c' : Nat) => Lib.run_eql_slice_nil (P := Try.prog) w 22 3 a n c n' c' Try.underlying22
  have hmk := run_make_row' (P := Try.prog) 22 3 (.int .i64 0) 8 Try.underlying22 Try.info3 rfl .i64 .i64 n (by omega) (by omega)
  have H0 : Hid (Ints w (some ad) n f) := h0
  clear h0
  go_enter Try.func10, Try.ntmps10
  go_wp2
  clear hmk k
  go_loopg [4] n (fun g i wr => ∃ k : Nat, k + g = n ∧ i = .int .i64 k ∧ Below w.heap.size w wr ∧ wr.rowIs w.heap.size 3 n (fun j => if j < k then .int .i64 (f j) else .int .i64 0))
  case atStart =>
    refine ⟨0, by omega, rfl, (Below.refl _ _).alloc (Nat.le_refl _) _, ?_⟩
    exact (World.rowIs_made w (.int .i64 0) n 3).congr (fun i _ => by simp)
  case round =>
    obtain ⟨k, hk, rfl, hb, hr⟩ := hrel
    have HB : Hid (Below w.heap.size w wr) := hb
    have HR : Hid (wr.rowIs w.heap.size 3 n (fun j => if j < k then .int .i64 (f j) else .int .i64 0)) := hr
    by_cases hlt : k < n
    · rcases H0.out with h | ⟨b, off, e, hc⟩
      · omega
      have ck := (hb.cell (p := ⟨b, off + k, none⟩) (World.block_lt_of_cell? w ⟨b, off + k, none⟩ (hc k hlt))).trans (hc k hlt)
      injection e with e
      subst e
      have hfz := hr.frozen k
      have hcl := hr.cell (i := k) hlt
      simp only [Nat.lt_irrefl, if_false] at hcl
      have hki : (k : Int) < (n : Int) := by omega
      clear hb hr hc
      go_wp2
      go_roundg (n - (k + 1))
      case measure => omega
      case rel =>
        refine ⟨k + 1, by omega, by go_num, HB.out.setCell (by simp) _, (HR.out.set k _).congr fun j hj => ?_⟩
        by_cases e1 : j = k
        · subst e1; simp
        · by_cases e2 : j < k
          · simp [e1, e2, show j < k + 1 by omega]
          · simp [e1, e2, show ¬ j < k + 1 by omega]
    · obtain rfl : k = n := by omega
      clear hb hr
      go_wp2
      go_ret
      exact ⟨rfl, HB.out, HR.out.congr fun j hj => by simp [hj]⟩

/-- copyInts: the same bytes, nil where it was nil, else in a new block. -/
theorem copyI_any (a : Option Addr) (n c : Nat) (f : Nat → Int) (w : World) (hn : n ≤ 1048576) (hz : a.isNone = true → n = 0) (h0 : Ints w a n f) :
    Calls Try.prog 10 #[.slice a n c] w fun e w' => ∃ a' c', e = .returned (.slice a' n c') ∧ a'.isNone = a.isNone ∧ Below w.heap.size w w' ∧ Ints w' a' n f ∧ ∀ x, a' = some x → w.heap.size ≤ x.block := by
  cases a with
  | none =>
    obtain rfl := hz rfl
    exact (copyI_nil 0 c w).mono fun e w' ⟨he, hw⟩ => ⟨none, 0, he, rfl, hw ▸ Below.refl _ _, .inl rfl, fun x h => by cases h⟩
  | some ad => exact (copyI_some ad n c f w hn h0).mono fun e w' ⟨he, hb, hr⟩ => ⟨_, _, he, rfl, hb, ints_of_row hr (Nat.le_refl _), fun x h => by cases h; exact Nat.le_refl _⟩

/-! ### sameInts -/

theorem sameI_zero (a b : Option Addr) (ca cb : Nat) (w : World) (hnn : a.isNone = b.isNone) :
    Calls Try.prog 14 #[.slice a 0 ca, .slice b 0 cb] w fun e w' => e = .returned (.bool true) ∧ w' = w := by
  have k := fun (w : World) (a : Option Addr) (n c n' c' : Nat) => Lib.run_eql_slice_nil (P := Try.prog) w 22 3 a n c n' c' Try.underlying22
  have e3 : (b.isNone != b.isNone) = false := by simp
  go_enter Try.func14, Try.ntmps14
  go_wp2
  refine wp_loop_rounds 1 ?_
  rw [rounds_succ]
  go_wp2
  go_ret
  exact ⟨rfl, rfl⟩

set_option maxHeartbeats 1000000 in
theorem sameI_some (b0 o0 b1 o1 n ca cb : Nat) (f : Nat → Int) (w : World) (hn : n ≤ 1048576)
    (h0 : ∀ i, i < n → w.cell? ⟨b0, o0 + i, none⟩ = some (.int .i64 (f i))) (h1 : ∀ i, i < n → w.cell? ⟨b1, o1 + i, none⟩ = some (.int .i64 (f i))) :
    Calls Try.prog 14 #[.slice (some ⟨b0, o0, none⟩) n ca, .slice (some ⟨b1, o1, none⟩) n cb] w fun e w' => e = .returned (.bool true) ∧ Drn w w' := by
  have k := fun (w : World) (a : Option Addr) (n c n' c' : Nat) => Lib.run_eql_slice_nil (P := Try.prog) w 22 3 a n c n' c' Try.underlying22
  have hne : ((n : Int) != (n : Int)) = false := by simp
  have H0 : Hid (∀ i, i < n → w.cell? ⟨b0, o0 + i, none⟩ = some (.int .i64 (f i))) := h0
  have H1 : Hid (∀ i, i < n → w.cell? ⟨b1, o1 + i, none⟩ = some (.int .i64 (f i))) := h1
  clear h0 h1
  go_enter Try.func14, Try.ntmps14
  go_wp2
  clear k
  go_loopg [5] n (fun g i wr => ∃ k : Nat, k + g = n ∧ i = .int .i64 k ∧ Drn w wr)
  case atStart => exact ⟨0, by omega, rfl, Drn.refl _⟩
  case round =>
    obtain ⟨k, hk, rfl, q, rfl⟩ := hrel
    have hq : Drn w (w.drewN q) := Drn.mk w q
    by_cases hlt : k < n
    · have c0 := H0.out k hlt
      have c1 := H1.out k hlt
      have hki : (k : Int) < (n : Int) := by omega
      have hnf : (f k != f k) = false := by simp
      go_wp2
      go_quiet (fail)
      go_wp2
      go_roundg (n - (k + 1))
      case measure => omega
      case rel => exact ⟨k + 1, by omega, by go_num, by repeat (first | exact hq | exact Drn.refl _ | apply Drn.step | apply Drn.drew)⟩
    · go_wp2
      go_ret
      exact ⟨rfl, hq⟩

theorem sameI_any (a b : Option Addr) (n ca cb : Nat) (f : Nat → Int) (w : World) (hn : n ≤ 1048576) (hnn : a.isNone = b.isNone) (h0 : Ints w a n f) (h1 : Ints w b n f) :
    Calls Try.prog 14 #[.slice a n ca, .slice b n cb] w fun e w' => e = .returned (.bool true) ∧ Drn w w' := by
  by_cases hz : n = 0
  · subst hz
    exact (sameI_zero a b ca cb w hnn).mono fun e w' ⟨he, hw⟩ => ⟨he, hw ▸ Drn.refl _⟩
  · rcases h0 with h0 | ⟨b0, o0, rfl, h0⟩
    · exact absurd h0 hz
    rcases h1 with h1 | ⟨b1, o1, rfl, h1⟩
    · exact absurd h1 hz
    exact sameI_some b0 o0 b1 o1 n ca cb f w hn h0 h1

/-! ### CloneRows -/

/-- The call's own row of n rows, the first k filled. -/
def RRow (w : World) (B n k : Nat) (ol : Nat → Nat) (f : Nat → Nat → Int) : Prop :=
  ∃ (F : Nat → Value) (sa : Nat → Option Addr) (sc : Nat → Nat), w.rowIs B 22 n F ∧ ∀ i, i < k →
    F i = .slice (sa i) (ol i) (sc i) ∧ Ints w (sa i) (ol i) (f i) ∧ ((sa i).isNone = true → ol i = 0) ∧ ∀ x, sa i = some x → B < x.block

theorem Ints.setOther {w : World} {a : Option Addr} {n : Nat} {f : Nat → Int} (h : Ints w a n f) {p : Addr} (hp : ∀ x, a = some x → x.block ≠ p.block) (v : Value) : Ints (w.setCell p v) a n f := by
  rcases h with h | ⟨b, off, rfl, hc⟩
  · exact .inl h
  · refine .inr ⟨b, off, rfl, fun i hi => ?_⟩
    have hb : (w.setCell p v).heap[b]? = w.heap[b]? := Deep.blk_setCell_other _ _ _ _ (hp _ rfl)
    rw [World.cell?_of_block (w := w) (a := ⟨b, off + i, none⟩) hb]
    exact hc i hi

theorem RRow.step {w w2 : World} {B n k : Nat} {ol : Nat → Nat} {f : Nat → Nat → Int} (h : RRow w B n k ol f) (hk : k < n) (hb : Below w.heap.size w w2) {a : Option Addr} {c : Nat}
    (hs : Ints w2 a (ol k) (f k)) (hz : a.isNone = true → ol k = 0) (hn : ∀ x, a = some x → B < x.block) : RRow (w2.setCell ⟨B, k, none⟩ (.slice a (ol k) c)) B n (k + 1) ol f := by
  obtain ⟨F, sa, sc, hr, hi⟩ := h
  refine ⟨_, fun i => if i = k then a else sa i, fun i => if i = k then c else sc i, (rowIs_below hr hb hr.lt).set k _, fun i hik => ?_⟩
  by_cases e : i = k
  · subst e
    simp only [if_true]
    exact ⟨trivial, hs.setOther (fun x hx => by have := hn x hx; simp; omega) _, hz, hn⟩
  · simp only [e, if_false]
    obtain ⟨h1, h2, h3, h4⟩ := hi i (by omega)
    exact ⟨h1, (h2.below hb (Nat.le_refl _)).setOther (fun x hx => by have := h4 x hx; simp; omega) _, h3, h4⟩

theorem RRow.rows {w : World} {B n : Nat} {ol : Nat → Nat} {f : Nat → Nat → Int} (h : RRow w B n n ol f) : Rows w (some ⟨B, 0, none⟩) n ol f := by
  obtain ⟨F, sa, sc, hr, hi⟩ := h
  refine .inr ⟨B, 0, sa, sc, rfl, fun i hin => ?_⟩
  obtain ⟨h1, h2, h3, _⟩ := hi i hin
  exact ⟨by rw [Nat.zero_add, hr.cell hin, h1], h2, h3⟩

theorem cloneRows_nil (n c : Nat) (w : World) :
    Calls Try.prog 11 #[.slice none n c] w fun e w' => e = .returned (.slice none 0 0) ∧ w' = w := by
  have k := fun (w : World) (a : Option Addr) (n c n' c' : Nat) => Lib.run_eql_slice_nil (P := Try.prog) w 23 22 a n c n' c' Try.underlying23
  go_enter Try.func11, Try.ntmps11
  go_wp2
  go_ret
  exact ⟨rfl, rfl⟩

set_option maxHeartbeats 2000000 in
theorem cloneRows_some (ad : Addr) (n c : Nat) (ol : Nat → Nat) (f : Nat → Nat → Int) (w : World) (hn : n ≤ 4096) (hol : ∀ i, i < n → ol i ≤ 131072) (hK : Rows w (some ad) n ol f) :
    Calls Try.prog 11 #[.slice (some ad) n c] w fun e w' => e = .returned (.slice (some ⟨w.heap.size, 0, none⟩) n n) ∧ Below w.heap.size w w' ∧ RRow w' w.heap.size n n ol f := by
  have k0 := fun (w : World) (a : Option Addr) (n c n' c' : Nat) => Lib.run_eql_slice_nil (P := Try.prog) w 23 22 a n c n' c' Try.underlying23
  have hmk := run_make_row' (P := Try.prog) 23 22 (.slice none 0 0) 24 Try.underlying23 Try.info22 rfl .i64 .i64 n (by omega) (by omega)
  have HK : Hid (Rows w (some ad) n ol f) := hK
  have HOL : Hid (∀ i, i < n → ol i ≤ 131072) := hol
  clear hK hol
  go_enter Try.func11, Try.ntmps11
  go_wp2
  clear hmk k0
  go_loopg [4] n (fun g i wr => ∃ k : Nat, k + g = n ∧ i = .int .i64 k ∧ Below w.heap.size w wr ∧ RRow wr w.heap.size n k ol f)
  case atStart => exact ⟨0, by omega, rfl, (Below.refl _ _).alloc (Nat.le_refl _) _, _, fun _ => none, fun _ => 0, World.rowIs_made w (.slice none 0 0) n 22, fun i h => by omega⟩
  case round =>
    obtain ⟨k, hk, rfl, hb, hr⟩ := hrel
    have BEL : Hid (Below w.heap.size w wr) := hb
    have ROW : Hid (RRow wr w.heap.size n k ol f) := hr
    by_cases hlt : k < n
    · have hlt' : (k : Int) < (n : Int) := by omega
      rcases HK.out with h | ⟨b, off, sa, sc, e, hc⟩
      · omega
      obtain ⟨c1, c2, c3⟩ := hc k hlt
      have lb : b < w.heap.size := World.block_lt_of_cell? w ⟨b, off + k, none⟩ c1
      have d1 := (hb.cell (p := ⟨b, off + k, none⟩) lb).trans c1
      have C2 := c2.below hb (Nat.le_refl _)
      have HC2 : Hid (Ints wr (sa k) (ol k) (f k)) := C2
      have HC3 : Hid ((sa k).isNone = true → ol k = 0) := c3
      obtain ⟨F, _, _, hF, _⟩ := hr
      have lt0 : w.heap.size < wr.heap.size := hF.lt
      have HF : Hid (wr.rowIs w.heap.size 22 n F) := hF
      injection e with e
      subst e
      clear hb hc c1 c2 c3 hF C2
      go_wp2_with fail
      refine (copyI_any (sa k) (ol k) (sc k) (f k) wr (by have := HOL.out k hlt; omega) HC3.out HC2.out).mono ?_
      rintro e w2 ⟨a', c', rfl, hnn, hb2, hby, hnew⟩
      have STEP : Hid (RRow (w2.setCell ⟨w.heap.size, k, none⟩ (.slice a' (ol k) c')) w.heap.size n (k + 1) ol f) :=
        ROW.out.step hlt hb2 hby (fun h => HC3.out (by rw [← hnn]; exact h)) (fun x hx => by have := hnew x hx; omega)
      have B2 : Hid (Below w.heap.size w w2) := bel_trans BEL.out hb2
      have hF2 := rowIs_below HF.out hb2 lt0
      have e0 := hF2.cell (i := k) hlt
      have e1 := hF2.frozen k
      clear hb2 hby hnew hnn hF2
      go_wp2
      go_roundg (n - (k + 1))
      case measure => omega
      case rel => exact ⟨k + 1, by omega, by go_num, B2.out.setCell (Nat.le_refl _) _, STEP.out⟩
    · obtain rfl : k = n := by omega
      clear hb hr
      go_wp2
      go_ret
      exact ⟨rfl, BEL.out, ROW.out⟩

/-- CloneRows. -/
theorem cloneRows_any (a : Option Addr) (n c : Nat) (ol : Nat → Nat) (f : Nat → Nat → Int) (w : World) (hn : n ≤ 4096) (hol : ∀ i, i < n → ol i ≤ 131072) (hz : a.isNone = true → n = 0) (hK : Rows w a n ol f) :
    Calls Try.prog 11 #[.slice a n c] w fun e w' => ∃ a' c', e = .returned (.slice a' n c') ∧ Below w.heap.size w w' ∧ Rows w' a' n ol f := by
  cases a with
  | none =>
    obtain rfl := hz rfl
    exact (cloneRows_nil 0 c w).mono fun e w' ⟨he, hw⟩ => ⟨none, 0, he, hw ▸ Below.refl _ _, .inl rfl⟩
  | some ad => exact (cloneRows_some ad n c ol f w hn hol hK).mono fun e w' ⟨he, hb, hr⟩ => ⟨_, _, he, hb, hr.rows⟩
end Go.Proofs.Qxb6605452a
